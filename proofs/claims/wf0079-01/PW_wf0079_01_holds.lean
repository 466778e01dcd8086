import PyProof.Rows.All
import Wide.All
import OpenK.AllK
import Wide.FinOn
import Lean
import PySem.Challenge.RW_wf0079_01
set_option Elab.async false
set_option maxRecDepth 100000
set_option maxHeartbeats 0
set_option compiler.extract_closed false
section
open PySem PySem.W PyProof.Rows
namespace Mine
noncomputable def ob1 : Params → Obj := fun P => { cls := Value.type "dict", data := Data.dict #[{ hash := PyData.keyHash P (Str.ofString "builtins"), key := Value.str (Str.ofString "builtins") 162, val := Value.ref 4 }, { hash := PyData.keyHash P (Str.ofString "__main__"), key := Value.str (Str.ofString "__main__") 163, val := Value.ref 5 }, { hash := PyData.keyHash P (Str.ofString "_sre"), key := Value.str (Str.ofString "_sre") 244, val := Value.ref 12 }] 3 }
noncomputable def ob2 : Params → Obj := fun P => { cls := Value.none, data := Data.dict #[{ hash := PyData.keyHash P (Str.ofString "\x69mport.loaded._sre"), key := Value.str (Str.ofString "\x69mport.loaded._sre") 183, val := Value.bool Bool.true }, { hash := PyData.keyHash P (Str.ofString "class._frozen_importlib.BuiltinImporter"), key := Value.str (Str.ofString "class._frozen_importlib.BuiltinImporter") 185, val := Value.ref 14 }, { hash := PyData.keyHash P (Str.ofString "watched.\x69mport"), key := Value.str (Str.ofString "watched.\x69mport") 206, val := Value.ref 18 }, { hash := PyData.keyHash P (Str.ofString "class._frozen_importlib.ModuleSpec"), key := Value.str (Str.ofString "class._frozen_importlib.ModuleSpec") 216, val := Value.ref 22 }, { hash := PyData.keyHash P (Str.ofString "sys.modules.booked-epoch"), key := Value.str (Str.ofString "sys.modules.booked-epoch") 245, val := Value.int 3 0 }, { hash := PyData.keyHash P (Str.ofString "\x69mport.later-laid._sre"), key := Value.str (Str.ofString "\x69mport.later-laid._sre") 270, val := Value.bool Bool.true }, { hash := PyData.keyHash P (Str.ofString "watched.library"), key := Value.str (Str.ofString "watched.library") 272, val := Value.ref 27 }, { hash := PyData.keyHash P (Str.ofString "watched.library-objects"), key := Value.str (Str.ofString "watched.library-objects") 0, val := Value.str (Str.ofString "\x0c") 0 }, { hash := PyData.keyHash P (Str.ofString "watched.library-deep._sre"), key := Value.str (Str.ofString "watched.library-deep._sre") 273, val := Value.str (Str.ofString "\x04\x00\x00\x0b\x04\x00\x00\x0b\x04\x00\x00\x03\x04\x00\x00\x0b\x08\x04dict\x02") 0 }] 9 }
noncomputable def ob3 : Params → Obj := fun P => { cls := Value.type "dict", data := Data.dict #[{ hash := PyData.keyHash P (Str.ofString "__name__"), key := Value.str (Str.ofString "__name__") 165, val := Value.str (Str.ofString "__main__") 164 }, { hash := PyData.keyHash P (Str.ofString "__doc__"), key := Value.str (Str.ofString "__doc__") 166, val := Value.none }, { hash := PyData.keyHash P (Str.ofString "__package__"), key := Value.str (Str.ofString "__package__") 167, val := Value.none }, { hash := PyData.keyHash P (Str.ofString "__loader__"), key := Value.str (Str.ofString "__loader__") 168, val := Value.builtin "__main__.__loader__#opaque" }, { hash := PyData.keyHash P (Str.ofString "__spec__"), key := Value.str (Str.ofString "__spec__") 169, val := Value.none }, { hash := PyData.keyHash P (Str.ofString "__annotations__"), key := Value.str (Str.ofString "__annotations__") 170, val := Value.ref 6 }, { hash := PyData.keyHash P (Str.ofString "__builtins__"), key := Value.str (Str.ofString "__builtins__") 171, val := Value.ref 4 }, { hash := PyData.keyHash P (Str.ofString "__file__"), key := Value.str (Str.ofString "__file__") 173, val := Value.str (Str.ofString "/claim/cut.py") 172 }, { hash := PyData.keyHash P (Str.ofString "__cached__"), key := Value.str (Str.ofString "__cached__") 174, val := Value.none }, { hash := PyData.keyHash P (Str.ofString "_sre"), key := Value.str (Str.ofString "_sre") 275, val := Value.ref 12 }] 10 }
noncomputable def ob11 : Params → Obj := fun P => { cls := Value.type "dict", data := Data.dict #[{ hash := PyData.keyHash P (Str.ofString "__name__"), key := Value.str (Str.ofString "__name__") 247, val := Value.str (Str.ofString "_sre") 246 }, { hash := PyData.keyHash P (Str.ofString "__doc__"), key := Value.str (Str.ofString "__doc__") 248, val := Value.none }, { hash := PyData.keyHash P (Str.ofString "__package__"), key := Value.str (Str.ofString "__package__") 250, val := Value.str (Str.ofString "") 249 }, { hash := PyData.keyHash P (Str.ofString "__loader__"), key := Value.str (Str.ofString "__loader__") 251, val := Value.builtin "off-the-table:_sre.__loader__:shared#opaque" }, { hash := PyData.keyHash P (Str.ofString "__spec__"), key := Value.str (Str.ofString "__spec__") 252, val := Value.builtin "off-the-table:_sre.__spec__:shared#opaque" }, { hash := PyData.keyHash P (Str.ofString "compile"), key := Value.str (Str.ofString "compile") 253, val := Value.builtin "_sre.compile" }, { hash := PyData.keyHash P (Str.ofString "template"), key := Value.str (Str.ofString "template") 254, val := Value.builtin "off-the-table:_sre.template:shared#opaque" }, { hash := PyData.keyHash P (Str.ofString "getcodesize"), key := Value.str (Str.ofString "getcodesize") 255, val := Value.builtin "off-the-table:_sre.getcodesize:shared#opaque" }, { hash := PyData.keyHash P (Str.ofString "ascii_iscased"), key := Value.str (Str.ofString "ascii_iscased") 256, val := Value.builtin "off-the-table:_sre.ascii_iscased:shared#opaque" }, { hash := PyData.keyHash P (Str.ofString "unicode_iscased"), key := Value.str (Str.ofString "unicode_iscased") 257, val := Value.builtin "off-the-table:_sre.unicode_iscased:shared#opaque" }, { hash := PyData.keyHash P (Str.ofString "ascii_tolower"), key := Value.str (Str.ofString "ascii_tolower") 258, val := Value.builtin "off-the-table:_sre.ascii_tolower:shared#opaque" }, { hash := PyData.keyHash P (Str.ofString "unicode_tolower"), key := Value.str (Str.ofString "unicode_tolower") 259, val := Value.builtin "off-the-table:_sre.unicode_tolower:shared#opaque" }, { hash := PyData.keyHash P (Str.ofString "MAGIC"), key := Value.str (Str.ofString "MAGIC") 261, val := Value.int 20230612 260 }, { hash := PyData.keyHash P (Str.ofString "CODESIZE"), key := Value.str (Str.ofString "CODESIZE") 263, val := Value.int 4 262 }, { hash := PyData.keyHash P (Str.ofString "MAXREPEAT"), key := Value.str (Str.ofString "MAXREPEAT") 265, val := Value.int 4294967295 264 }, { hash := PyData.keyHash P (Str.ofString "MAXGROUPS"), key := Value.str (Str.ofString "MAXGROUPS") 267, val := Value.int 1073741823 266 }, { hash := PyData.keyHash P (Str.ofString "copyright"), key := Value.str (Str.ofString "copyright") 269, val := Value.str (Str.ofString " SRE 2.2.2 Copyright (c) 1997-2002 by Secret Labs AB ") 268 }] 17 }
noncomputable def ob12 : Params → Obj := fun P => { cls := Value.type "module", dict := some 11 }
noncomputable def ob13 : Params → Obj := fun P => { cls := Value.type "dict", data := Data.dict #[{ hash := PyData.keyHash P (Str.ofString "__module__"), key := Value.str (Str.ofString "__module__") 189, val := Value.str (Str.ofString "_frozen_importlib") 186 }, { hash := PyData.keyHash P (Str.ofString "__firstlineno__"), key := Value.str (Str.ofString "__firstlineno__") 190, val := Value.int 971 187 }, { hash := PyData.keyHash P (Str.ofString "__doc__"), key := Value.str (Str.ofString "__doc__") 191, val := Value.builtin "_frozen_importlib.BuiltinImporter.__doc__:str#opaque" }, { hash := PyData.keyHash P (Str.ofString "_ORIGIN"), key := Value.str (Str.ofString "_ORIGIN") 192, val := Value.str (Str.ofString "built-in") 188 }, { hash := PyData.keyHash P (Str.ofString "find_spec"), key := Value.str (Str.ofString "find_spec") 193, val := Value.builtin "_frozen_importlib.BuiltinImporter.find_spec#opaque" }, { hash := PyData.keyHash P (Str.ofString "create_module"), key := Value.str (Str.ofString "create_module") 194, val := Value.builtin "_frozen_importlib.BuiltinImporter.create_module#opaque" }, { hash := PyData.keyHash P (Str.ofString "exec_module"), key := Value.str (Str.ofString "exec_module") 195, val := Value.builtin "_frozen_importlib.BuiltinImporter.exec_module#opaque" }, { hash := PyData.keyHash P (Str.ofString "get_code"), key := Value.str (Str.ofString "get_code") 196, val := Value.builtin "_frozen_importlib.BuiltinImporter.get_code#opaque" }, { hash := PyData.keyHash P (Str.ofString "get_source"), key := Value.str (Str.ofString "get_source") 197, val := Value.builtin "_frozen_importlib.BuiltinImporter.get_source#opaque" }, { hash := PyData.keyHash P (Str.ofString "is_package"), key := Value.str (Str.ofString "is_package") 198, val := Value.builtin "_frozen_importlib.BuiltinImporter.is_package#opaque" }, { hash := PyData.keyHash P (Str.ofString "load_module"), key := Value.str (Str.ofString "load_module") 199, val := Value.builtin "_frozen_importlib.BuiltinImporter.load_module#opaque" }, { hash := PyData.keyHash P (Str.ofString "__static_attributes__"), key := Value.str (Str.ofString "__static_attributes__") 200, val := Value.ref 15 }, { hash := PyData.keyHash P (Str.ofString "__dict__"), key := Value.str (Str.ofString "__dict__") 202, val := Value.ref 16 }, { hash := PyData.keyHash P (Str.ofString "__weakref__"), key := Value.str (Str.ofString "__weakref__") 204, val := Value.ref 17 }] 14 }
noncomputable def ob14 : Params → Obj := fun P => { cls := Value.type "type", data := Data.cls { name := Str.ofString "BuiltinImporter", bases := [Value.type "object"], mro := [Value.ref 14, Value.type "object"], ns := 13, qualname := Str.ofString "BuiltinImporter" } }
noncomputable def ob16 : Params → Obj := fun P => { cls := Value.type "getset_descriptor", data := Data.fields #[Value.str (Str.ofString "__dict__") 201, Value.ref 14, Value.builtin "function.__dict__", Value.builtin "function.__dict__#set"] }
noncomputable def ob17 : Params → Obj := fun P => { cls := Value.type "getset_descriptor", data := Data.fields #[Value.str (Str.ofString "__weakref__") 203, Value.ref 14, Value.builtin "ExceptionGroup.__weakref__", Value.none] }
noncomputable def ob18 : Params → Obj := fun P => { cls := Value.none, data := Data.seq #[Value.int 13 0, Value.str (Str.ofString "\x06½\n__module__\x06º\x11_frozen_importlib\x06¾\x0f__firstlineno__\x04»\x00ϋ\x06¿\x07__doc__\t4_frozen_importlib.BuiltinImporter.__doc__:str#opaque\x06À\x07_ORIGIN\x06¼\x08built-in\x06Á\tfind_spec\t2_frozen_importlib.BuiltinImporter.find_spec#opaque\x06Â\x0dcreate_module\t6_frozen_importlib.BuiltinImporter.create_module#opaque\x06Ã\x0bexec_module\t4_frozen_importlib.BuiltinImporter.exec_module#opaque\x06Ä\x08get_code\t1_frozen_importlib.BuiltinImporter.get_code#opaque\x06Å\nget_source\t3_frozen_importlib.BuiltinImporter.get_source#opaque\x06Æ\nis_package\t3_frozen_importlib.BuiltinImporter.is_package#opaque\x06Ç\x0bload_module\t4_frozen_importlib.BuiltinImporter.load_module#opaque\x06È\x15__static_attributes__\x04\x00\x00\x0f\x06Ê\x08__dict__\x04\x00\x00\x10\x06Ì\x0b__weakref__\x04\x00\x00\x11") 0, Value.bool Bool.true, Value.bool Bool.true, Value.str (Str.ofString "") 205, Value.int 21 0, Value.str (Str.ofString "\x06ã\n__module__\x06Ù\x11_frozen_importlib\x06ä\x0f__firstlineno__\x04Ú\x00Ȳ\x06å\x07__doc__\t/_frozen_importlib.ModuleSpec.__doc__:str#opaque\x06æ\x08__init__\t,_frozen_importlib.ModuleSpec.__init__#opaque\x06ç\x08__repr__\t,_frozen_importlib.ModuleSpec.__repr__#opaque\x06è\x06__eq__\t*_frozen_importlib.ModuleSpec.__eq__#opaque\x06é\x06cached\t*_frozen_importlib.ModuleSpec.cached#opaque\x06ê\x06parent\t*_frozen_importlib.ModuleSpec.parent#opaque\x06ë\x0chas_location\t0_frozen_importlib.ModuleSpec.has_location#opaque\x06ì\x15__static_attributes__\x04\x00\x00\x17\x06î\x08__dict__\x04\x00\x00\x18\x06ð\x0b__weakref__\x04\x00\x00\x19\x06ñ\x08__hash__\x00") 0, Value.bool Bool.true, Value.bool Bool.true, Value.str (Str.ofString "") 242] 1 }
noncomputable def ob19 : Params → Obj := fun P => { cls := Value.type "list", data := Data.seq #[] }
noncomputable def ob20 : Params → Obj := fun P => { cls := Value.type "dict", data := Data.dict #[{ hash := PyData.keyHash P (Str.ofString "name"), key := Value.str (Str.ofString "name") 208, val := Value.str (Str.ofString "_sre") 207 }, { hash := PyData.keyHash P (Str.ofString "loader"), key := Value.str (Str.ofString "loader") 209, val := Value.ref 14 }, { hash := PyData.keyHash P (Str.ofString "origin"), key := Value.str (Str.ofString "origin") 210, val := Value.str (Str.ofString "built-in") 184 }, { hash := PyData.keyHash P (Str.ofString "loader_state"), key := Value.str (Str.ofString "loader_state") 211, val := Value.none }, { hash := PyData.keyHash P (Str.ofString "submodule_search_locations"), key := Value.str (Str.ofString "submodule_search_locations") 212, val := Value.none }, { hash := PyData.keyHash P (Str.ofString "_uninitialized_submodules"), key := Value.str (Str.ofString "_uninitialized_submodules") 213, val := Value.ref 19 }, { hash := PyData.keyHash P (Str.ofString "_set_fileattr"), key := Value.str (Str.ofString "_set_fileattr") 214, val := Value.bool Bool.false }, { hash := PyData.keyHash P (Str.ofString "_cached"), key := Value.str (Str.ofString "_cached") 215, val := Value.none }, { hash := PyData.keyHash P (Str.ofString "_initializing"), key := Value.str (Str.ofString "_initializing") 243, val := Value.bool Bool.false }] 9 }
noncomputable def ob21 : Params → Obj := fun P => { cls := Value.type "dict", data := Data.dict #[{ hash := PyData.keyHash P (Str.ofString "__module__"), key := Value.str (Str.ofString "__module__") 227, val := Value.str (Str.ofString "_frozen_importlib") 217 }, { hash := PyData.keyHash P (Str.ofString "__firstlineno__"), key := Value.str (Str.ofString "__firstlineno__") 228, val := Value.int 562 218 }, { hash := PyData.keyHash P (Str.ofString "__doc__"), key := Value.str (Str.ofString "__doc__") 229, val := Value.builtin "_frozen_importlib.ModuleSpec.__doc__:str#opaque" }, { hash := PyData.keyHash P (Str.ofString "__init__"), key := Value.str (Str.ofString "__init__") 230, val := Value.builtin "_frozen_importlib.ModuleSpec.__init__#opaque" }, { hash := PyData.keyHash P (Str.ofString "__repr__"), key := Value.str (Str.ofString "__repr__") 231, val := Value.builtin "_frozen_importlib.ModuleSpec.__repr__#opaque" }, { hash := PyData.keyHash P (Str.ofString "__eq__"), key := Value.str (Str.ofString "__eq__") 232, val := Value.builtin "_frozen_importlib.ModuleSpec.__eq__#opaque" }, { hash := PyData.keyHash P (Str.ofString "cached"), key := Value.str (Str.ofString "cached") 233, val := Value.builtin "_frozen_importlib.ModuleSpec.cached#opaque" }, { hash := PyData.keyHash P (Str.ofString "parent"), key := Value.str (Str.ofString "parent") 234, val := Value.builtin "_frozen_importlib.ModuleSpec.parent#opaque" }, { hash := PyData.keyHash P (Str.ofString "has_location"), key := Value.str (Str.ofString "has_location") 235, val := Value.builtin "_frozen_importlib.ModuleSpec.has_location#opaque" }, { hash := PyData.keyHash P (Str.ofString "__static_attributes__"), key := Value.str (Str.ofString "__static_attributes__") 236, val := Value.ref 23 }, { hash := PyData.keyHash P (Str.ofString "__dict__"), key := Value.str (Str.ofString "__dict__") 238, val := Value.ref 24 }, { hash := PyData.keyHash P (Str.ofString "__weakref__"), key := Value.str (Str.ofString "__weakref__") 240, val := Value.ref 25 }, { hash := PyData.keyHash P (Str.ofString "__hash__"), key := Value.str (Str.ofString "__hash__") 241, val := Value.none }] 13 }
noncomputable def ob22 : Params → Obj := fun P => { cls := Value.type "type", data := Data.cls { name := Str.ofString "ModuleSpec", bases := [Value.type "object"], mro := [Value.ref 22, Value.type "object"], ns := 21, qualname := Str.ofString "ModuleSpec" } }
noncomputable def ob23 : Params → Obj := fun P => { cls := Value.type "tuple", data := Data.seq #[Value.str (Str.ofString "_cached") 219, Value.str (Str.ofString "_set_fileattr") 220, Value.str (Str.ofString "_uninitialized_submodules") 221, Value.str (Str.ofString "loader") 222, Value.str (Str.ofString "loader_state") 223, Value.str (Str.ofString "name") 224, Value.str (Str.ofString "origin") 225, Value.str (Str.ofString "submodule_search_locations") 226] }
noncomputable def ob24 : Params → Obj := fun P => { cls := Value.type "getset_descriptor", data := Data.fields #[Value.str (Str.ofString "__dict__") 237, Value.ref 22, Value.builtin "function.__dict__", Value.builtin "function.__dict__#set"] }
noncomputable def ob25 : Params → Obj := fun P => { cls := Value.type "getset_descriptor", data := Data.fields #[Value.str (Str.ofString "__weakref__") 239, Value.ref 22, Value.builtin "ExceptionGroup.__weakref__", Value.none] }
noncomputable def ob26 : Params → Obj := fun P => { cls := Value.ref 22, dict := some 20 }
noncomputable def ob27 : Params → Obj := fun P => { cls := Value.none, data := Data.seq #[Value.int 11 0, Value.str { cps := #[6, 247, 8, 95, 95, 110, 97, 109, 101, 95, 95, 6, 246, 4, 95, 115, 114, 101, 6, 248, 7, 95, 95, 100, 111, 99, 95, 95, 0, 6, 250, 11, 95, 95, 112, 97, 99, 107, 97, 103, 101, 95, 95, 6, 249, 0, 6, 251, 10, 95, 95, 108, 111, 97, 100, 101, 114, 95, 95, 4, 0, 0, 14, 6, 252, 8, 95, 95, 115, 112, 101, 99, 95, 95, 4, 0, 0, 26, 6, 253, 7, 99, 111, 109, 112, 105, 108, 101, 9, 12, 95, 115, 114, 101, 46, 99, 111, 109, 112, 105, 108, 101, 6, 254, 8, 116, 101, 109, 112, 108, 97, 116, 101, 9, 13, 95, 115, 114, 101, 46, 116, 101, 109, 112, 108, 97, 116, 101, 6, 255, 11, 103, 101, 116, 99, 111, 100, 101, 115, 105, 122, 101, 9, 16, 95, 115, 114, 101, 46, 103, 101, 116, 99, 111, 100, 101, 115, 105, 122, 101, 6, 256, 13, 97, 115, 99, 105, 105, 95, 105, 115, 99, 97, 115, 101, 100, 9, 18, 95, 115, 114, 101, 46, 97, 115, 99, 105, 105, 95, 105, 115, 99, 97, 115, 101, 100, 6, 257, 15, 117, 110, 105, 99, 111, 100, 101, 95, 105, 115, 99, 97, 115, 101, 100, 9, 20, 95, 115, 114, 101, 46, 117, 110, 105, 99, 111, 100, 101, 95, 105, 115, 99, 97, 115, 101, 100, 6, 258, 13, 97, 115, 99, 105, 105, 95, 116, 111, 108, 111, 119, 101, 114, 9, 18, 95, 115, 114, 101, 46, 97, 115, 99, 105, 105, 95, 116, 111, 108, 111, 119, 101, 114, 6, 259, 15, 117, 110, 105, 99, 111, 100, 101, 95, 116, 111, 108, 111, 119, 101, 114, 9, 20, 95, 115, 114, 101, 46, 117, 110, 105, 99, 111, 100, 101, 95, 116, 111, 108, 111, 119, 101, 114, 6, 261, 5, 77, 65, 71, 73, 67, 4, 260, 0, 20230612, 6, 263, 8, 67, 79, 68, 69, 83, 73, 90, 69, 4, 262, 0, 4, 6, 265, 9, 77, 65, 88, 82, 69, 80, 69, 65, 84, 4, 264, 0, 4294967295, 6, 267, 9, 77, 65, 88, 71, 82, 79, 85, 80, 83, 4, 266, 0, 1073741823, 6, 269, 9, 99, 111, 112, 121, 114, 105, 103, 104, 116, 6, 268, 53, 32, 83, 82, 69, 32, 50, 46, 50, 46, 50, 32, 67, 111, 112, 121, 114, 105, 103, 104, 116, 32, 40, 99, 41, 32, 49, 57, 57, 55, 45, 50, 48, 48, 50, 32, 98, 121, 32, 83, 101, 99, 114, 101, 116, 32, 76, 97, 98, 115, 32, 65, 66, 32] } 0, Value.bool Bool.true, Value.bool Bool.false, Value.str (Str.ofString "_sre") 271] }
noncomputable def ob30 : Params → Obj := fun P => { cls := Value.type "code", data := Data.fields #[Value.str (Str.ofString "<module>") 277, Value.str (Str.ofString "<module>") 278, Value.str (Str.ofString "/claim/cut.py") 279, Value.int 1 0, Value.int 0 0, Value.int 0 0, Value.int 0 0, Value.int 0 0, Value.ref 28, Value.bool Bool.false, Value.int 276 0, Value.ref 29, Value.none, Value.none, Value.none, Value.none, Value.int 280 0, Value.int 1 0, Value.str (Str.ofString "/claim/cut.py") 281] }
noncomputable def ob31 : Params → Obj := fun P => { cls := Value.type "frame", slots := #[some (Value.ref 30), some (Value.ref 3), some (Value.ref 3), none, some (Value.str (Str.ofString "__main__") 164), none, some (Value.ref 0)] }
/-- the heap behind the opening, and the state in which the text's own statements begin -/
noncomputable def hp : Params → Heap := fun P => ⟨#[boot_o_0 P, ob1 P, ob2 P, ob3 P, boot_o_4 P, boot_o_5 P, boot_o_6 P, boot_o_7 P, boot_o_8 P, boot_o_9 P, boot_o_10 P, ob11 P, ob12 P, ob13 P, ob14 P, boot_o_7 P, ob16 P, ob17 P, ob18 P, ob19 P, ob20 P, ob21 P, ob22 P, ob23 P, ob24 P, ob25 P, ob26 P, ob27 P], {}⟩
noncomputable def tr : Params → BT := fun P => .node (boot_o_0 P) (.node (ob1 P) (.node (ob3 P) (.node (boot_o_7 P) (.node (boot_o_7 P) (.node (ob31 P) (.nil) (.nil)) (.nil)) (.node (ob23 P) (.nil) (.nil))) (.node (ob11 P) (.node (ob19 P) (.nil) (.nil)) (.node (ob27 P) (.nil) (.nil)))) (.node (boot_o_5 P) (.node (boot_o_9 P) (.node (ob17 P) (.nil) (.nil)) (.node (ob25 P) (.nil) (.nil))) (.node (ob13 P) (.node (ob21 P) (.nil) (.nil)) (.node (boot_o_8 P) (.nil) (.nil))))) (.node (ob2 P) (.node (boot_o_4 P) (.node (boot_o_8 P) (.node (ob16 P) (.nil) (.nil)) (.node (ob24 P) (.nil) (.nil))) (.node (ob12 P) (.node (ob20 P) (.nil) (.nil)) (.node (boot_o_7 P) (.nil) (.nil)))) (.node (boot_o_6 P) (.node (boot_o_10 P) (.node (ob18 P) (.nil) (.nil)) (.node (ob26 P) (.nil) (.nil))) (.node (ob14 P) (.node (ob22 P) (.nil) (.nil)) (.node (ob30 P) (.nil) (.nil)))))
noncomputable abbrev P0 : Program := PySem.Challenge.rw_wf0079_01.row.toRowW.1
noncomputable def keep : List Nat := [0, 1, 3, 4, 5, 6, 7, 8, 9, 10, 11, 12, 13, 14, 15, 16, 17, 18, 19, 20, 21, 22, 23, 24, 25, 26, 27, 28, 29, 30, 31, 32, 33, 34, 35, 36, 37, 38, 39, 40, 41, 42, 43, 44, 45, 46, 47, 48, 49, 50, 51, 52, 53, 54, 55, 57, 59, 60, 61, 63, 65, 66, 67, 68, 69, 70, 71, 72, 73, 74, 75, 76]
/-- the statements that the law's names hang on -/
noncomputable def vw : Program := view P0 keep
noncomputable abbrev env0 : Env := { scope := P0.main.scope, locals := mainNs, globals := mainNs, cells := [], code := .ref 30, frame := some 31 }
noncomputable abbrev pos0 : Pos := { line := 0, col := 0, endLine := 0, endCol := 0 }
noncomputable abbrev pos1 : Pos := { line := 264, col := 0, endLine := 269, endCol := 111 }
noncomputable abbrev bE : List Stmt := behindTheImports P0
noncomputable abbrev cE : Code := .body bE env0
noncomputable abbrev loo : List PySem.Str := [Str.ofString "EXACT_TOKEN_TYPES", Str.ofString "tspecials", Str.ofString "_name_disallowed_re", Str.ofString "_value_disallowed_re", Str.ofString "_formatparam"]
noncomputable abbrev ann : Option Value := some (.ref 6)
noncomputable abbrev Xt (s : Shared) : Bool := xlAt vw [] s && recOk (RowW.records PySem.Challenge.rw_wf0079_01.row.toRowW) s
noncomputable abbrev s0 (w : World) (os : OsState) : Shared := ⟨hp w.params, #[], {}, 276, os⟩
noncomputable abbrev st0 (w : World) (os : OsState) : SharedT := ⟨tr w.params, 32, {}, #[], {}, 282, os⟩

/-- one entry of a dict whose key is a text -/
noncomputable def en (P : Params) (n : PySem.Str) (i : Nat) (v : Value) : DictEntry := { hash := PyData.keyHash P n, key := .str n i, val := v }
/-- the text's first names and numbers, and its table of signs, read off the text itself -/
noncomputable def intOf : Stmt → PySem.Str × Int
  | .Assign (.Name n _ :: _) (.Constant (.int k) _ _) _ => (n, k)
  | _ => default
noncomputable def nameIn : Expr → PySem.Str
  | .Name n _ => n
  | _ => default
noncomputable def signOf : Option Expr → PySem.Str
  | some (.Constant (.str s) _ _) => s
  | _ => default
noncomputable def tabOf : Stmt → List (PySem.Str × PySem.Str)
  | .Assign _ (.Dict ks vs _) _ => (ks.map signOf).zip (vs.map nameIn)
  | _ => []
noncomputable def cints : List (PySem.Str × Int) := ((bE.drop 2).take 50).map intOf
noncomputable def intAt (n : PySem.Str) : Value := match cints.findIdx? (fun p => PySem.W.Fast.sEq p.1 n) with
  | some i => .int (cints.getD i default).2 (291 + 2 * i)
  | none => .none
noncomputable def signs (P : Params) : List DictEntry := (tabOf (bE.getD 52 default)).mapIdx fun j p => en P p.1 (if j ≤ 34 then 391 + 2 * j else 425 + j) (intAt p.2)
noncomputable def wall : Arguments × List Stmt × Scope := match bE with
  | .FunctionDef _ a b _ _ _ sc _ _ _ :: _ => (a, b, sc)
  | _ => default
noncomputable def ob3b : Params → Obj := fun P => { cls := Value.type "dict", data := Data.dict (([en P "__name__" 165 (.str "cpy313.token" 289), en P "__doc__" 166 .none, en P "__package__" 167 .none, en P "__loader__" 168 (.builtin "__main__.__loader__#opaque"), en P "__spec__" 169 .none,
  en P "__annotations__" 170 (.ref 6), en P "__builtins__" 171 (.ref 4), en P "__file__" 173 (.str "/claim/cut.py" 172), en P "__cached__" 174 .none, en P "_sre" 275 (.ref 12), en P "_wall" 288 (.ref 38)] ++
  cints.mapIdx (fun i p => en P p.1 (292 + 2 * i) (.int p.2 (291 + 2 * i))) ++ [en P "EXACT_TOKEN_TYPES" 487 (.ref 39)]).toArray) 62 }
noncomputable def ob29b : Params → Obj := fun _ => { cls := .none, data := .fields #[.int 2 0, .int 0 0, .ref 37] }
noncomputable def ob34 : Params → Obj := fun _ => { cls := .type "tuple", data := .seq #[.str "k" 285] }
noncomputable def ob36 : Params → Obj := fun _ => { cls := .none, data := .func { name := "_wall", qualname := "_wall", params := wall.1, body := .stmts wall.2.1, scope := wall.2.2, globals := 0, closure := [], defaults := .none, kwdefaults := .none } }
noncomputable def ob37 : Params → Obj := fun _ => { cls := .type "code", data := .fields #[.str "_wall" 282, .str "_wall" 283, .str "/claim/cut.py" 284, .int 2 0, .int 1 0, .int 0 0, .int 0 0, .int 3 0, .ref 32, .bool true, .int 276 0, .ref 33, .none, .ref 34, .ref 35, .ref 36, .int 286 0, .int 2 0, .str "/claim/cut.py" 287] }
noncomputable def ob38 : Params → Obj := fun _ => { cls := .type "function", data := .func { name := "_wall", qualname := "_wall", params := wall.1, body := .stmts wall.2.1, scope := wall.2.2, globals := 3, closure := [], defaults := .none, kwdefaults := .none, pyModule := .str "__main__" 164, code := .ref 37 } }
noncomputable def ob39 : Params → Obj := fun P => { cls := .type "dict", data := .dict (signs P).toArray 48 }
noncomputable def ob40 : Params → Obj := fun P => { cls := .type "dict", data := .dict (((signs P).drop 17).take 17).toArray 17 }
noncomputable def ob41 : Params → Obj := fun P => { cls := .type "dict", data := .dict ((signs P).drop 34).toArray 14 }
noncomputable def tr2 : Params → BT := fun P => .node (boot_o_0 P) (.node (ob1 P) (.node (ob3b P) (.node (boot_o_7 P) (.node (boot_o_7 P) (.node (ob31 P) (.nil) (.nil)) (.nil)) (.node (ob23 P) (.node (ob39 P) (.nil) (.nil)) (.nil))) (.node (ob11 P) (.node (ob19 P) (.node (boot_o_7 P) (.nil) (.nil)) (.nil)) (.node (ob27 P) (.nil) (.nil)))) (.node (boot_o_5 P) (.node (boot_o_9 P) (.node (ob17 P) (.node (boot_o_8 P) (.nil) (.nil)) (.nil)) (.node (ob25 P) (.node (ob41 P) (.nil) (.nil)) (.nil))) (.node (ob13 P) (.node (ob21 P) (.node (ob37 P) (.nil) (.nil)) (.nil)) (.node (ob29b P) (.nil) (.nil))))) (.node (ob2 P) (.node (boot_o_4 P) (.node (boot_o_8 P) (.node (ob16 P) (.node (boot_o_7 P) (.nil) (.nil)) (.nil)) (.node (ob24 P) (.node (ob40 P) (.nil) (.nil)) (.nil))) (.node (ob12 P) (.node (ob20 P) (.node (ob36 P) (.nil) (.nil)) (.nil)) (.node (boot_o_7 P) (.nil) (.nil)))) (.node (boot_o_6 P) (.node (boot_o_10 P) (.node (ob18 P) (.node (ob34 P) (.nil) (.nil)) (.nil)) (.node (ob26 P) (.nil) (.nil))) (.node (ob14 P) (.node (ob22 P) (.node (ob38 P) (.nil) (.nil)) (.nil)) (.node (ob30 P) (.nil) (.nil)))))
noncomputable abbrev st2 (w : World) (os : OsState) : SharedT := ⟨tr2 w.params, 42, {}, #[], {}, 488, os⟩
noncomputable abbrev pos2 : Pos := { line := 56, col := 0, endLine := 56, endCol := 17 }
noncomputable abbrev b1 : List Stmt := bE.take 53
noncomputable abbrev b2 : List Stmt := bE.drop 53

/-- what is looked at when the text is through -/
noncomputable abbrev lk {α : Type} (Yf : Shared → α) (w : World) (s : Shared) :=
  ((staticsOk (importedModules P0.main.body) (hp w.params) s.heap && namesBound P0 s.heap && gensDone s && laidKept (hp w.params) s.heap), openSeen vw loo (importedModules P0.main.body) Xt true s, Yf s)
noncomputable abbrev lkq {α : Type} (Yf : Shared → α) (w : World) (s : Shared) :=
  ((staticsOk (PySem.W.Fast.tw5923862056798008813 P0.main.body) (hp w.params) s.heap && namesBound P0 s.heap && gensDone s && laidKept (hp w.params) s.heap),
    PySem.W.Fast.tw4187177175401517315 vw loo (PySem.W.Fast.tw5923862056798008813 P0.main.body) Xt true s, Yf s)
@[reducible] noncomputable def Chk {α : Type} (Yf : Shared → α) (Ya : World → α) (w : World) (os : OsState) : Prop :=
  ((PySem.W.Fast.tw10110043849684766642 PySem.W.Fast.tw14364793385576792824 P0 w 28 ann 1 1450 (st2 w os) (piecesOf b2 env0 cE pos2 [topFrame pos0])).map fun r =>
    (r.1, r.2.2, (PySem.W.Fast.tw14082659384304107361 PySem.W.Fast.tw14364793385576792824 P0 w 28 ann 2 r.2.1.abs ⟨doneF .next, cE, pos1, [topFrame pos0]⟩).map (lkq Yf w))) = some (.next, (cE, pos1), some (true, openGood vw loo, Ya w))
@[reducible] noncomputable def Chk1 (w : World) (os : OsState) : Prop :=
  PySem.W.Fast.tw10110043849684766642 PySem.W.Fast.tw14364793385576792824 P0 w 28 ann 1 1470 (st0 w os) (piecesOf b1 env0 cE pos0 [topFrame pos0]) = some (.next, st2 w os, cE, pos2)
section
local macro_rules | `(tactic| o_head $_:term) => `(tactic| assumption)
/-- no more than a road to the fragment that the library writes out: mk.heap_1 -/
theorem mk (h : PySem.Challenge.rw_wf0079_01.row.Holds) : PySem.Challenge.rw_wf0079_01.row.Holds := by k_head
end
noncomputable def asK : List Addr := [2, 3, 32, 34, 35, 37, 38, 39, 42, 44, 45, 47, 48, 49, 51, 52, 54, 55, 56, 58, 59, 61, 62, 66, 67, 71, 72, 76, 77, 78, 79, 81, 82, 84, 85, 93, 94, 96, 97, 99, 100, 101, 103, 104, 106, 107, 108, 110, 111, 113, 114, 115, 117, 118, 120, 121, 122, 125, 126, 127, 129, 130, 132, 133, 134, 136, 137, 139, 140, 141, 143, 144, 146, 147, 148, 149, 151, 152, 154, 155, 156, 159, 160, 161, 164, 165, 166, 168, 169, 171, 172, 173, 175, 176, 178, 179, 180, 183, 184, 185, 187, 188, 190, 191, 192, 194, 195, 197, 198, 199, 201, 202, 204, 205, 206, 207, 208, 209, 210, 213, 216, 217, 218, 221, 222, 223, 225, 226, 228, 229, 230, 232, 233, 235, 236, 237, 239, 240, 242, 243, 244, 246, 247, 249, 250, 251, 253, 254, 256, 257, 258, 260, 261, 263, 264, 265, 268, 269, 270, 273, 274, 275, 278, 279, 280, 283, 284]
theorem asK_eq (P : Params) : asK = (mk.heap_1 P).map (·.1) := by kernel_rfl

theorem chk (w : World) (os : OsState) : Chk (kHook mk.heap_1 asK asK_eq).obs (kHook mk.heap_1 asK asK_eq).val w os := by kernel_rfl
theorem chkF (w : World) (os : OsState) : Chk1 (w.withFollow "special-get-raises" false) os := by kernel_rfl
theorem chkT (w : World) (os : OsState) : Chk1 (w.withFollow "special-get-raises" true) os := by kernel_rfl
theorem chk1 (w : World) (os : OsState) : segRunT treeTable P0 w 28 ann 1 1470 (st0 w os) (piecesOf b1 env0 cE pos0 [topFrame pos0]) = some (.next, st2 w os, cE, pos2) := by
  rw [PySem.W.Fast.te14364793385576792824, PySem.W.Fast.te10110043849684766642]
  exact byRow2 "special-get-raises" (P := fun w => ∀ os, Chk1 w os) chkF chkT w os
theorem op (w : World) : (fencedOpening treeTable P0 w 5956).map (fun s => (s.heap, s.gens, s.drawn, s.toks)) = some (hp w.params, #[], {}, 276) := by
  unfold fencedOpening
  rw [PySem.W.Fast.te10274390034422433532, PySem.W.Fast.te14289696077712309145, PySem.W.Fast.te1435165496053646825, PySem.W.Fast.te14364793385576792824]
  kernel_rfl
theorem siz (w : World) : ((hp w.params).isNs mainGlobals, (hp w.params).objs.size, (hp w.params).nsMap mainGlobals "__annotations__") = (true, 28, ann) := by kernel_rfl
theorem pre (w : World) (os : OsState) : topGo treeTable P0 w 28 ann 12 (s0 w os) (topStub P0) = some ((st0 w os).abs, ⟨denote treeTable cE, cE, pos0, [topFrame pos0]⟩) := by
  rw [PySem.W.Fast.te15667345088766844465, PySem.W.Fast.te14364793385576792824, PySem.W.Fast.te11892475500146522536]; kernel_rfl
theorem blk (w : World) (os : OsState) : segRun treeTable P0 w 28 ann 1 1 (st0 w os).abs (blockOf bE env0 cE pos0 [topFrame pos0]) = some (.next, (st0 w os).abs, cE, pos0) := by
  rw [PySem.W.Fast.te14374325043358763698, PySem.W.Fast.te14364793385576792824]; kernel_rfl
theorem left {α : Type} {Yf : Shared → α} {Ya : World → α} (h : ∀ (w : World) (os : OsState), ((segRunT treeTable P0 w 28 ann 1 1450 (st2 w os) (piecesOf b2 env0 cE pos2 [topFrame pos0])).map fun r =>
    (r.1, r.2.2, (topRun treeTable P0 w 28 ann 2 r.2.1.abs ⟨doneF .next, cE, pos1, [topFrame pos0]⟩).map (lk Yf w))) = some (.next, (cE, pos1), some (true, openGood vw loo, Ya w))) :
    LeftO P0 vw loo Xt Yf Ya 5956 := fun w => by
  obtain ⟨⟨h0, gs, d, k, os⟩, e, e'⟩ := Option.map_eq_some_iff.mp (op w)
  obtain ⟨rfl, rfl, rfl, rfl⟩ : h0 = hp w.params ∧ gs = #[] ∧ d = {} ∧ k = 276 := by simpa using e'
  obtain ⟨z1, z2, z3⟩ : _ ∧ _ ∧ _ := by simpa only [Prod.mk.injEq] using siz w
  obtain ⟨⟨f, S', c, p⟩, m1, m2⟩ := Option.map_eq_some_iff.mp (h w os)
  simp only [Prod.mk.injEq] at m2
  obtain ⟨rfl, ⟨rfl, rfl⟩, m3⟩ := m2
  obtain ⟨s1, m4, m5⟩ := Option.map_eq_some_iff.mp m3
  simp only [Prod.mk.injEq] at m5
  obtain ⟨l1, l2, l3⟩ := m5
  have r1 := segRun_of m1
  have r2 := piece_app (rest := []) r1 (piece_nil m4)
  rw [List.append_nil] at r2
  have r2' := piece_app (segRun_of (chk1 w os)) r2
  rw [List.take_append_drop] at r2'
  have r3 := piece_block (blk w os) r2'
  have r4 := go_top (pre w os) r3
  have r := topRun_mono (5956 - (12 + (1 + (1470 + (1450 + 2))))) _ _ _ _ r4
  rw [show 12 + (1 + (1470 + (1450 + 2))) + (5956 - (12 + (1 + (1470 + (1450 + 2))))) = 5956 from rfl] at r
  have t : topFrom treeTable P0 w 5956 (s0 w os) = some s1 := by
    unfold topFrom
    dsimp only
    rw [z1, z2, z3]
    rw [r]
    show (match staticsOk (importedModules P0.main.body) (hp w.params) s1.heap && namesBound P0 s1.heap && gensDone s1 && laidKept (hp w.params) s1.heap with | true => _ | false => _) = _
    rw [l1]
  unfold openEnds
  rw [e]
  show (topFrom treeTable P0 w 5956 _).map _ = _
  rw [t]
  exact congrArg some (Prod.ext l2 l3)
theorem lk_eq : @lk = @lkq := by
  unfold lk lkq
  rw [PySem.W.Fast.te5923862056798008813, PySem.W.Fast.te4187177175401517315]
theorem left2 {α : Type} {Yf : Shared → α} {Ya : World → α} (h : ∀ (w : World) (os : OsState), Chk Yf Ya w os) : LeftO P0 vw loo Xt Yf Ya 5956 := by
  refine left ?_
  rw [lk_eq, PySem.W.Fast.te14082659384304107361, PySem.W.Fast.te14364793385576792824, PySem.W.Fast.te10110043849684766642]
  exact h
theorem said : PySem.Challenge.rw_wf0079_01.wellSaid = true := by
  rw [PySem.W.Fast.te9446332074065402090]
  kernel_rfl
end Mine
end
section
open PySem PySem.W PyProof.Rows
namespace Mine
section
local macro_rules | `(tactic| o_law) => `(tactic| refine holds_law said fun said => ?_)
local macro_rules | `(tactic| k_head) => `(tactic| refine PySem.W.holds_open (q := vw) (loose := loo) (Xt := Xt) (XP := XL vw []) (Yf := (kHook mk.heap_1 asK asK_eq).obs) (Ya := (kHook mk.heap_1 asK asK_eq).val) (YP := (kHook mk.heap_1 asK asK_eq).says) (N := 5956)
    (left2 chk) (kHook mk.heap_1 asK asK_eq).of (kHook mk.heap_1 asK asK_eq).keeps (fun s e => xl_of s (Bool.and_eq_true_iff.mp e).1) XL.keeps (by rfl) (by rfl) (by rfl) (fun s e => recFacts_of (Bool.and_eq_true_iff.mp e).2) (by rfl) (by first | assumption | decide +kernel) (by decide +kernel) ⟨rfl, rfl, rfl, rfl, rfl, by decide +kernel⟩ ?hw ?hc)
open_top hd for PySem.Challenge.rw_wf0079_01
end
end Mine
end
section
namespace Mine
/-! the law's mathematics: products of three names, as numbers below 27 to the base 3 -/
noncomputable abbrev Pr := Fin 27
noncomputable def fg (p : Pr) (i : Nat) : Nat := p.val / 3 ^ i % 3
noncomputable def yOf (p : Pr) : Nat := (if fg p 0 = 1 then 1 else 0) + (if fg p 1 = 1 then 2 else 0) + (if fg p 2 = 1 then 4 else 0)
noncomputable def nOf (p : Pr) : Nat := (if fg p 0 = 2 then 1 else 0) + (if fg p 1 = 2 then 2 else 0) + (if fg p 2 = 2 then 4 else 0)
noncomputable def sub (p q : Pr) : Bool := (yOf p &&& yOf q) == yOf p && (nOf p &&& nOf q) == nOf p
noncomputable def cl (p q : Pr) : Nat := (yOf p &&& nOf q) ||| (nOf p &&& yOf q)
noncomputable def ofYN (y n : Nat) : Pr := ⟨(y % 2 + 2 * (n % 2) + 3 * (y / 2 % 2 + 2 * (n / 2 % 2)) + 9 * (y / 4 % 2 + 2 * (n / 4 % 2))) % 27, Nat.mod_lt _ (by decide)⟩
noncomputable def one (c : Nat) : Bool := c == 1 || (c == 2 || c == 4)
noncomputable def cn (p q : Pr) : Pr := ofYN ((yOf p ||| yOf q) - cl p q) ((nOf p ||| nOf q) - cl p q)
noncomputable def at_ (p : Pr) (x : Fin 8) : Bool := (yOf p &&& x.val) == yOf p && (nOf p &&& x.val) == 0
noncomputable def less (p : Pr) (i : Nat) : Pr := ⟨(p.val - fg p i * 3 ^ i) % 27, Nat.mod_lt _ (by decide)⟩
noncomputable def more (p : Pr) (i d : Nat) : Pr := ⟨(p.val + d * 3 ^ i) % 27, Nat.mod_lt _ (by decide)⟩

theorem sub_refl : ∀ p, sub p p = true := by decide +kernel
theorem sub_trans : ∀ p q, sub p q = true → ∀ r, sub q r = true → sub p r = true := by decide +kernel
theorem sub_anti : ∀ p q, sub p q = true → sub q p = true → p = q := by decide +kernel
theorem sub_at : ∀ p q, sub p q = true → ∀ x, at_ q x = true → at_ p x = true := by decide +kernel
theorem cn_at : ∀ p q, one (cl p q) = true → ∀ x, at_ (cn p q) x = true → at_ p x = true ∨ at_ q x = true := by decide +kernel
theorem cn_yn : ∀ p q, one (cl p q) = true → yOf (cn p q) = (yOf p ||| yOf q) - cl p q ∧ nOf (cn p q) = (nOf p ||| nOf q) - cl p q := by decide +kernel
theorem cl_sub : ∀ p q, sub p q = true → cl p q = 0 := by decide +kernel
theorem cn_comm : ∀ p q, cn p q = cn q p ∧ cl p q = cl q p := by decide +kernel
theorem full_sub : ∀ q, fg q 0 ≠ 0 → fg q 1 ≠ 0 → fg q 2 ≠ 0 → ∃ x, at_ q x = true ∧ ∀ o, at_ o x = true → sub o q = true := by decide +kernel
theorem key_step : ∀ q, ∀ i : Fin 3, fg q i = 0 → ∀ a, sub a (more q i 1) = true → sub a q = false → ∀ b, sub b (more q i 2) = true → sub b q = false → one (cl a b) = true ∧ sub (cn a b) q = true := by decide +kernel
theorem more_at : ∀ q, ∀ i : Fin 3, fg q i = 0 → sub q (more q i 1) = true ∧ sub q (more q i 2) = true := by decide +kernel
theorem less_sub : ∀ q, ∀ i : Fin 3, fg q i ≠ 0 → sub (less q i) q = true ∧ less q i ≠ q := by decide +kernel
theorem sub_less : ∀ a q, sub a q = true → a ≠ q → ∃ i : Fin 3, fg q i ≠ 0 ∧ sub a (less q i) = true := by decide +kernel

noncomputable def Impl (O : List Pr) (q : Pr) : Prop := ∀ x, at_ q x = true → ∃ o ∈ O, at_ o x = true
noncomputable def Prime (O : List Pr) (q : Pr) : Prop := Impl O q ∧ ∀ i : Fin 3, fg q i ≠ 0 → ¬ Impl O (less q i)

structure Inv (O W K : List Pr) : Prop where
  imp : ∀ p, p ∈ K ∨ p ∈ W → Impl O p
  orig : ∀ o ∈ O, ∃ q, (q ∈ K ∨ q ∈ W) ∧ sub q o = true
  cons : ∀ a ∈ K, ∀ b ∈ K, one (cl a b) = true → ∃ q, (q ∈ K ∨ q ∈ W) ∧ sub q (cn a b) = true
  anti : K.Pairwise (fun a b => sub a b = false ∧ sub b a = false)

theorem Inv.start {O : List Pr} : Inv O O [] where
  imp := fun p hp => by
    rcases hp with hp | hp
    · exact absurd hp (List.not_mem_nil)
    · exact fun x hx => ⟨p, hp, hx⟩
  orig := fun o ho => ⟨o, .inr ho, sub_refl o⟩
  cons := fun a ha => absurd ha (List.not_mem_nil)
  anti := List.Pairwise.nil

/-- the head is dropped: one kept asks for no more -/
theorem Inv.drop {O W K : List Pr} {p k : Pr} (I : Inv O (p :: W) K) (hk : k ∈ K) (hs : sub k p = true) : Inv O (W.filter (· != p)) K where
  imp := fun q hq => I.imp q (hq.imp_right fun h => .tail _ (List.mem_filter.mp h).1)
  orig := fun o ho => by
    obtain ⟨q, hq, h⟩ := I.orig o ho
    by_cases e : q = p
    · subst e; exact ⟨k, .inl hk, sub_trans _ _ hs _ h⟩
    · refine ⟨q, hq.imp_right fun hm => List.mem_filter.mpr ⟨?_, by simpa using e⟩, h⟩
      rcases List.mem_cons.mp hm with r | r
      · exact absurd r e
      · exact r
  cons := fun a ha b hb h1 => by
    obtain ⟨q, hq, h⟩ := I.cons a ha b hb h1
    by_cases e : q = p
    · subst e; exact ⟨k, .inl hk, sub_trans _ _ hs _ h⟩
    · refine ⟨q, hq.imp_right fun hm => List.mem_filter.mpr ⟨?_, by simpa using e⟩, h⟩
      rcases List.mem_cons.mp hm with r | r
      · exact absurd r e
      · exact r
  anti := I.anti

/-- the head is kept -/
theorem Inv.keep {O W K : List Pr} {p : Pr} (I : Inv O (p :: W) K) (hs : ∀ k ∈ K, sub k p = false) :
    Inv O (W.filter (· != p) ++ (K.filter fun k => one (cl p k)).map (cn p)) (K.filter (fun k => !sub p k) ++ [p]) := by
  have hp : Impl O p := I.imp p (.inr (.head _))
  have up : ∀ q, (q ∈ K ∨ q ∈ p :: W) → ∃ q', (q' ∈ K.filter (fun k => !sub p k) ++ [p] ∨ q' ∈ W.filter (· != p) ++ (K.filter fun k => one (cl p k)).map (cn p)) ∧ sub q' q = true := by
    intro q hq
    by_cases hpq : sub p q = true
    · exact ⟨p, .inl (List.mem_append_right _ (.head _)), hpq⟩
    · refine ⟨q, ?_, sub_refl q⟩
      rcases hq with hq | hq
      · exact .inl (List.mem_append_left _ (List.mem_filter.mpr ⟨hq, by simpa using hpq⟩))
      · have e : q ≠ p := fun e => hpq (by rw [e]; exact sub_refl p)
        rcases List.mem_cons.mp hq with r | r
        · exact absurd r e
        · exact .inr (List.mem_append_left _ (List.mem_filter.mpr ⟨r, by simpa using e⟩))
  refine ⟨?_, ?_, ?_, ?_⟩
  · intro q hq
    rcases hq with hq | hq
    · rcases List.mem_append.mp hq with h | h
      · exact I.imp q (.inl (List.mem_filter.mp h).1)
      · rw [List.mem_singleton] at h; subst h; exact hp
    · rcases List.mem_append.mp hq with h | h
      · exact I.imp q (.inr (.tail _ (List.mem_filter.mp h).1))
      · obtain ⟨k, hk, rfl⟩ := List.mem_map.mp h
        obtain ⟨hk, h1⟩ := List.mem_filter.mp hk
        intro x hx
        rcases cn_at p k h1 x hx with y | y
        · exact hp x y
        · exact I.imp k (.inl hk) x y
  · intro o ho
    obtain ⟨q, hq, h⟩ := I.orig o ho
    obtain ⟨q', hq', h'⟩ := up q hq
    exact ⟨q', hq', sub_trans _ _ h' _ h⟩
  · intro a ha b hb h1
    have new : ∀ k, k ∈ K → one (cl p k) = true → ∃ q, (q ∈ K.filter (fun k => !sub p k) ++ [p] ∨ q ∈ W.filter (· != p) ++ (K.filter fun k => one (cl p k)).map (cn p)) ∧ sub q (cn p k) = true :=
      fun k hk h => ⟨cn p k, .inr (List.mem_append_right _ (List.mem_map.mpr ⟨k, List.mem_filter.mpr ⟨hk, h⟩, rfl⟩)), sub_refl _⟩
    rcases List.mem_append.mp ha with ha | ha
    · have ha2 := (List.mem_filter.mp ha).1
      rcases List.mem_append.mp hb with hb | hb
      · have hb := (List.mem_filter.mp hb).1
        obtain ⟨q, hq, h⟩ := I.cons a ha2 b hb h1
        obtain ⟨q', hq', h'⟩ := up q hq
        exact ⟨q', hq', sub_trans _ _ h' _ h⟩
      · rw [List.mem_singleton] at hb
        rw [hb] at h1 ⊢
        rw [(cn_comm a p).2] at h1
        rw [(cn_comm a p).1]
        exact new a ha2 h1
    · rw [List.mem_singleton] at ha; subst ha
      rcases List.mem_append.mp hb with hb | hb
      · exact new b (List.mem_filter.mp hb).1 h1
      · rw [List.mem_singleton] at hb; subst hb
        rw [cl_sub _ _ (sub_refl _)] at h1; exact absurd h1 (by decide)
  · refine List.pairwise_append.mpr ⟨I.anti.filter _, List.pairwise_singleton _ _, fun a ha b hb => ?_⟩
    rw [List.mem_singleton] at hb; subst hb
    obtain ⟨h1, h2⟩ := List.mem_filter.mp ha
    exact ⟨hs a h1, by simpa using h2⟩

/-- what holds of a product that no kept one takes in -/
noncomputable def covered (K : List Pr) (q : Pr) : Bool := K.any fun k => sub k q
noncomputable def bare (K : List Pr) : Nat := ((List.finRange 27).filter fun q => !covered K q).length
theorem covered_iff {K : List Pr} {q : Pr} : covered K q = true ↔ ∃ k ∈ K, sub k q = true := by simp [covered]

theorem Inv.whole {O K : List Pr} (I : Inv O [] K) : ∀ n q, (if fg q 0 = 0 then 1 else 0) + (if fg q 1 = 0 then 1 else 0) + (if fg q 2 = 0 then 1 else 0) = n → Impl O q → ∃ k ∈ K, sub k q = true := by
  have flat : ∀ {q}, (∃ k, (k ∈ K ∨ k ∈ ([] : List Pr)) ∧ sub k q = true) → ∃ k ∈ K, sub k q = true := by
    rintro q ⟨k, h | h, h'⟩
    · exact ⟨k, h, h'⟩
    · cases h
  have lit : ∀ q, ∀ i : Fin 3, fg q i = 0 → ∀ d : Fin 2, (if fg (more q i (d.val + 1)) 0 = 0 then 1 else 0) + (if fg (more q i (d.val + 1)) 1 = 0 then 1 else 0) + (if fg (more q i (d.val + 1)) 2 = 0 then 1 else 0) + 1 = (if fg q 0 = 0 then 1 else 0) + (if fg q 1 = 0 then 1 else 0) + (if fg q 2 = 0 then 1 else 0) := by decide +kernel
  intro n
  induction n with
  | zero =>
    intro q hn hq
    obtain ⟨x, hx, ho⟩ := full_sub q (by intro e; simp [e] at hn) (by intro e; simp [e] at hn) (by intro e; simp [e] at hn)
    obtain ⟨o, ho', hox⟩ := hq x hx
    obtain ⟨k, hk, h⟩ := flat (I.orig o ho')
    exact ⟨k, hk, sub_trans _ _ h _ (ho o hox)⟩
  | succ n ih =>
    intro q hn hq
    have ex : ∃ i : Fin 3, fg q i = 0 := by
      by_cases h0 : fg q 0 = 0
      · exact ⟨0, h0⟩
      by_cases h1 : fg q 1 = 0
      · exact ⟨1, h1⟩
      by_cases h2 : fg q 2 = 0
      · exact ⟨2, h2⟩
      simp [h0, h1, h2] at hn
    obtain ⟨i, hi⟩ := ex
    have m := more_at q i hi
    have l1 := lit q i hi 0
    have l2 := lit q i hi 1
    have up : ∀ r, sub q r = true → Impl O r := fun r hr x hx => hq x (sub_at _ _ hr x hx)
    obtain ⟨a, ha, sa⟩ := ih (more q i 1) (by simp only [Fin.val_zero, Nat.zero_add] at l1; omega) (up _ m.1)
    obtain ⟨b, hb, sb⟩ := ih (more q i 2) (by simp only [Fin.val_one, Nat.reduceAdd] at l2; omega) (up _ m.2)
    cases ea : sub a q with
    | true => exact ⟨a, ha, ea⟩
    | false =>
      cases eb : sub b q with
      | true => exact ⟨b, hb, eb⟩
      | false =>
        obtain ⟨h1, h2⟩ := key_step q i hi a sa ea b sb eb
        obtain ⟨k, hk, h⟩ := flat (I.cons a ha b hb h1)
        exact ⟨k, hk, sub_trans _ _ h _ h2⟩

theorem anti_eq {K : List Pr} (h : K.Pairwise (fun a b => sub a b = false ∧ sub b a = false)) {a b : Pr} (ha : a ∈ K) (hb : b ∈ K) (hs : sub a b = true) : a = b := by
  induction h with
  | nil => cases ha
  | @cons x l hx _ ih =>
    rcases List.mem_cons.mp ha with ea | ha'
    · rcases List.mem_cons.mp hb with eb | hb'
      · rw [ea, eb]
      · have := (hx b hb').1; rw [← ea, hs] at this; cases this
    · rcases List.mem_cons.mp hb with eb | hb'
      · have := (hx a ha').2; rw [← eb, hs] at this; cases this
      · exact ih ha' hb'
theorem anti_nodup {K : List Pr} (h : K.Pairwise (fun a b => sub a b = false ∧ sub b a = false)) : K.Nodup :=
  h.imp fun {a b} hab e => by rw [e, sub_refl] at hab; cases hab.1

theorem Inv.primes {O K : List Pr} (I : Inv O [] K) (q : Pr) : q ∈ K ↔ Prime O q := by
  constructor
  · intro hq
    refine ⟨I.imp q (.inl hq), fun i hi hI => ?_⟩
    obtain ⟨k, hk, h⟩ := I.whole _ _ rfl hI
    obtain ⟨h1, h2⟩ := less_sub q i hi
    have e := anti_eq I.anti hk hq (sub_trans _ _ h _ h1)
    subst e
    exact h2 (sub_anti _ _ h1 h)
  · rintro ⟨hI, hl⟩
    obtain ⟨k, hk, h⟩ := I.whole _ _ rfl hI
    by_cases e : k = q
    · rw [← e]; exact hk
    · obtain ⟨i, h0, h1⟩ := sub_less k q h e
      exact absurd (fun x hx => I.imp k (.inl hk) x (sub_at _ _ h1 x hx)) (hl i h0)

theorem bare_le (K : List Pr) : bare K ≤ 27 := by
  have := List.length_filter_le (fun q => !covered K q) (List.finRange 27)
  simpa [bare] using this
theorem filter_lt {α : Type} {p q : α → Bool} : ∀ {l : List α}, (∀ x ∈ l, p x = true → q x = true) → ∀ a ∈ l, q a = true → p a = false → (l.filter p).length < (l.filter q).length
  | [], _, a, ha, _, _ => absurd ha List.not_mem_nil
  | x :: l, h, a, ha, hq, hp => by
    have hle : (l.filter p).length ≤ (l.filter q).length := by
      clear ha
      have h' : ∀ x ∈ l, p x = true → q x = true := fun y hy => h y (.tail _ hy)
      clear h
      induction l with
      | nil => exact Nat.le_refl _
      | cons y l ih =>
        have ih := ih fun z hz => h' z (.tail _ hz)
        cases ey : p y with
        | true => rw [List.filter_cons_of_pos ey, List.filter_cons_of_pos (h' y (.head _) ey)]; exact Nat.succ_le_succ ih
        | false =>
          rw [List.filter_cons_of_neg (by simp [ey])]
          cases eq : q y with
          | true => rw [List.filter_cons_of_pos eq]; exact Nat.le_succ_of_le ih
          | false => rw [List.filter_cons_of_neg (by simp [eq])]; exact ih
    rcases List.mem_cons.mp ha with e | hm
    · subst e
      rw [List.filter_cons_of_neg (by simp [hp]), List.filter_cons_of_pos hq]
      exact Nat.lt_succ_of_le hle
    · have ih := filter_lt (fun y hy => h y (.tail _ hy)) a hm hq hp
      cases ex : p x with
      | true => rw [List.filter_cons_of_pos ex, List.filter_cons_of_pos (h x (.head _) ex)]; exact Nat.succ_lt_succ ih
      | false =>
        rw [List.filter_cons_of_neg (by simp [ex])]
        cases eq : q x with
        | true => rw [List.filter_cons_of_pos eq]; exact Nat.lt_succ_of_lt ih
        | false => rw [List.filter_cons_of_neg (by simp [eq])]; exact ih
/-- a kept one makes fewer bare -/
theorem bare_lt {K : List Pr} {p : Pr} (hs : ∀ k ∈ K, sub k p = false) : bare (K.filter (fun k => !sub p k) ++ [p]) < bare K := by
  refine filter_lt (fun q _ h => ?_) p (List.mem_finRange p) ?_ ?_
  · cases e : covered K q with
    | false => rfl
    | true =>
      exfalso
      obtain ⟨k, hk, h'⟩ := covered_iff.mp e
      have : covered (K.filter (fun k => !sub p k) ++ [p]) q = true := by
        cases e2 : sub p k with
        | true => exact covered_iff.mpr ⟨p, List.mem_append_right _ (.head _), sub_trans _ _ e2 _ h'⟩
        | false => exact covered_iff.mpr ⟨k, List.mem_append_left _ (List.mem_filter.mpr ⟨hk, by simp [e2]⟩), h'⟩
      rw [this] at h; cases h
  · cases e : covered K p with
    | false => rfl
    | true =>
      obtain ⟨k, hk, h'⟩ := covered_iff.mp e
      rw [hs k hk] at h'; cases h'
  · have : covered (K.filter (fun k => !sub p k) ++ [p]) p = true := covered_iff.mpr ⟨p, List.mem_append_right _ (.head _), sub_refl p⟩
    rw [this]; rfl
theorem nodup_le {K : List Pr} (h : K.Nodup) : K.length ≤ 27 := by
  have hp : K.Perm ((List.finRange 27).filter fun q => K.contains q) := (List.perm_ext_iff_of_nodup h ((List.nodup_finRange 27).filter _)).mpr fun a => by simp
  have := List.length_filter_le (fun q => K.contains q) (List.finRange 27)
  rw [← hp.length_eq] at this
  simpa using this
end Mine
end
open PySem PySem.W PyProof.Rows PySem.Calls Mine
theorem Mine.fill_it : PySem.Challenge.rw_wf0079_01 = PySem.Challenge.rw_wf0079_01 ∧ Mine.mk.heap_1 = Mine.mk.heap_1 := by
  k_fill
  exact ⟨rfl, rfl⟩
namespace Mine
@[reducible] noncomputable def Lo : List Str := looseW Mine.vw
        [Str.ofString "EXACT_TOKEN_TYPES", Str.ofString "tspecials", Str.ofString "_name_disallowed_re",
          Str.ofString "_value_disallowed_re", Str.ofString "_formatparam"]

noncomputable abbrev MD (w : World) : Model := model PySem.Challenge.rw_wf0079_01.row.prog w
end Mine
namespace Mine

/-- what stands at an address that the running call owns -/
inductive Sp where
  | ns (m : Str → Option Value)
  | cell (v : Option Value)
  | lst (its : List Value)
  | ob (o : Obj)
  | tup (its : List Value)
noncomputable def Sp.mut : Sp → Bool
  | .tup _ => false
  | _ => true

noncomputable def Sp.At (h : Heap) (a : Addr) : Sp → Prop
  | .ns m => h.Ns a m
  | .cell v => h.IsCell a v
  | .lst its => h.PlainList a its.toArray
  | .ob o => h.get? a = some o ∧ o.cls ≠ .type "tuple"
  | .tup its => h.IsTuple a its.toArray

noncomputable def TupO (o : Obj) : Prop := o.cls = .type "tuple" ∧ ∃ vs n, o.data = .seq vs n
theorem stays_plain {base h : Heap} {l : Addr} {items : Array Value} (k : base.StaysIn h) (x : base.PlainList l items) : h.PlainList l items := x.at fun o e => k l o e
/-- every tuple of r stands in h as it stood -/
noncomputable def TK (r h : Heap) : Prop := ∀ b o, r.get? b = some o → TupO o → h.get? b = some o
theorem TK.refl (h : Heap) : TK h h := fun _ _ e _ => e
theorem TK.trans {a b c : Heap} (x : TK a b) (y : TK b c) : TK a c := fun d o e t => y d o (x d o e t) t
theorem TK.of {h h' : Heap} (k : h.StaysIn h') : TK h h' := fun b o e _ => k b o e
theorem TK.tuple {r h : Heap} {a : Addr} {its : Array Value} (k : TK r h) (t : r.IsTuple a its) : h.IsTuple a its :=
  let ⟨o, ho, hc, n, hd⟩ := t; ⟨o, k _ _ ho ⟨hc, its, n, hd⟩, hc, n, hd⟩

theorem Sp.at_obj {h : Heap} {a : Addr} : ∀ {x : Sp}, Sp.At h a x → ∃ o, h.get? a = some o ∧ (x.mut = true → ¬ TupO o) ∧ ∀ h' : Heap, h'.get? a = some o → Sp.At h' a x
  | .ns _, ⟨o, es, ep, ho, hd, r⟩ => ⟨o, ho, (fun _ t => by obtain ⟨_, vs, n, q⟩ := t; rw [hd] at q; cases q), fun _ e => ⟨o, es, ep, e, hd, r⟩⟩
  | .cell _, ⟨o, ho, hd⟩ => ⟨o, ho, (fun _ t => by obtain ⟨_, vs, n, q⟩ := t; rw [hd] at q; cases q), fun _ e => ⟨o, e, hd⟩⟩
  | .lst _, ⟨n, ho⟩ => ⟨_, ho, (fun _ t => by have := t.1; injection this with q; exact absurd q (by decide)), fun _ e => ⟨n, e⟩⟩
  | .ob o, ⟨ho, hc⟩ => ⟨o, ho, fun _ t => hc t.1, fun _ e => ⟨e, hc⟩⟩
  | .tup _, ⟨o, ho, hc, r⟩ => ⟨o, ho, (fun e => nomatch e), fun _ e => ⟨o, e, hc, r⟩⟩
theorem Sp.at_keep {h h' : Heap} {a : Addr} {x : Sp} (H : Sp.At h a x) (k : ∀ o, h.get? a = some o → h'.get? a = some o) : Sp.At h' a x :=
  let ⟨o, ho, _, f⟩ := Sp.at_obj H; f h' (k o ho)

structure Gd (w : World) (g : Heap) : Prop where
  X : (Mine.mk.heap_1 w.params).In g
  T : ∃ mean mg mb, Top Mine.vw Lo mean mg mb g
theorem Gd.keeps {w : World} {g h : Heap} (G : Gd w g) (k : g.StaysIn h) : Gd w h :=
  ⟨G.X.keeps k, let ⟨a, b, c, T⟩ := G.T; ⟨a, b, c, T.keeps k⟩⟩

structure Sd (w : World) (g r : Heap) (sl : List (Addr × Sp)) (h : Heap) : Prop where
  gd : Gd w g
  keep : g.StaysIn h
  at_ : ∀ p ∈ sl, Sp.At h p.1 p.2
  nd : (sl.map (·.1)).Nodup
  nw : ∀ p ∈ sl, g.get? p.1 = none
  tk : TK r h

section
variable {w : World} {g r h h' : Heap} {sl sl' : List (Addr × Sp)} {a : Addr} {x x' : Sp}
theorem Sd.ext (S : Sd w g r sl h) (k : h.StaysIn h') : Sd w g r sl h' :=
  ⟨S.gd, fun b o e => k b o (S.keep b o e), fun p hp => Sp.at_keep (S.at_ p hp) fun o e => k _ o e, S.nd, S.nw, S.tk.trans (TK.of k)⟩
theorem Sd.perm (S : Sd w g r sl h) (p : sl.Perm sl') : Sd w g r sl' h :=
  ⟨S.gd, S.keep, fun q hq => S.at_ q (p.mem_iff.mpr hq), (p.map (·.1)).nodup_iff.mp S.nd, fun q hq => S.nw q (p.mem_iff.mpr hq), S.tk⟩
theorem Sd.anchor (S : Sd w g r sl h) : Sd w g h sl h := { S with tk := TK.refl h }
theorem Sd.re {r' : Heap} (S : Sd w g r sl h) (k : TK r' r) : Sd w g r' sl h := { S with tk := k.trans S.tk }
theorem Sd.sub (S : Sd w g r sl h) (k : sl'.Sublist sl) : Sd w g r sl' h :=
  ⟨S.gd, S.keep, fun q hq => S.at_ q (k.subset hq), (k.map (·.1)).nodup S.nd, fun q hq => S.nw q (k.subset hq), S.tk⟩
theorem Sd.drop {p : Addr × Sp} (S : Sd w g r (p :: sl) h) : Sd w g r sl h := S.sub (List.sublist_cons_self ..)
theorem Sd.get (S : Sd w g r sl h) (hm : (a, x) ∈ sl) : Sp.At h a x := S.at_ _ hm
theorem Sd.ne (S : Sd w g r ((a, x) :: sl) h) {p : Addr × Sp} (hp : p ∈ sl) : p.1 ≠ a := fun e => by
  have := (List.nodup_cons.mp S.nd).1
  exact this (List.mem_map.mpr ⟨p, hp, e⟩)
theorem Sd.put₀ (S : Sd w g r ((a, x) :: sl) h) (hk : Heap.ExtBut a h h') (hx : Sp.At h' a x') (hm : x.mut = true := by rfl) : Sd w g r ((a, x') :: sl) h' := by
  obtain ⟨o, ho, hn, _⟩ := Sp.at_obj (S.at_ (a, x) (.head _))
  refine ⟨S.gd, fun b ob e => hk b ob (fun q => ?_) (S.keep b ob e), fun p hp => ?_, S.nd, fun p hp => ?_, fun b ob e t => ?_⟩
  · have := S.nw (a, x) (.head _); rw [q] at e; rw [e] at this; cases this
  · rcases List.mem_cons.mp hp with rfl | hp
    · exact hx
    · exact Sp.at_keep (S.at_ p (.tail _ hp)) fun o e => hk _ o (S.ne hp) e
  · rcases List.mem_cons.mp hp with rfl | hp
    · exact S.nw (a, x) (.head _)
    · exact S.nw p (.tail _ hp)
  · refine hk b ob (fun q => ?_) (S.tk b ob e t)
    have z := S.tk b ob e t
    rw [q, ho] at z; cases z; exact hn hm t
theorem Sd.put (S : Sd w g r sl h) (p : sl.Perm ((a, x) :: sl')) (hk : Heap.ExtBut a h h') (hx : Sp.At h' a x') (hm : x.mut = true := by rfl) : Sd w g r ((a, x') :: sl') h' := (S.perm p).put₀ hk hx hm
theorem Sd.none_of (S : Sd w g r sl h) (ha : h.get? a = none) : g.get? a = none := by
  cases e : g.get? a with
  | none => rfl
  | some o => have := S.keep a o e; rw [ha] at this; cases this
theorem Sd.add (S : Sd w g r sl h) (k : h.StaysIn h') (ha : h.get? a = none) (hx : Sp.At h' a x) : Sd w g r ((a, x) :: sl) h' := by
  have S' := S.ext k
  refine ⟨S'.gd, S'.keep, fun p hp => ?_, List.nodup_cons.mpr ⟨fun hm => ?_, S.nd⟩, fun p hp => ?_, S'.tk⟩
  · rcases List.mem_cons.mp hp with rfl | hp
    · exact hx
    · exact S'.at_ p hp
  · obtain ⟨p, hp, e⟩ := List.mem_map.mp hm
    obtain ⟨o, ho, _⟩ := Sp.at_obj (S.at_ p hp)
    rw [e, ha] at ho; cases ho
  · rcases List.mem_cons.mp hp with rfl | hp
    · exact S.none_of ha
    · exact S.nw p hp
theorem fresh_none (h : Heap) : h.get? h.objs.size = none := by
  cases e : h.get? h.objs.size with
  | none => rfl
  | some o => exact absurd (Heap.lt_size e) (Nat.lt_irrefl _)
theorem push_stays (h : Heap) (o : Obj) : h.StaysIn (h.push o) := fun _ _ e => Heap.get?_push_of_some _ e

theorem pm0 {α : Type} {x : α} {l : List α} : (x :: l).Perm (x :: l) := .refl _
theorem pm1 {α : Type} {x a : α} {l : List α} : (a :: x :: l).Perm (x :: a :: l) := .swap ..
theorem pm2 {α : Type} {x a b : α} {l : List α} : (a :: b :: x :: l).Perm (x :: a :: b :: l) := (List.Perm.cons a pm1).trans pm1
theorem pm3 {α : Type} {x a b c : α} {l : List α} : (a :: b :: c :: x :: l).Perm (x :: a :: b :: c :: l) := (List.Perm.cons a pm2).trans pm1
theorem pm4 {α : Type} {x a b c d : α} {l : List α} : (a :: b :: c :: d :: x :: l).Perm (x :: a :: b :: c :: d :: l) := (List.Perm.cons a pm3).trans pm1
theorem pm5 {α : Type} {x a b c d e : α} {l : List α} : (a :: b :: c :: d :: e :: x :: l).Perm (x :: a :: b :: c :: d :: e :: l) := (List.Perm.cons a pm4).trans pm1
theorem pm6 {α : Type} {x a b c d e f : α} {l : List α} : (a :: b :: c :: d :: e :: f :: x :: l).Perm (x :: a :: b :: c :: d :: e :: f :: l) := (List.Perm.cons a pm5).trans pm1
theorem pm7 {α : Type} {x a b c d e f g : α} {l : List α} : (a :: b :: c :: d :: e :: f :: g :: x :: l).Perm (x :: a :: b :: c :: d :: e :: f :: g :: l) := (List.Perm.cons a pm6).trans pm1
theorem pm8 {α : Type} {x a b c d e f g h : α} {l : List α} : (a :: b :: c :: d :: e :: f :: g :: h :: x :: l).Perm (x :: a :: b :: c :: d :: e :: f :: g :: h :: l) := (List.Perm.cons a pm7).trans pm1
end

/-- the state behind a step: the heap and the counter of tokens alone have turned -/
noncomputable abbrev at' (s : Shared) (h : Heap) (tk : Nat) : Shared := { s with heap := h, toks := tk }

section
variable {w : World} {M : Model} {A : Around} {E : Value → Shared → Prop} {s : Shared} {g r : Heap} {sl sl' : List (Addr × Sp)} {env : Env} {x : Str} {pos : Pos} {v : Value} {m : Str → Option Value}

theorem r_local {Q : Value → Shared → Prop} {L : Addr} (S : Sd w g r sl s.heap) (hm : (L, Sp.ns m) ∈ sl) (hL : env.locals = L) (hv : m x = some v) (h : Q v s)
    (hk : env.scope.kind = .function) (hx : env.kindOf x = some .local) (hb : (x == ("__debug__" : Str)) = false) : wpAny M A (eval (.Name x pos) env) Q E s :=
  wpAny_Name (wpAny_loadName_local hk hx (hL ▸ S.get hm) hv h) hb
theorem r_cell {Q : Value → Shared → Prop} {c : Addr} (S : Sd w g r sl s.heap) (hc : env.cells.lookup x = some c) (hm : (c, Sp.cell (some v)) ∈ sl) (h : Q v s)
    (hk : env.scope.kind = .function) (hx : env.kindOf x = some .cell) (hb : (x == ("__debug__" : Str)) = false) : wpAny M A (eval (.Name x pos) env) Q E s :=
  wpAny_Name (wpAny_loadName_cell hk hx hc (S.get hm) h) hb
theorem r_glob {Q : Value → Shared → Prop} (S : Sd w g r sl s.heap) (e : nsIn (Mine.mk.heap_1 w.params) mainGlobals x = some (some v)) (h : Q v s) (hg : env.globals = mainGlobals)
    (hk : env.scope.kind = .function) (hx : env.kindOf x = some .globalImplicit) (hb : (x == ("__debug__" : Str)) = false) : wpAny M A (eval (.Name x pos) env) Q E s := by
  obtain ⟨mean, mg, mb, T⟩ := S.gd.T
  exact Name_function_global hk hx (loadGlobal_global (env := env) (hg ▸ T.g.keeps S.keep) (mg_of S.gd.X T.g e) h) hb
theorem r_bltn {Q : Value → Shared → Prop} (S : Sd w g r sl s.heap) (e : nsIn (Mine.mk.heap_1 w.params) mainGlobals x = some none) (hv : bootBuiltins x = some v) (hn : x ≠ "__name__") (h : Q v s) (hg : env.globals = mainGlobals) (hg' : env.builtins = builtinsNs)
    (hk : env.scope.kind = .function) (hx : env.kindOf x = some .globalImplicit) (hb : (x == ("__debug__" : Str)) = false) : wpAny M A (eval (.Name x pos) env) Q E s := by
  obtain ⟨mean, mg, mb, T⟩ := S.gd.T
  exact Name_function_global hk hx (loadGlobal_builtin (env := env) (hg ▸ T.g.keeps S.keep) (mg_none_of S.gd.X T.g e) (hg' ▸ T.b.keeps S.keep) ((T.builtins x hn).trans hv) h) hb

theorem r_store {Q : Unit → Shared → Prop} {L : Addr} (S : Sd w g r sl s.heap) (p : sl.Perm ((L, Sp.ns m) :: sl')) (hL : env.locals = L) (hx : env.kindOf x = some .local) (hp : (env.scope.kind == .class || (env.scope.kind == .module && env.locals != env.globals)) = false)
    (h : ∀ h' tk, Sd w g r ((L, Sp.ns (fun y => if y = x then some v else m y)) :: sl') h' → Q () (at' s h' tk)) : wpAny M A (storeName env x v) Q E s := by
  subst hL
  exact wpAny_storeName_local hx ((S.perm p).get (.head _)) (fun h' hn hs => h h' _ (S.put p hs.extBut hn)) hp
theorem r_storeC {Q : Unit → Shared → Prop} {c : Addr} {v₀ : Option Value} (S : Sd w g r sl s.heap) (hc : env.cells.lookup x = some c) (p : sl.Perm ((c, Sp.cell v₀) :: sl')) (hk : env.scope.kind = .function) (hx : env.kindOf x = some .cell)
    (h : ∀ h', Sd w g r ((c, Sp.cell (some v)) :: sl') h' → Q () (at' s h' s.toks)) : wpAny M A (storeName env x v) Q E s :=
  wpAny_storeName_cell hk hx hc ((S.perm p).get (.head _)) (fun h' hn hs => h h' (S.put p hs.extBut hn))

theorem r_newTuple {Q : Value → Shared → Prop} {vs : List Value} (S : Sd w g r sl s.heap)
    (h : ∀ a h', Sd w g r ((a, .tup vs) :: sl) h' → s.heap.get? a = none → Q (.ref a) (at' s h' s.toks)) (hsz : vs.length ≤ sizeLine) : wpAny M A (newTuple vs) Q E s := by
  have k := push_stays s.heap { cls := .type "tuple", data := .seq vs.toArray }
  exact wpAny_newObj_type (h _ _ (S.add k (fresh_none _) ⟨_, Heap.get?_push_size _ rfl, rfl, _, rfl⟩) (fresh_none _)) (by show vs.toArray.size ≤ sizeLine; rw [List.size_toArray]; exact hsz)
theorem r_newList {Q : Value → Shared → Prop} {vs : List Value} (S : Sd w g r sl s.heap)
    (h : ∀ a h', Sd w g r ((a, .lst vs) :: sl) h' → Q (.ref a) (at' s h' s.toks)) (hsz : vs.length ≤ sizeLine) : wpAny M A (newList vs) Q E s := by
  have k := push_stays s.heap { cls := .type "list", data := .seq vs.toArray }
  exact wpAny_newObj_type (h _ _ (S.add k (fresh_none _) ⟨_, Heap.get?_push_size _ rfl⟩)) (by show vs.toArray.size ≤ sizeLine; rw [List.size_toArray]; exact hsz)
end

section
variable {w : World} {A : Around} {E : Value → Shared → Prop} {s : Shared} {g r : Heap} {sl sl' : List (Addr × Sp)} {v : Value}
theorem r_append {Q : Value → Shared → Prop} {prog : Program} {l : Addr} {its : List Value} (S : Sd w g r sl s.heap) (p : sl.Perm ((l, Sp.lst its) :: sl')) (hsz : its.length ≤ sizeLine)
    (h : ∀ h', Sd w g r ((l, Sp.lst (its ++ [v])) :: sl') h' → Q .none (at' s h' s.toks)) : wpAny (model prog w) A (call (.builtin "list.append") [.ref l, v]) Q E s := by
  refine wpAny_list_append_plain (items := its.toArray) ((S.perm p).get (x := Sp.lst its) (.head _)) (fun h' hl hs => h h' (S.put p hs.extBut ?_)) (by rw [List.size_toArray]; exact hsz)
  show h'.PlainList l (its ++ [v]).toArray
  simpa using hl

theorem extBut_stays {h h' : Heap} (k : Heap.ExtBut h.objs.size h h') : h.StaysIn h' := fun b o e => k b o (Nat.ne_of_lt (Heap.lt_size e)) e
theorem r_unpack {Q : Unit → Shared → Prop} {prog : Program} {env : Env} {elts : List Expr} {k : Nat} {pos : Pos} {t : Addr} {its : List Value} (S : Sd w g r sl s.heap) (hm : (t, Sp.tup its) ∈ sl) (hh : A.handled = none)
    (hn : (assignEach elts env).length = its.length) (hstar : (assignEach elts env).findIdx? (·.1) = none)
    (h : ∀ h', Sd w g r sl h' → wpAny (model prog w) A (assignInOrder ((assignEach elts env).map (·.2)) its) Q E (at' s h' s.toks)) :
    wpAny (model prog w) A (assign (.Tuple elts k pos) env (.ref t)) Q E s :=
  wpAny_assign_Tuple hh (S.get hm) (by rw [List.size_toArray]; exact hn) hstar fun h' he => h h' (S.ext (extBut_stays he))
theorem r_unpackT {Q : Unit → Shared → Prop} {prog : Program} {env : Env} {elts : List Expr} {k : Nat} {pos : Pos} {t : Addr} {its : List Value} (S : Sd w g r sl s.heap) (ht : r.IsTuple t its.toArray) (hh : A.handled = none)
    (hn : (assignEach elts env).length = its.length) (hstar : (assignEach elts env).findIdx? (·.1) = none)
    (h : ∀ h', Sd w g r sl h' → wpAny (model prog w) A (assignInOrder ((assignEach elts env).map (·.2)) its) Q E (at' s h' s.toks)) :
    wpAny (model prog w) A (assign (.Tuple elts k pos) env (.ref t)) Q E s :=
  wpAny_assign_Tuple hh (S.tk.tuple ht) (by rw [List.size_toArray]; exact hn) hstar fun h' he => h h' (S.ext (extBut_stays he))
theorem r_divmod {Q : Value → Shared → Prop} {prog : Program} {a b : Int} {t u : Tok} (S : Sd w g r sl s.heap) (hb : b ≠ 0) (hp : Builtin.divisionGoesByPylong a b = false)
    (h : ∀ d h' tk t1 t2, Sd w g r ((d, .tup [.int (a.fdiv b) t1, .int (a.fmod b) t2]) :: sl) h' → Q (.ref d) (at' s h' tk)) :
    wpAny (model prog w) A (call (.builtin "divmod") [.int a t, .int b u]) Q E s := by
  have k := push_stays s.heap { cls := .type "tuple", data := .seq #[.int (a.fdiv b) s.toks, .int (a.fmod b) (s.toks + 1)] }
  exact divmod_int hb (h _ _ _ _ _ (S.add k (fresh_none _) ⟨_, Heap.get?_push_size _ rfl, rfl, _, rfl⟩)) (.inl hp)
end
end Mine
namespace Mine

section
variable {w : World} {g r h h' : Heap} {sl sl' : List (Addr × Sp)} {a : Addr} {x x' : Sp}
theorem Sd.nil (S : Sd w g r sl h) : Sd w g r [] h := S.sub (List.nil_sublist _)
theorem hideAll_stays {ow : List (Addr × Sp)} (S : Sd w g r ow h) : g.StaysIn (hideAll h (ow.map (·.1))) := fun b o e =>
  hideAll_get _ (S.keep b o e) fun hm => by
    obtain ⟨p, hp, rfl⟩ := List.mem_map.mp hm
    rw [S.nw p hp] at e; cases e
/-- all but the own objects stand as they stood -/
noncomputable def But (ow : List Addr) (h h' : Heap) : Prop := ∀ b o, h.get? b = some o → b ∉ ow → h'.get? b = some o
theorem But.nil (k : But [] h h') : h.StaysIn h' := fun b o e => k b o e (by simp)
end

section
variable {prog : Program} {w : World} {A : Around} {E : Value → Shared → Prop} {s : Shared} {g r : Heap} {ow : List (Addr × Sp)}
variable {name qual : Str} {params : Arguments} {body : List Stmt} {scope : Scope} {dV kV doc pm cdv ct oc : Value} {an od : Option Addr} {osl : Array (Option Value)} {f : Addr} {pos : List Value} {kw : List (Str × Value)}

/-- a call of one of the text's functions, its parameters bound -/
theorem enterE {R : Result → Shared → Prop} {Q : Value → Shared → Prop} (S : Sd w g r ow s.heap) (binds : List (Str × Value)) (ml : Str → Option Value) (ce : Addr → List (Addr × Sp))
    (hkind : ∀ n, ∀ x ∈ binds, scope.names.lookup x.1 = some .local ∨ (scope.names.lookup x.1 = some .cell ∧ ((cellsFrom n scope.names []).lookup x.1).isSome = true))
    (hnd : ((cellsFrom 0 scope.names []).map (·.1)).Nodup)
    (hml : ∀ L, bindL (envOfC qual scope L f cdv).kindOf binds (fun _ => none) = ml)
    (hce : ∀ L, (cellsFrom (L + 1) scope.names []).map (fun p => (p.2, Sp.cell (bindC (envOfC qual scope L f cdv).kindOf binds (fun _ => none) p.1))) = ce L)
    (h : ∀ g' L h₁ tk, But (ow.map (·.1)) s.heap g' → Sd w g' s.heap ((L, .ns ml) :: (ce L ++ ow)) h₁ →
      wpAny (model prog w) (A.deeper (envOfC qual scope L f cdv)) (execs body (envOfC qual scope L f cdv)) (fun fl s' => Q (match fl with | .ret v => v | _ => .none) s') (fun _ _ => False) (at' s h₁ tk))
    (hk : scope.kind = .function) (hR : ∀ v s', Q v s' → R (.ok (.ret v)) s') :
    wpAny (model prog w) A.in1 (newFunctionEnv scope mainGlobals [] binds (qual ++ ".<locals>.") (some f) cdv none builtinsNs) (fun env s₂ => s₂.heap.NoLimit ∧ codeAny (model prog w) A (.func body env) R s₂) (fun e s' => R (.error e) s') s := by
  have hst := hideAll_stays S
  have G' := S.gd.keeps hst
  obtain ⟨mean, mg, mb, T⟩ := S.gd.T
  refine wpAny_newFunctionEnv_cells hk (hkind _) fun env' he s' x => ?_
  subst he
  refine ⟨(T.nolimit.keeps S.keep).keeps x.toInCall.keep, codeAny_func ?_⟩
  obtain ⟨h₁, tk, rfl, _⟩ := x.done
  have hk₁ := x.toInCall.keep
  have hsub : (hideAll s.heap (ow.map (·.1))).StaysIn h₁ := fun b o e => hk₁ b o (of_hideAll _ e)
  have hL : (newEnv scope s.heap.objs.size mainGlobals (cellsFrom (s.heap.objs.size + 1) scope.names []) (qual ++ ".<locals>.") (some f) cdv none builtinsNs).locals = s.heap.objs.size := rfl
  have hab := x.above
  have hap := x.apart
  have hcl := x.cell
  have hns := x.toInCall.ns
  have hnd' : ((cellsFrom (s.heap.objs.size + 1) scope.names []).map (·.1)).Nodup := cellsFrom_names scope.names 0 (s.heap.objs.size + 1) [] [] rfl ▸ hnd
  have fr : ∀ b, s.heap.objs.size ≤ b → s.heap.get? b = none := fun b hb => by
    cases e : s.heap.get? b with
    | none => rfl
    | some o => exact absurd (Heap.lt_size e) (Nat.not_lt.mpr hb)
  have lt : ∀ p ∈ ow, p.1 < s.heap.objs.size := fun p hp => let ⟨o, e, _⟩ := Sp.at_obj (S.at_ p hp); Heap.lt_size e
  refine wpAny_mono (h _ s.heap.objs.size h₁ tk (fun b o e n => hideAll_get _ e n) ⟨G', hsub, ?_, ?_, ?_, fun b o e _ => hk₁ b o e⟩) (fun fl s' hq => hR _ _ hq) fun _ _ y => y.elim
  · intro p hp
    rcases List.mem_cons.mp hp with rfl | hp
    · show h₁.Ns s.heap.objs.size ml
      rw [← hml s.heap.objs.size]; exact hns
    · rcases List.mem_append.mp hp with hp | hp
      · rw [← hce] at hp
        obtain ⟨q, hq, rfl⟩ := List.mem_map.mp hp
        exact hcl q.1 q.2 (lookup_of_mem_nodup hnd' hq)
      · exact Sp.at_keep (S.at_ p hp) fun o e => hk₁ _ o e
  · rw [List.map_cons, List.map_append, ← hce, List.map_map]
    refine List.nodup_cons.mpr ⟨fun hm => ?_, List.nodup_append.mpr ⟨?_, S.nd, fun c hc b hb e => ?_⟩⟩
    · rcases List.mem_append.mp hm with hm | hm
      · obtain ⟨q, hq, e⟩ := List.mem_map.mp hm
        have := hab q.1 q.2 hq
        exact absurd e (Nat.ne_of_gt this)
      · obtain ⟨q, hq, e⟩ := List.mem_map.mp hm
        exact absurd e (Nat.ne_of_lt (lt q hq))
    · exact List.pairwise_map.mpr (hap.imp fun y => y)
    · obtain ⟨q, hq, e1⟩ := List.mem_map.mp hc
      obtain ⟨q', hq', e2⟩ := List.mem_map.mp hb
      have h1 : s.heap.objs.size < q.2 := hab q.1 q.2 hq
      have h2 := lt q' hq'
      have e1' : q.2 = c := e1
      have e2' : q'.1 = b := e2
      exact absurd (e1'.trans (e.trans e2'.symm)) (Nat.ne_of_gt (Nat.lt_trans h2 h1))
  · have out : ∀ b, s.heap.objs.size ≤ b → (hideAll s.heap (ow.map (·.1))).get? b = none := fun b hb => by
      cases e : (hideAll s.heap (ow.map (·.1))).get? b with
      | none => rfl
      | some o => have := of_hideAll _ e; rw [fr b hb] at this; cases this
    intro p hp
    rcases List.mem_cons.mp hp with rfl | hp
    · exact out _ (Nat.le_refl _)
    · rcases List.mem_append.mp hp with hp | hp
      · rw [← hce] at hp
        obtain ⟨q, hq, rfl⟩ := List.mem_map.mp hp
        exact out _ (Nat.le_of_lt (hab q.1 q.2 hq))
      · exact hideAll_none _ (List.mem_map_of_mem hp)
theorem enterC {Q : Value → Shared → Prop} (S : Sd w g r ow s.heap) (binds : List (Str × Value)) (ml : Str → Option Value) (ce : Addr → List (Addr × Sp))
    (ho : List.lookup f (Mine.mk.heap_1 w.params) = some ⟨oc, od, .func (fnOf name qual params body scope dV kV doc pm an cdv ct), osl⟩) (hcd : codeIn (Mine.mk.heap_1 w.params) cdv qual = true)
    (hroom : A.depth < recursionLimit)
    (hbind : BindsTo s (fnOf name qual params body scope dV kV doc pm an cdv ct) ⟨pos, kw⟩ binds)
    (hkind : ∀ n, ∀ x ∈ binds, scope.names.lookup x.1 = some .local ∨ (scope.names.lookup x.1 = some .cell ∧ ((cellsFrom n scope.names []).lookup x.1).isSome = true))
    (hnd : ((cellsFrom 0 scope.names []).map (·.1)).Nodup)
    (hml : ∀ L, bindL (envOfC qual scope L f cdv).kindOf binds (fun _ => none) = ml)
    (hce : ∀ L, (cellsFrom (L + 1) scope.names []).map (fun p => (p.2, Sp.cell (bindC (envOfC qual scope L f cdv).kindOf binds (fun _ => none) p.1))) = ce L)
    (h : ∀ g' L h₁ tk, But (ow.map (·.1)) s.heap g' → Sd w g' s.heap ((L, .ns ml) :: (ce L ++ ow)) h₁ →
      wpAny (model prog w) (A.deeper (envOfC qual scope L f cdv)) (execs body (envOfC qual scope L f cdv)) (fun fl s' => Q (match fl with | .ret v => v | _ => .none) s') (fun _ _ => False) (at' s h₁ tk))
    (hco : scope.isCoroutine = false) (hgen : scope.isGenerator = false) (hk : scope.kind = .function) :
    codeAny (model prog w) A (.call (.ref f) ⟨pos, kw⟩) (fun r s' => match r with | .ok (.ret v) => Q v s' | .ok _ => False | .error e => E e s') s := by
  obtain ⟨mean, mg, mb, T⟩ := S.gd.T
  exact codeAny_call_function hroom ((S.gd.X.keeps S.keep) _ _ ho) rfl hco hgen rfl (codeRec_of (S.gd.X.keeps S.keep) hcd) (hbind _ _ _ _ (enterE S binds ml ce hkind hnd hml hce h hk fun _ _ q => q))
theorem enterG {Q : Value → Shared → Prop} (S : Sd w g r ow s.heap) (binds : List (Str × Value)) (ml : Str → Option Value) (ce : Addr → List (Addr × Sp))
    (ho : List.lookup f (Mine.mk.heap_1 w.params) = some ⟨oc, od, .func (fnOf name qual params body scope dV kV doc pm an cdv ct), osl⟩) (hcd : codeIn (Mine.mk.heap_1 w.params) cdv qual = true)
    (hroom : A.depth < recursionLimit)
    (hbind : BindsTo s (fnOf name qual params body scope dV kV doc pm an cdv ct) ⟨pos, kw⟩ binds)
    (hkind : ∀ n, ∀ x ∈ binds, scope.names.lookup x.1 = some .local ∨ (scope.names.lookup x.1 = some .cell ∧ ((cellsFrom n scope.names []).lookup x.1).isSome = true))
    (hnd : ((cellsFrom 0 scope.names []).map (·.1)).Nodup)
    (hml : ∀ L, bindL (envOfC qual scope L f cdv).kindOf binds (fun _ => none) = ml)
    (hce : ∀ L, (cellsFrom (L + 1) scope.names []).map (fun p => (p.2, Sp.cell (bindC (envOfC qual scope L f cdv).kindOf binds (fun _ => none) p.1))) = ce L)
    (h : ∀ g' L h₁ tk, But (ow.map (·.1)) s.heap g' → Sd w g' s.heap ((L, .ns ml) :: (ce L ++ ow)) h₁ →
      wpAny (model prog w) (A.deeper (envOfC qual scope L f cdv)) (execs body (envOfC qual scope L f cdv)) (fun fl s' => Q (match fl with | .ret v => v | _ => .none) s') (fun _ _ => False) (at' s h₁ tk))
    (hco : scope.isCoroutine = false) (hgen : scope.isGenerator = false) (hk : scope.kind = .function) :
    wpAny (model prog w) A (call (.ref f) pos kw) Q E s :=
  wpAny_call (enterC S binds ml ce ho hcd hroom hbind hkind hnd hml hce h hco hgen hk)
theorem peek1_run {α : Type} {K : Frag} {M : Model} {A : Around} {E : Value → Shared → Prop} {Q : α → Shared → Prop} {s : Shared} {o : Obj} {r : Addr → α} (X : K.In s.heap)
    (q : Q (r s.heap.objs.size) { s with heap := s.heap.push o }) : ∀ (t : Sem α) (g : Addr → Option α), peek1 K ⟨M.prog, M.w.params⟩ t = some (o, g) → (∀ D, g D = some (r D)) → wpAny M A t Q E s := by
  intro t
  induction t with
  | rule _ k ih => intro g e hg Γ p hΓ; exact ih () g e hg Γ p hΓ
  | point _ k ih => intro g e hg Γ p hΓ; exact ih () g e hg Γ p hΓ
  | ask k ih => intro g e hg Γ p hΓ; exact ih _ g e hg Γ p hΓ
  | load a _ k ih =>
    intro g e hg Γ p hΓ
    simp only [peek1] at e
    split at e
    · rename_i ob ho
      exact ⟨ob, X _ _ ho, ih ob g e hg Γ p hΓ⟩
    · cases e
  | alloc ob k _ =>
    intro g e hg
    obtain ⟨rfl, rfl⟩ := Prod.mk.inj (Option.some.inj e)
    have X' : K.In (s.heap.push ob) := X.keeps (push_stays _ _)
    show wpAny M A (alloc ob >>= k) Q E s
    exact wpAny_bind (wpAny_alloc ((Looks.of_peek (M := M) (h := s.heap.push ob) X' (hg s.heap.objs.size)).here (s := { s with heap := s.heap.push ob }) q))
  | _ => intro g e; cases e
/-- the same with a dict for what is given by names beyond the known ones: nothing -/
theorem enterM {Q : Value → Shared → Prop} {g₁ : Addr → Option (List (Str × Value))} (S : Sd w g r ow s.heap) (binds : Addr → List (Str × Value)) (ml : Addr → Str → Option Value)
    (ho : List.lookup f (Mine.mk.heap_1 w.params) = some ⟨oc, od, .func (fnOf name qual params body scope dV kV doc pm an cdv ct), osl⟩) (hcd : codeIn (Mine.mk.heap_1 w.params) cdv qual = true)
    (hroom : A.depth < recursionLimit)
    (hp : peek1 (Mine.mk.heap_1 w.params) ⟨prog, w.params⟩ (bindArgs (fnOf name qual params body scope dV kV doc pm an cdv ct) ⟨pos, kw⟩) = some (emptyDict, g₁)) (hg : ∀ D, g₁ D = some (binds D))
    (hkind : ∀ D n, ∀ x ∈ binds D, scope.names.lookup x.1 = some .local ∨ (scope.names.lookup x.1 = some .cell ∧ ((cellsFrom n scope.names []).lookup x.1).isSome = true))
    (hnd : ((cellsFrom 0 scope.names []).map (·.1)).Nodup)
    (hml : ∀ D L, bindL (envOfC qual scope L f cdv).kindOf (binds D) (fun _ => none) = ml D)
    (hce : ∀ D L, (cellsFrom (L + 1) scope.names []).map (fun p => (p.2, Sp.cell (bindC (envOfC qual scope L f cdv).kindOf (binds D) (fun _ => none) p.1))) = [])
    (h : ∀ D g' L h₁ tk, f < D → But (ow.map (·.1)) s.heap g' → Sd w g' (s.heap.push emptyDict) ((L, .ns (ml D)) :: (D, .ob emptyDict) :: ow) h₁ →
      wpAny (model prog w) (A.deeper (envOfC qual scope L f cdv)) (execs body (envOfC qual scope L f cdv)) (fun fl s' => Q (match fl with | .ret v => v | _ => .none) s') (fun _ _ => False) (at' s h₁ tk))
    (hco : scope.isCoroutine = false) (hgen : scope.isGenerator = false) (hk : scope.kind = .function) :
    wpAny (model prog w) A (call (.ref f) pos kw) Q E s := by
  obtain ⟨mean, mg, mb, T⟩ := S.gd.T
  have X := S.gd.X.keeps S.keep
  have S' : Sd w g r ((s.heap.objs.size, .ob emptyDict) :: ow) (s.heap.push emptyDict) := S.add (push_stays _ _) (fresh_none _) ⟨Heap.get?_push_size _ rfl, by simp⟩
  refine wpAny_call (codeAny_call_function hroom (X _ _ ho) rfl hco hgen rfl (codeRec_of X hcd) (peek1_run X ?_ _ g₁ hp hg))
  refine enterE (s := { s with heap := s.heap.push emptyDict }) (Q := Q) S' (binds _) (ml _) (fun _ => []) (hkind _) hnd (hml _) (hce _) (fun g' L h₁ tk hb S₁ => ?_) hk fun _ _ q => q
  exact h _ g' L h₁ tk (Heap.lt_size (X _ _ ho)) (fun b o e n => hb b o (push_stays _ _ _ _ e) fun hm => by
    rcases List.mem_cons.mp hm with q | q
    · subst q; exact absurd (Heap.lt_size e) (Nat.lt_irrefl _)
    · exact n q) S₁
end
end Mine
namespace Mine

theorem Sd.cut {w : World} {g r h h' : Heap} {sl : List (Addr × Sp)} {a : Addr} {x : Sp} (S : Sd w g r ((a, x) :: sl) h) (hk : Heap.ExtBut a h h') (hm : x.mut = true := by rfl) : Sd w g r sl h' := by
  obtain ⟨o, ho, hn, _⟩ := Sp.at_obj (S.at_ (a, x) (.head _))
  refine ⟨S.gd, fun b ob e => hk b ob (fun q => ?_) (S.keep b ob e), fun p hp => Sp.at_keep (S.at_ p (.tail _ hp)) fun o e => hk _ o (S.ne hp) e, S.drop.nd, fun p hp => S.nw p (.tail _ hp), fun b ob e t => ?_⟩
  · have := S.nw (a, x) (.head _); rw [q] at e; rw [e] at this; cases this
  · refine hk b ob (fun q => ?_) (S.tk b ob e t)
    have z := S.tk b ob e t
    rw [q, ho] at z; cases z; exact hn hm t
noncomputable abbrev NoE : Value → Shared → Prop := fun _ _ => False

noncomputable def ownedKinds : List String := ["enumerate", "zip", "dict_itemiterator", "dict_reverseitemiterator", "odict_iterator", "itertools.zip_longest", "itertools.pairwise"]
/-- an iterator at I over n items, the i-th of which is as P says; Src: what it leans on beside itself -/
structure It (prog : Program) (w : World) (A : Around) (I : Addr) (n : Nat) (P : Nat → Value → Prop) (Src : Heap → Prop) (St : Nat → Heap → Prop) : Prop where
  item : ∀ i (s : Shared) (Q : Option Value → Shared → Prop) (E : Value → Shared → Prop), i < n → St i s.heap →
    (∀ v h' tk, P i v → St (i + 1) h' → Heap.ExtBut I s.heap h' → Q (some v) (at' s h' tk)) → wpAny (model prog w) A (pyNext (.ref I)) Q E s
  done : ∀ (s : Shared) (Q : Option Value → Shared → Prop) (E : Value → Shared → Prop), St n s.heap →
    (∀ h' tk, Heap.ExtBut I s.heap h' → Q none (at' s h' tk)) → wpAny (model prog w) A (pyNext (.ref I)) Q E s
  self : ∀ i (s : Shared) (Q : Value → Shared → Prop) (E : Value → Shared → Prop), St i s.heap → Q (.ref I) s → wpAny (model prog w) A (pyIter (.ref I)) Q E s
  obj : ∀ i h, St i h → ∃ o c, h.get? I = some o ∧ o.cls = .type c ∧ ownedKinds.contains c = false ∧ c ≠ "tuple" ∧ ∀ h' : Heap, h'.get? I = some o → Src h' → St i h'

section
variable {prog : Program} {w : World} {A : Around} {E : Value → Shared → Prop} {s : Shared} {I : Addr} {n : Nat} {P : Nat → Value → Prop} {Src : Heap → Prop} {St : Nat → Heap → Prop}
theorem It.go (T : It prog w A I n P Src St) {i : Nat} {target : Expr} {v : Value} {Q : Unit → Shared → Prop} (hst : St i s.heap) (h : Q () s) : wpAny (model prog w) A (letOwnedTupleGo target (.ref I) v) Q E s := by
  obtain ⟨o, c, ho, hc, hk, _, _⟩ := T.obj i _ hst
  have key : ∀ a, wpAny (model prog w) A (do
      let o ← load I
      match o.cls, o.data with
      | .type n, .fields vs =>
        if ["enumerate", "zip", "dict_itemiterator", "dict_reverseitemiterator", "odict_iterator", "itertools.zip_longest", "itertools.pairwise"].contains n && vs[0]? == some (rawInt a) then
          rule "for.unpacks-the-owned-tuple"
          updateField I 0 .none
      | _, _ => pure ()) Q E s := fun a => by
    refine wpAny_bind (wpAny_load ho ?_)
    obtain ⟨oc, od, oda, osl⟩ := o
    dsimp only at hc
    subst hc
    cases oda with
    | fields vs =>
      show wpAny _ _ (if (ownedKinds.contains c && vs[0]? == some (rawInt a)) = true then _ else _) _ _ _
      rw [hk]
      exact wpAny_pure h
    | _ => exact wpAny_pure h
  cases target <;> first | exact wpAny_pure h | (cases v <;> first | exact wpAny_pure h | exact key _)
theorem It.of_walks {fp : List Addr} (W : Walks prog w A I fp [I] n P St)
    (hobj : ∀ i h, St i h → ∃ o c, h.get? I = some o ∧ o.cls = .type c ∧ ownedKinds.contains c = false ∧ c ≠ "tuple" ∧ ∀ h' : Heap, h'.get? I = some o → Src h' → St i h') : It prog w A I n P Src St where
  item := fun i s Q E hi st hQ => W.item i s Q E hi st fun v h' tk hP hs hk => hQ v h' tk hP hs fun b o hb e => hk b o (by simpa using hb) e
  done := fun s Q E hst hQ => W.done s Q E hst fun h' tk hk => hQ h' tk fun b o hb e => hk b o (by simpa using hb) e
  self := W.self
  obj := hobj
end

section
variable {prog : Program} {w : World} {A : Around} {E : Value → Shared → Prop} {s : Shared} {env : Env} {target iter : Expr} {body : List Stmt} {pos : Pos}

noncomputable def TurnEnd (w : World) (g : Heap) (s : Shared) (I : Addr) (oI : Obj) (inv : Heap → List (Addr × Sp) → Prop) (s₃ : Shared) : Prop :=
  ∃ h' tk r' sl', s₃ = at' s h' tk ∧ inv r' sl' ∧ Sd w g r' ((I, .ob oI) :: sl') h'
noncomputable def ForPost (w : World) (g : Heap) (s : Shared) (I : Addr) (oI : Obj) (Q : Flow → Shared → Prop) (inv : Heap → List (Addr × Sp) → Prop) (f : Flow) (s₃ : Shared) : Prop :=
  match f with
  | .brk => Q .next s₃
  | .ret v => Q (.ret v) s₃
  | _ => TurnEnd w g s I oI inv s₃
theorem turn_end {w : World} {g : Heap} {s : Shared} {I : Addr} {oI : Obj} {inv : Heap → List (Addr × Sp) → Prop} {h' r' : Heap} {tk : Nat} {sl sl' : List (Addr × Sp)} (S : Sd w g r' sl h') (p : sl.Perm ((I, .ob oI) :: sl')) (hi : inv r' sl') :
    TurnEnd w g s I oI inv (at' s h' tk) := ⟨h', tk, r', sl', rfl, hi, S.perm p⟩

inductive ForAt (prog : Program) (w : World) (A : Around) (env : Env) (target : Expr) (body : List Stmt) (Q : Flow → Shared → Prop) (it : Value) (s : Shared) : Prop
  | mk (I : Addr) (n : Nat) (P : Nat → Value → Prop) (Src : Heap → Prop) (St : Nat → Heap → Prop) (g r : Heap) (sl : List (Addr × Sp)) (o : Obj) (inv : Nat → Heap → List (Addr × Sp) → Prop)
    (eq : it = .ref I) (T : It prog w A I n P Src St) (hst : St 0 s.heap) (S : Sd w g r ((I, .ob o) :: sl) s.heap) (h0 : inv 0 r sl)
    (src : ∀ i r' sl' h' o', inv i r' sl' → Sd w g r' ((I, .ob o') :: sl') h' → Src h')
    (turn : ∀ i v oI r' sl' h' tk (Post : Flow → Shared → Prop), (∀ f s₃, ForPost w g s I oI Q (inv (i + 1)) f s₃ → Post f s₃) → i < n → P i v → inv i r' sl' → Sd w g r' ((I, .ob oI) :: sl') h' →
      wpAny (model prog w) A (assign target env v) (fun _ s₂ => wpAny (model prog w) A (execs body env) Post NoE s₂) NoE (at' s h' tk))
    (done : ∀ r' sl' h' tk, inv n r' sl' → Sd w g r' sl' h' → Q .next (at' s h' tk))

theorem for_rule {Q : Flow → Shared → Prop} (hs : ∀ x, foldedSetIterable iter env x = pure x)
    (h : wpAny (model prog w) A (eval iter env) (fun x s₁ => wpAny (model prog w) A (pyIter x) (fun it s₂ => ForAt prog w A env target body Q it s₂) NoE s₁) NoE s) :
    wpAny (model prog w) A (exec (.For target iter body [] pos) env) Q NoE s := by
  refine wpAny_For (wpAny_mono h (fun xv s₁ h₁ => wpAny_mono h₁ (fun it s₂ h₂ => ?_) fun _ _ e => e) fun _ _ e => e) hs
  obtain ⟨I, n, P, Src, St, g, r, sl, o, inv, rfl, T, hst, S, h0, hsrc, turn, done⟩ := h₂
  refine codeAny_forLoop_any (fun k s' => ∃ i h' tk r' sl' o', s' = at' s₂ h' tk ∧ St i h' ∧ Sd w g r' ((I, .ob o') :: sl') h' ∧ inv i r' sl' ∧ i ≤ n ∧ k = n + 1 - i) ?_ (n + 1)
    ⟨0, s₂.heap, s₂.toks, r, sl, o, rfl, hst, S, h0, Nat.zero_le _, rfl⟩
  rintro k s' ⟨i, h', tk, r', sl', o', rfl, hst', S', hi, hn, rfl⟩
  by_cases hlt : i < n
  · refine T.item i _ _ _ hlt hst' fun v h₁ tk₁ hP hst₁ hb₁ => ?_
    obtain ⟨oI, c, hoI, hcI, _, hcn, hre⟩ := T.obj _ _ hst₁
    have hcI' : oI.cls ≠ .type "tuple" := by rw [hcI]; intro e; cases e; exact hcn rfl
    have S₁ : Sd w g r' ((I, .ob oI) :: sl') h₁ := S'.put₀ hb₁ ⟨hoI, hcI'⟩
    refine T.go hst₁ ?_
    refine wpAny_mono (turn i v oI r' sl' h₁ tk₁ _ (fun _ _ q => q) hlt hP hi S₁) (fun _ s₃ h₃ => wpAny_mono h₃ (fun f s₄ h₄ => ?_) fun _ _ e => e.elim) fun _ _ e => e.elim
    have fin : TurnEnd w g s₂ I oI (inv (i + 1)) s₄ → ∃ m, m < n + 1 - i ∧ ∃ i h' tk r' sl' o', s₄ = at' s₂ h' tk ∧ St i h' ∧ Sd w g r' ((I, .ob o') :: sl') h' ∧ inv i r' sl' ∧ i ≤ n ∧ m = n + 1 - i := by
      rintro ⟨h₅, tk₅, r₅, sl₅, rfl, hi₅, S₅⟩
      exact ⟨n + 1 - (i + 1), by omega, i + 1, h₅, tk₅, r₅, sl₅, oI, rfl, hre _ (S₅.get (x := .ob oI) (.head _)).1 (hsrc _ _ _ _ _ hi₅ S₅), S₅, hi₅, hlt, rfl⟩
    cases f with
    | next => exact fin h₄
    | cont => exact fin h₄
    | brk => exact h₄
    | ret v => exact h₄
  · obtain rfl : i = n := Nat.le_antisymm hn (Nat.not_lt.mp hlt)
    refine T.done _ _ _ hst' fun h₁ tk₁ hb₁ => wpAny_execs_nil ?_
    exact done r' sl' h₁ tk₁ hi (S'.cut hb₁)
end

/-- a for over nothing -/
theorem for_none {prog : Program} {w : World} {A : Around} {s : Shared} {env : Env} {target iter : Expr} {body : List Stmt} {pos : Pos} {Q : Flow → Shared → Prop} (hs : ∀ x, foldedSetIterable iter env x = pure x)
    (h : wpAny (model prog w) A (eval iter env) (fun x s₁ => wpAny (model prog w) A (pyIter x) (fun it s₂ => wpAny (model prog w) A (pyNext it) (fun o s₃ => o = none ∧ Q .next s₃) NoE s₂) NoE s₁) NoE s) :
    wpAny (model prog w) A (exec (.For target iter body [] pos) env) Q NoE s := by
  refine wpAny_For (wpAny_mono h (fun xv s₁ h₁ => wpAny_mono h₁ (fun it s₂ h₂ => ?_) fun _ _ e => e) fun _ _ e => e) hs
  refine codeAny_forLoop_any (fun k s' => s' = s₂) ?_ 0 rfl
  rintro k s' rfl
  refine wpAny_mono h₂ (fun o s₃ h₃ => ?_) fun _ _ e => e.elim
  obtain ⟨rfl, hq⟩ := h₃
  exact wpAny_execs_nil hq

section
variable {prog : Program} {w : World} {A : Around} {s : Shared} {env : Env} {test : Expr} {body : List Stmt} {pos : Pos}
noncomputable def WhileEnd (w : World) (g : Heap) (s : Shared) (inv : Nat → Heap → List (Addr × Sp) → Prop) (n : Nat) (s₃ : Shared) : Prop :=
  ∃ n' h' tk r' sl', n' < n ∧ s₃ = at' s h' tk ∧ inv n' r' sl' ∧ Sd w g r' sl' h'
noncomputable def WhilePost (w : World) (g : Heap) (s : Shared) (Q : Flow → Shared → Prop) (inv : Nat → Heap → List (Addr × Sp) → Prop) (n : Nat) (f : Flow) (s₃ : Shared) : Prop :=
  match f with
  | .brk => Q .next s₃
  | .ret v => Q (.ret v) s₃
  | _ => WhileEnd w g s inv n s₃
theorem while_end {w : World} {g : Heap} {s : Shared} {inv : Nat → Heap → List (Addr × Sp) → Prop} {h' r' : Heap} {tk n n' : Nat} {sl sl' : List (Addr × Sp)} (S : Sd w g r' sl h') (p : sl.Perm sl') (hn : n' < n) (hi : inv n' r' sl') :
    WhileEnd w g s inv n (at' s h' tk) := ⟨n', h', tk, r', sl', hn, rfl, hi, S.perm p⟩
theorem while_rule {Q : Flow → Shared → Prop} {g r : Heap} {sl : List (Addr × Sp)} (inv : Nat → Heap → List (Addr × Sp) → Prop) (n₀ : Nat) (S : Sd w g r sl s.heap) (h0 : inv n₀ r sl)
    (turn : ∀ n r' sl' h' tk (Post : Flow → Shared → Prop), (∀ f s₃, WhilePost w g s Q inv n f s₃ → Post f s₃) → inv n r' sl' → Sd w g r' sl' h' → wpAny (model prog w) A (isTrue test env (eval test env)) (fun b s₂ =>
      if b = true then wpAny (model prog w) A (execs body env) Post NoE s₂ else Q .next s₂) NoE (at' s h' tk)) :
    wpAny (model prog w) A (exec (.While test body [] pos) env) Q NoE s := by
  refine wpAny_While (codeAny_whileLoop (fun n s' => ∃ h' tk r' sl', s' = at' s h' tk ∧ inv n r' sl' ∧ Sd w g r' sl' h') ?_ n₀ ⟨s.heap, s.toks, r, sl, rfl, h0, S⟩)
  rintro n s' ⟨h', tk, r', sl', rfl, hi, S'⟩
  refine wpAny_mono (turn n r' sl' h' tk _ (fun _ _ q => q) hi S') (fun b s₂ h₂ => ?_) fun _ _ e => e.elim
  cases b with
  | false => simp only [Bool.false_eq_true, if_false] at h₂ ⊢; exact wpAny_execs_nil h₂
  | true =>
    simp only [if_true] at h₂ ⊢
    refine wpAny_mono h₂ (fun f s₃ h₃ => ?_) fun _ _ e => e.elim
    have fin : WhileEnd w g s inv n s₃ → ∃ m, m < n ∧ ∃ h' tk r' sl', s₃ = at' s h' tk ∧ inv m r' sl' ∧ Sd w g r' sl' h' := by
      rintro ⟨n', h₅, tk₅, r₅, sl₅, hn, rfl, hi₅, S₅⟩
      exact ⟨n', hn, h₅, tk₅, r₅, sl₅, rfl, hi₅, S₅⟩
    cases f with
    | next => exact fin h₃
    | cont => exact fin h₃
    | brk => exact h₃
    | ret v => exact h₃
end

section
variable {prog : Program} {w : World} {A : Around} {E : Value → Shared → Prop} {s : Shared} {g r : Heap} {sl : List (Addr × Sp)}
theorem it_list {I ax : Addr} (hh : A.handled = none) (hne : ax ≠ I) (its : List Value) :
    It prog w A I its.length (fun i v => its[i]? = some v) (fun h => h.IsList ax its.toArray) (fun i h => h.IsListIter I ax i ∧ h.IsList ax its.toArray) := by
  have W := Walks.list (prog := prog) (w := w) hh I ax hne its.toArray
  rw [List.size_toArray] at W
  refine It.of_walks (fp := [I, ax]) ⟨W.sub, W.frame, fun i s Q E hi st hQ => W.item i s Q E hi st fun v h' tk hP => hQ v h' tk (by simpa using hP), W.done, W.self⟩ fun i h st => ?_
  obtain ⟨⟨o, ho, hc, hd⟩, hl⟩ := st
  exact ⟨o, _, ho, hc, by decide, by decide, fun h' e hs => ⟨⟨o, e, hc, hd⟩, hs⟩⟩
theorem it_tuple {I ax : Addr} (hh : A.handled = none) (hne : ax ≠ I) (its : List Value) :
    It prog w A I its.length (fun i v => its[i]? = some v) (fun h => h.IsTuple ax its.toArray) (fun i h => h.IsTupleIter I ax i ∧ h.IsTuple ax its.toArray) := by
  have W := Walks.tuple (prog := prog) (w := w) hh I ax hne its.toArray
  rw [List.size_toArray] at W
  refine It.of_walks (fp := [I, ax]) ⟨W.sub, W.frame, fun i s Q E hi st hQ => W.item i s Q E hi st fun v h' tk hP => hQ v h' tk (by simpa using hP), W.done, W.self⟩ fun i h st => ?_
  obtain ⟨⟨o, ho, hc, hd⟩, hl⟩ := st
  exact ⟨o, _, ho, hc, by decide, by decide, fun h' e hs => ⟨⟨o, e, hc, hd⟩, hs⟩⟩
theorem it_range {I : Addr} (hh : A.handled = none) (n : Nat) :
    It prog w A I n (fun i v => ∃ t, v = .int (i : Int) t) (fun _ => True) (fun i h => IsRangeIter h I (0 + (i : Nat) * 1) ((n : Int) - (i : Nat)) 1) := by
  have W := Walks.range (prog := prog) (w := w) hh I 0 1 n
  refine It.of_walks (fp := [I]) ⟨W.sub, W.frame, fun i s Q E hi st hQ => W.item i s Q E hi st fun v h' tk hP => hQ v h' tk (by obtain ⟨t, rfl⟩ := hP; exact ⟨t, by rw [Int.mul_one, Int.zero_add]⟩), W.done, W.self⟩ fun i h st => ?_
  exact ⟨_, _, st, rfl, by decide, by decide, fun h' e _ => e⟩
theorem it_ascii {I : Addr} (hh : A.handled = none) (x : Str) (t : Tok) :
    It prog w A I x.cps.size (SignAt x) (fun _ => True) (fun i h => h.IsStrIter I "str_ascii_iterator" x t i) := by
  refine It.of_walks (fp := [I]) (Walks.strAscii (prog := prog) (w := w) hh I x t) fun i h st => ?_
  obtain ⟨o, ho, hc, hd⟩ := st
  exact ⟨o, _, ho, hc, by decide, by decide, fun h' e _ => ⟨o, e, hc, hd⟩⟩

/-- an iterator made of the list at ax -/
theorem iter_list {ax : Addr} {its : List Value} {Q : Value → Shared → Prop} (S : Sd w g r sl s.heap) (hl₀ : s.heap.PlainList ax its.toArray) (hh : A.handled = none)
    (h : ∀ I o h', It prog w A I its.length (fun i v => its[i]? = some v) (fun h => h.IsList ax its.toArray) (fun i h => h.IsListIter I ax i ∧ h.IsList ax its.toArray) →
      (h'.IsListIter I ax 0 ∧ h'.IsList ax its.toArray) → Sd w g r ((I, .ob o) :: sl) h' → Q (.ref I) (at' s h' s.toks)) : wpAny (model prog w) A (pyIter (.ref ax)) Q E s := by
  have hl := hl₀.isList
  refine wpAny_pyIter_list hl ?_
  have hlt : ax < s.heap.objs.size := by obtain ⟨_, e, _⟩ := hl; exact Heap.lt_size e
  have k := push_stays s.heap { cls := .type "list_iterator", data := .fields #[.ref ax, .int 0 0] }
  exact h _ { cls := .type "list_iterator", data := .fields #[.ref ax, .int 0 0] } _ (it_list hh (Nat.ne_of_lt hlt) its) ⟨⟨_, Heap.get?_push_size _ rfl, rfl, rfl⟩, hl.push _⟩ (S.add k (fresh_none _) ⟨Heap.get?_push_size _ rfl, by simp⟩)
theorem iter_tuple {ax : Addr} {its : List Value} {Q : Value → Shared → Prop} (S : Sd w g r sl s.heap) (hl : s.heap.IsTuple ax its.toArray) (hh : A.handled = none)
    (h : ∀ I o h', It prog w A I its.length (fun i v => its[i]? = some v) (fun h => h.IsTuple ax its.toArray) (fun i h => h.IsTupleIter I ax i ∧ h.IsTuple ax its.toArray) →
      (h'.IsTupleIter I ax 0 ∧ h'.IsTuple ax its.toArray) → Sd w g r ((I, .ob o) :: sl) h' → Q (.ref I) (at' s h' s.toks)) : wpAny (model prog w) A (pyIter (.ref ax)) Q E s := by
  refine wpAny_pyIter_tuple hl ?_
  have hlt : ax < s.heap.objs.size := by obtain ⟨_, e, _⟩ := hl; exact Heap.lt_size e
  have k := push_stays s.heap { cls := .type "tuple_iterator", data := .fields #[.ref ax, .int 0 0] }
  exact h _ { cls := .type "tuple_iterator", data := .fields #[.ref ax, .int 0 0] } _ (it_tuple hh (Nat.ne_of_lt hlt) its) ⟨⟨_, Heap.get?_push_size _ rfl, rfl, rfl⟩, hl.at fun o e => k _ o e⟩ (S.add k (fresh_none _) ⟨Heap.get?_push_size _ rfl, by simp⟩)
theorem iter_range {ax : Addr} {n : Nat} {t u v : Tok} {Q : Value → Shared → Prop} (S : Sd w g r sl s.heap) (hr : IsRange s.heap ax 0 (n : Int) 1 t u v) (hsm : Builtin.Range.small 0 (n : Int) 1 = true) (hn : Builtin.Range.rangeSize 0 (n : Int) 1 = (n : Int)) (hh : A.handled = none)
    (h : ∀ I o h', It prog w A I n (fun i v => ∃ t, v = .int (i : Int) t) (fun _ => True) (fun i h => IsRangeIter h I (0 + (i : Nat) * 1) ((n : Int) - (i : Nat)) 1) →
      IsRangeIter h' I (0 + ((0 : Nat) : Int) * 1) ((n : Int) - ((0 : Nat) : Int)) 1 → Sd w g r ((I, .ob o) :: sl) h' → Q (.ref I) (at' s h' s.toks)) : wpAny (model prog w) A (pyIter (.ref ax)) Q E s := by
  refine wpAny_pyIter_range hr hsm ?_
  rw [hn]
  have k := push_stays s.heap { cls := .type "range_iterator", data := .fields #[rawInt 0, rawInt (n : Int), rawInt 1] }
  exact h _ { cls := .type "range_iterator", data := .fields #[rawInt 0, rawInt (n : Int), rawInt 1] } _ (it_range hh n) (by show Heap.get? _ _ = _; simpa using Heap.get?_push_size _ rfl) (S.add k (fresh_none _) ⟨Heap.get?_push_size _ rfl, by simp⟩)
theorem iter_ascii {x : Str} {t : Tok} {Q : Value → Shared → Prop} (S : Sd w g r sl s.heap) (ha : x.cps.all (· < 128) = true) (hh : A.handled = none)
    (h : ∀ I o h', It prog w A I x.cps.size (SignAt x) (fun _ => True) (fun i h => h.IsStrIter I "str_ascii_iterator" x t i) →
      h'.IsStrIter I "str_ascii_iterator" x t 0 → Sd w g r ((I, .ob o) :: sl) h' → Q (.ref I) (at' s h' s.toks)) : wpAny (model prog w) A (pyIter (.str x t)) Q E s := by
  refine wpAny_pyIter_ascii ha ?_
  have k := push_stays s.heap { cls := .type "str_ascii_iterator", data := .fields #[.str x t, .int 0 0] }
  exact h _ { cls := .type "str_ascii_iterator", data := .fields #[.str x t, .int 0 0] } _ (it_ascii hh x t) ⟨_, Heap.get?_push_size _ rfl, rfl, rfl⟩ (S.add k (fresh_none _) ⟨Heap.get?_push_size _ rfl, by simp⟩)
end
end Mine
namespace Mine

theorem cellsFrom_acc : ∀ (names : List (Str × NameKind)) (n : Nat) (acc : List (Str × Addr)), cellsFrom n names acc = cellsFrom n names [] ++ acc
  | [], _, _ => rfl
  | (name, kind) :: r, n, acc => by
    unfold cellsFrom
    by_cases hk : (kind == .cell) = true
    · rw [if_pos hk, if_pos hk, cellsFrom_acc r (n + 1) ((name, n) :: acc), cellsFrom_acc r (n + 1) [(name, n)], List.append_assoc]; rfl
    · rw [if_neg hk, if_neg hk]; exact cellsFrom_acc r n acc

/-- the block's own frame -/
noncomputable def cEnv (scope : Scope) (cl : List (Str × Addr)) (C : Addr) (env : Env) : Env :=
  { scope := relabel scope env, locals := C, globals := env.globals, cells := cellsFrom (C + 1) scope.names cl, qual := env.qual, func := none, code := env.code, frame := env.frame, builtins := env.builtins }

section
variable {prog : Program} {w : World} {A : Around} {E : Value → Shared → Prop} {s : Shared} {g r : Heap} {sl : List (Addr × Sp)} {env : Env}

theorem new_block {scope : Scope} {cl : List (Str × Addr)} {Q : Env → Shared → Prop} (S : Sd w g r sl s.heap)
    (h : ∀ C h', Sd w g r ((C, .ns fun _ => none) :: ((cellsFrom (C + 1) scope.names []).map (fun p => (p.2, Sp.cell none)) ++ sl)) h' →
      Q { scope := scope, locals := C, globals := env.globals, cells := cellsFrom (C + 1) scope.names cl, qual := env.qual, func := none, code := env.code, frame := env.frame, builtins := env.builtins } (at' s h' s.toks)) :
    wpAny (model prog w) A (newFunctionEnv scope env.globals cl [] env.qual none .none (some env)) Q E s := by
  simp only [newFunctionEnv, Option.isSome_some, if_true]
  refine wpAny_bind (wpAny_alloc ?_)
  refine wpAny_bind (wpAny_layCells _ (fun name kind cells => by cases hkc : kind == NameKind.cell <;> simp [hkc]) _ _ _ _ ?_)
  have hp : (s.heap.push { cls := .type "dict", data := .dict #[] }).objs.size = s.heap.objs.size + 1 := Heap.size_push ..
  rw [show ({ s with heap := s.heap.push { cls := .type "dict", data := .dict #[] } } : Shared).heap.objs.size = s.heap.objs.size + 1 from hp]
  refine wpAny_bind (wpAny_pure (wpAny_pure ?_))
  have ok := cellsFrom_ok scope.names (s.heap.push { cls := .type "dict", data := .dict #[] }) (s.heap.objs.size + 1) [] ⟨fun _ _ hm => (nomatch hm), List.Pairwise.nil⟩ (by rw [hp]; exact Nat.le_refl _)
  rw [hp] at ok
  have k1 := push_stays s.heap { cls := .type "dict", data := .dict #[] }
  have k2 : (s.heap.push { cls := .type "dict", data := .dict #[] }).StaysIn (pushCells (s.heap.push { cls := .type "dict", data := .dict #[] }) scope.names) := pushCells_keeps _ _
  have k : s.heap.StaysIn (pushCells (s.heap.push { cls := .type "dict", data := .dict #[] }) scope.names) := fun b o e => k2 b o (k1 b o e)
  have S' := S.ext k
  have fr : ∀ b, s.heap.objs.size ≤ b → s.heap.get? b = none := fun b hb => by
    cases e : s.heap.get? b with
    | none => rfl
    | some o => exact absurd (Heap.lt_size e) (Nat.not_lt.mpr hb)
  have lt : ∀ p ∈ sl, p.1 < s.heap.objs.size := fun p hp => let ⟨o, e, _⟩ := Sp.at_obj (S.at_ p hp); Heap.lt_size e
  refine h s.heap.objs.size _ ⟨S'.gd, S'.keep, ?_, ?_, ?_, S'.tk⟩
  · intro p hp
    rcases List.mem_cons.mp hp with rfl | hp
    · exact (Heap.Ns.new s.heap (.type "dict")).keeps k2
    · rcases List.mem_append.mp hp with hp | hp
      · obtain ⟨q, hq, rfl⟩ := List.mem_map.mp hp
        exact (ok.empty q.1 q.2 hq).1
      · exact S'.at_ p hp
  · rw [List.map_cons, List.map_append, List.map_map]
    refine List.nodup_cons.mpr ⟨fun hm => ?_, List.nodup_append.mpr ⟨?_, S.nd, fun c hc b hb e => ?_⟩⟩
    · rcases List.mem_append.mp hm with hm | hm
      · obtain ⟨q, hq, e⟩ := List.mem_map.mp hm
        exact absurd e (Nat.ne_of_gt (ok.empty q.1 q.2 hq).2)
      · obtain ⟨q, hq, e⟩ := List.mem_map.mp hm
        exact absurd e (Nat.ne_of_lt (lt q hq))
    · exact List.pairwise_map.mpr (ok.apart.imp fun y => y)
    · obtain ⟨q, hq, e1⟩ := List.mem_map.mp hc
      obtain ⟨q', hq', e2⟩ := List.mem_map.mp hb
      have h1 : s.heap.objs.size + 1 ≤ q.2 := (ok.empty q.1 q.2 hq).2
      have h2 := lt q' hq'
      have e1' : q.2 = c := e1
      have e2' : q'.1 = b := e2
      exact absurd (e1'.trans (e.trans e2'.symm)) (Nat.ne_of_gt (Nat.lt_trans h2 h1))
  · intro p hp
    rcases List.mem_cons.mp hp with rfl | hp
    · exact S.none_of (fr _ (Nat.le_refl _))
    · rcases List.mem_append.mp hp with hp | hp
      · obtain ⟨q, hq, rfl⟩ := List.mem_map.mp hp
        exact S.none_of (fr _ (Nat.le_of_lt (ok.empty q.1 q.2 hq).2))
      · exact S.nw p hp

/-- the tests of a block's clause: none, or one -/
noncomputable def Tests (M : Model) (A : Around) (ifs : List Expr) (env : Env) (Q : Bool → Shared → Prop) (s : Shared) : Prop :=
  match ifs with
  | [] => Q true s
  | [c] => wpAny M A (isTrue c env (eval c env)) Q NoE s
  | _ => False
theorem tests_run {ifs : List Expr} {Q : Bool → Shared → Prop} (h : Tests (model prog w) A ifs env Q s) :
    wpAny (model prog w) A (forIn ifs true fun c r => if r = true then do let ok ← isTrue c env (eval c env); pure (ForInStep.yield ok) else pure (ForInStep.yield r)) Q E s := by
  match ifs, h with
  | [], h => exact wpAny_tests_nil h
  | [c], h => exact wpAny_tests_one (wpAny_mono h (fun _ _ q => q) fun _ _ e => e.elim)

theorem loop_block {R : Result → Shared → Prop} {elt target iter : Expr} {ifs : List Expr} {scope : Scope} {pos : Pos} {it acc : Value} (I : Nat → Shared → Prop)
    (turn : ∀ n s, I n s → wpAny (model prog w) A (pyNext it) (fun r s₁ => match r with
      | none => R (.ok .next) s₁
      | some v => wpAny (model prog w) A (letOwnedTupleGo target it v) (fun _ s₁' => wpAny (model prog w) A (assign target env v) (fun _ s₂ => Tests (model prog w) A ifs env (fun ok s₃ =>
            if ok = true then wpAny (model prog w) A (eval elt env) (fun x s₄ =>
              wpAny (model prog w) A (call (.builtin "list.append") [acc, x]) (fun _ s₅ => ∃ m, m < n ∧ I m s₅) NoE s₄) NoE s₃
            else ∃ m, m < n ∧ I m s₃) s₂) NoE s₁') NoE s₁) NoE s)
    (n : Nat) (h : I n s) :
    codeAny (model prog w) A (.compLoop (.ListComp elt [⟨target, iter, ifs, 0⟩] scope pos) 0 it acc env) R s := by
  refine codeAny_loop rfl I (fun n s hI => ?_) n h
  show wpAny _ A ((compTurn (.ListComp elt [⟨target, iter, ifs, 0⟩] scope pos) 0 it acc env).onRaise (fun x => do noteFrame x env; theTreesLotGoes x)) _ _ s
  refine wpAny_noted ?_
  rw [compTurn_list]
  refine wpAny_bind (wpAny_standAt (wpAny_bind (wpAny_mono (turn n s hI) (fun r s₁ h₁ => ?_) fun _ _ h' => h'.elim)))
  cases r with
  | none => exact wpAny_pure h₁
  | some v =>
    refine wpAny_bind (wpAny_mono h₁ (fun _ s₁' h₁' => ?_) fun _ _ h' => h'.elim)
    refine wpAny_bind (wpAny_mono h₁' (fun _ s₂ h₂ => wpAny_bind (wpAny_mono (tests_run h₂) (fun ok s₃ h₃ => ?_) fun _ _ h' => h')) fun _ _ h' => h'.elim)
    cases ok with
    | false => exact wpAny_pure ⟨rfl, by simpa using h₃⟩
    | true =>
      simp only [if_true] at h₃
      exact wpAny_bind (wpAny_bind (wpAny_mono h₃ (fun x s₄ h₄ => wpAny_bind (wpAny_mono h₄ (fun _ s₅ h₅ => wpAny_pure (wpAny_pure ⟨rfl, h₅⟩)) fun _ _ h' => False.elim h')) fun _ _ h' => False.elim h'))

noncomputable def BlockEnd (w : World) (g : Heap) (s : Shared) (I C D : Addr) (oI : Obj) (ys : List Value) (inv : List Value → Heap → List (Addr × Sp) → Prop) (ys' : List Value) (s₃ : Shared) : Prop :=
  ∃ h' tk r' sl' m', s₃ = at' s h' tk ∧ inv ys' r' sl' ∧ Sd w g r' ((C, .ns m') :: (I, .ob oI) :: (D, .lst ys) :: sl') h'
theorem block_end {I C D : Addr} {oI : Obj} {ys ys' : List Value} {inv : List Value → Heap → List (Addr × Sp) → Prop} {h' r' : Heap} {tk : Nat} {sl₁ sl' : List (Addr × Sp)} {m' : Str → Option Value}
    (S : Sd w g r' sl₁ h') (p : sl₁.Perm ((C, .ns m') :: (I, .ob oI) :: (D, .lst ys) :: sl')) (hi : inv ys' r' sl') : BlockEnd w g s I C D oI ys inv ys' (at' s h' tk) := ⟨h', tk, r', sl', m', rfl, hi, S.perm p⟩

noncomputable def BlockTurn (prog : Program) (w : World) (A : Around) (g : Heap) (s : Shared) (cenv : Env) (target elt : Expr) (ifs : List Expr) (n : Nat) (P : Nat → Value → Prop) (I C D : Addr) (inv : Nat → List Value → Heap → List (Addr × Sp) → Prop) : Prop :=
  ∀ i v oI ys m r' sl' h' tk (Post : List Value → Shared → Prop), (∀ y s₃, BlockEnd w g s I C D oI ys (inv (i + 1)) y s₃ → Post y s₃) → i < n → P i v → inv i ys r' sl' → Sd w g r' ((C, .ns m) :: (I, .ob oI) :: (D, .lst ys) :: sl') h' →
    wpAny (model prog w) A (assign target cenv v) (fun _ s₂ => Tests (model prog w) A ifs cenv (fun ok s₃ =>
      if ok = true then wpAny (model prog w) A (eval elt cenv) (fun y s₄ => Post (ys ++ [y]) s₄) NoE s₃
      else Post ys s₃) s₂) NoE (at' s h' tk)

inductive BlockIn (prog : Program) (w : World) (A : Around) (env : Env) (scope : Scope) (cl : List (Str × Addr)) (target elt : Expr) (ifs : List Expr) (fin : Heap → Heap → List (Addr × Sp) → Addr → Addr → (Str → Option Value) → List Value → Shared → Prop) (s : Shared)
    (I : Addr) (n : Nat) (P : Nat → Value → Prop) (Src : Heap → Prop) (g r : Heap) (sl : List (Addr × Sp)) (D C : Addr) : Prop
  | mk (inv : Nat → List Value → Heap → List (Addr × Sp) → Prop) (h0 : inv 0 [] r ((cellsFrom (C + 1) scope.names []).map (fun p => (p.2, Sp.cell none)) ++ sl))
      (src : ∀ i ys r' sl' sl₁ h', inv i ys r' sl' → Sd w g r' sl₁ h' → (∀ p ∈ sl', p ∈ sl₁) → Src h')
      (turn : BlockTurn prog w A g s (cEnv scope cl C env) target elt ifs n P I C D inv)
      (done : ∀ ys m r' sl' h' tk, inv n ys r' sl' → Sd w g r' ((C, .ns m) :: (D, .lst ys) :: sl') h' → fin g r' sl' C D m ys (at' s h' tk))
inductive BlockAt (prog : Program) (w : World) (A : Around) (env : Env) (scope : Scope) (cl : List (Str × Addr)) (target elt : Expr) (ifs : List Expr) (fin : Heap → Heap → List (Addr × Sp) → Addr → Addr → (Str → Option Value) → List Value → Shared → Prop) (it : Value) (s : Shared) : Prop
  | mk (I : Addr) (n : Nat) (P : Nat → Value → Prop) (Src : Heap → Prop) (St : Nat → Heap → Prop) (g r : Heap) (sl : List (Addr × Sp)) (o : Obj)
    (eq : it = .ref I) (T : It prog w A I n P Src St) (size : n ≤ sizeLine) (hst : St 0 s.heap) (S : Sd w g r ((I, .ob o) :: sl) s.heap)
    (go : ∀ D C, BlockIn prog w A env scope cl target elt ifs fin s I n P Src g r sl D C)

theorem block_run {elt target iter : Expr} {ifs : List Expr} {scope : Scope} {cl : List (Str × Addr)} {pos : Pos} {fin : Heap → Heap → List (Addr × Sp) → Addr → Addr → (Str → Option Value) → List Value → Shared → Prop} {RR : Value → Addr → Result → Shared → Prop} {it : Value}
    (B : BlockAt prog w A env scope cl target elt ifs fin it s)
    (hRR : ∀ g r' sl' C D m ys s', fin g r' sl' C D m ys s' → Sd w g r' ((C, .ns m) :: (D, .lst ys) :: sl') s'.heap → RR (.ref D) C (.ok .next) s') :
    wpAny (model prog w) A (newList []) (fun acc s₃ => wpAny (model prog w) A (newFunctionEnv scope env.globals cl [] env.qual none .none (some env)) (fun cenv s₄ =>
      codeAny (model prog w) A (.compStart (.ListComp elt [⟨target, iter, ifs, 0⟩] scope pos) 0 it acc { cenv with scope := relabel scope env }) (RR acc cenv.locals) s₄) NoE s₃) NoE s := by
  obtain ⟨I, n, P, Src, St, g, r, sl, o, rfl, T, hsz, hst, S, B⟩ := B
  refine r_newList S (fun D h₁ S₁ => ?_) (Nat.zero_le _)
  refine new_block S₁ fun C h₂ S₂ => ?_
  dsimp only
  obtain ⟨inv, h0, hsrc, turn, fin'⟩ := B D C
  let ce : List (Addr × Sp) := (cellsFrom (C + 1) scope.names []).map (fun p => (p.2, Sp.cell none))
  have S₃ : Sd w g r ((C, .ns fun _ => none) :: (I, .ob o) :: (D, .lst []) :: (ce ++ sl)) h₂ := by
    refine S₂.perm (List.Perm.cons _ ?_)
    show (ce ++ (D, .lst []) :: (I, .ob o) :: sl).Perm _
    exact (List.perm_middle.trans (List.Perm.cons _ List.perm_middle)).trans (List.Perm.swap ..)
  obtain ⟨oI₀, c₀, ho₀, _, _, _, hre₀⟩ := T.obj _ _ hst
  have hIget : s.heap.get? I = some o := (S.get (x := .ob o) (.head _)).1
  have eo : oI₀ = o := by rw [hIget] at ho₀; exact (Option.some.inj ho₀).symm
  subst eo
  have hst₂ : St 0 h₂ := hre₀ _ (S₃.get (x := .ob oI₀) (.tail _ (.head _))).1 (hsrc _ _ _ _ _ _ h0 S₃ fun p hp => .tail _ (.tail _ (.tail _ hp)))
  have loop : ∀ s₃ : Shared, s₃ = at' s h₂ s.toks → codeAny (model prog w) A (.compLoop (.ListComp elt [⟨target, iter, ifs, 0⟩] scope pos) 0 (.ref I) (.ref D) (cEnv scope cl C env)) (RR (.ref D) C) s₃ := by
    rintro s₃ rfl
    refine loop_block (fun k s' => ∃ i ys m h' tk r' sl' o', s' = at' s h' tk ∧ St i h' ∧ Sd w g r' ((C, .ns m) :: (I, .ob o') :: (D, .lst ys) :: sl') h' ∧ inv i ys r' sl' ∧ ys.length ≤ i ∧ i ≤ n ∧ k = n + 1 - i) ?_ (n + 1)
      ⟨0, [], _, h₂, s.toks, r, ce ++ sl, oI₀, rfl, hst₂, S₃, h0, Nat.le_refl _, Nat.zero_le _, rfl⟩
    rintro k s' ⟨i, ys, m, h', tk, r', sl', o', rfl, hst', S', hi, hyl, hn, rfl⟩
    have S'' : Sd w g r' ((I, .ob o') :: (C, .ns m) :: (D, .lst ys) :: sl') h' := S'.perm pm1
    by_cases hlt : i < n
    · refine T.item i _ _ _ hlt hst' fun v h₁ tk₁ hP hst₁ hb₁ => ?_
      obtain ⟨oI, c, hoI, hcI, _, hcn, hre⟩ := T.obj _ _ hst₁
      have hcI' : oI.cls ≠ .type "tuple" := by rw [hcI]; intro e; cases e; exact hcn rfl
      have S₁ : Sd w g r' ((C, .ns m) :: (I, .ob oI) :: (D, .lst ys) :: sl') h₁ := (S''.put₀ (x' := .ob oI) hb₁ ⟨hoI, hcI'⟩).perm pm1
      refine T.go hst₁ ?_
      have fin : ∀ ys' s₄, ys'.length ≤ i + 1 → (∃ h' tk r' sl' m', s₄ = at' s h' tk ∧ inv (i + 1) ys' r' sl' ∧ Sd w g r' ((C, .ns m') :: (I, .ob oI) :: (D, .lst ys') :: sl') h') →
          ∃ m, m < n + 1 - i ∧ ∃ i ys m' h' tk r' sl' o', s₄ = at' s h' tk ∧ St i h' ∧ Sd w g r' ((C, .ns m') :: (I, .ob o') :: (D, .lst ys) :: sl') h' ∧ inv i ys r' sl' ∧ ys.length ≤ i ∧ i ≤ n ∧ m = n + 1 - i := by
        rintro ys' s₄ hl ⟨h₅, tk₅, r₅, sl₅, m₅, rfl, hi₅, S₅⟩
        exact ⟨n + 1 - (i + 1), by omega, i + 1, ys', m₅, h₅, tk₅, r₅, sl₅, oI, rfl, hre _ (S₅.get (x := .ob oI) (.tail _ (.head _))).1 (hsrc _ _ _ _ _ _ hi₅ S₅ fun p hp => .tail _ (.tail _ (.tail _ hp))), S₅, hi₅, hl, hlt, rfl⟩
      refine wpAny_mono (turn i v oI ys m r' sl' h₁ tk₁ (fun y s₄ => BlockEnd w g s I C D oI ys (inv (i + 1)) y s₄) (fun _ _ q => q) hlt hP hi S₁) (fun _ s₃ h₃ => ?_) fun _ _ e => e.elim
      have step : ∀ ok s₄, (if ok = true then wpAny (model prog w) A (eval elt (cEnv scope cl C env)) (fun y s₄ => BlockEnd w g s I C D oI ys (inv (i + 1)) (ys ++ [y]) s₄) NoE s₄ else BlockEnd w g s I C D oI ys (inv (i + 1)) ys s₄) →
          if ok = true then wpAny (model prog w) A (eval elt (cEnv scope cl C env)) (fun x s₄ => wpAny (model prog w) A (call (.builtin "list.append") [.ref D, x]) (fun _ s₅ => ∃ m, m < n + 1 - i ∧ ∃ i ys m' h' tk r' sl' o', s₅ = at' s h' tk ∧ St i h' ∧ Sd w g r' ((C, .ns m') :: (I, .ob o') :: (D, .lst ys) :: sl') h' ∧ inv i ys r' sl' ∧ ys.length ≤ i ∧ i ≤ n ∧ m = n + 1 - i) NoE s₄) NoE s₄
          else ∃ m, m < n + 1 - i ∧ ∃ i ys m' h' tk r' sl' o', s₄ = at' s h' tk ∧ St i h' ∧ Sd w g r' ((C, .ns m') :: (I, .ob o') :: (D, .lst ys) :: sl') h' ∧ inv i ys r' sl' ∧ ys.length ≤ i ∧ i ≤ n ∧ m = n + 1 - i := by
        intro ok s₄ h₄
        cases ok with
        | false =>
          simp only [Bool.false_eq_true, if_false] at h₄ ⊢
          obtain ⟨h₅, tk₅, r₅, sl₅, m₅, rfl, hi₅, S₅⟩ := h₄
          exact fin ys _ (Nat.le_succ_of_le hyl) ⟨h₅, tk₅, r₅, sl₅, m₅, rfl, hi₅, S₅⟩
        | true =>
          simp only [if_true] at h₄ ⊢
          refine wpAny_mono h₄ (fun y s₅ h₅ => ?_) fun _ _ e => e
          obtain ⟨h₅, tk₅, r₅, sl₅, m₅, rfl, hi₅, S₅⟩ := h₅
          refine r_append S₅ pm2 (Nat.le_trans (Nat.le_trans hyl hn) hsz) fun h₆ S₆ => ?_
          exact fin (ys ++ [y]) _ (by simpa using hyl) ⟨h₆, tk₅, r₅, sl₅, m₅, rfl, hi₅, S₆.perm (pm2.symm)⟩
      match ifs, h₃ with
      | [], h₃ => exact step true _ h₃
      | [c], h₃ => exact wpAny_mono h₃ (fun ok s₄ h₄ => step ok s₄ h₄) fun _ _ e => e
    · obtain rfl : i = n := Nat.le_antisymm hn (Nat.not_lt.mp hlt)
      refine T.done _ _ _ hst' fun h₁ tk₁ hb₁ => ?_
      have S₁ := S''.cut hb₁
      exact hRR g r' sl' C D m ys _ (fin' ys m r' sl' h₁ tk₁ hi S₁) S₁
  exact codeAny_compStart_list (loop _ rfl) (T.self 0 _ _ _ hst₂ (loop _ rfl))

/-- a list made by a block, as a value -/
theorem comp_rule {elt target iter : Expr} {ifs : List Expr} {scope : Scope} {cl : List (Str × Addr)} {pos : Pos} {Q : Value → Shared → Prop}
    (hclos : closureFor scope env = pure cl) (hkind : scope.kind = .function) (hnames : ∀ y ∈ scope.names, y.2 = .local → scope.names.lookup y.1 = some .local) (hs : ∀ x, foldedSetIterable iter env x = pure x)
    (h : wpAny (model prog w) A (eval iter env) (fun xv s₁ => wpAny (model prog w) A (pyIter xv) (fun it s₂ =>
      BlockAt prog w A env scope cl target elt ifs (fun g r' sl' _ D _ ys s' => ∀ h'', Sd w g r' ((D, .lst ys) :: sl') h'' → Q (.ref D) (at' s' h'' s'.toks)) it s₂) NoE s₁) NoE s) :
    wpAny (model prog w) A (eval (.ListComp elt [⟨target, iter, ifs, 0⟩] scope pos) env) Q NoE s := by
  rw [eval_ListComp]
  refine wpAny_comprehension_free (use := none) rfl hs hclos hkind hnames (wpAny_mono h (fun xv s₁ h₁ => wpAny_mono h₁ (fun it s₂ h₂ => ?_) fun _ _ e => e) fun _ _ e => e)
  refine block_run h₂ fun g r' sl' C D m ys s' hf S' => ?_
  exact ⟨m, S'.get (x := .ns m) (.head _), fun h'' hs'' => hf h'' (S'.cut hs''.extBut)⟩

/-- a list made by a block and stored at once to a local name -/
theorem comp_assign {elt target iter : Expr} {ifs : List Expr} {scope : Scope} {cl : List (Str × Addr)} {y : Str} {py pos spos : Pos} {Q : Flow → Shared → Prop}
    (hsw : swapsWith (.ListComp elt [⟨target, iter, ifs, 0⟩] scope pos) (some (.Name y py)) spos.line env = pure true)
    (hclos : closureFor scope env = pure cl) (hkind : scope.kind = .function) (hnames : ∀ y ∈ scope.names, y.2 = .local → scope.names.lookup y.1 = some .local) (hs : ∀ x, foldedSetIterable iter env x = pure x)
    (hy : env.kindOf y = some .local) (hp : (env.scope.kind == .class || (env.scope.kind == .module && env.locals != env.globals)) = false)
    (h : wpAny (model prog w) A (eval iter env) (fun xv s₁ => wpAny (model prog w) A (pyIter xv) (fun it s₂ =>
      BlockAt prog w A env scope cl target elt ifs (fun g r' sl' _ D _ ys s' => ∃ m₀ sl₀, sl'.Perm ((env.locals, .ns m₀) :: sl₀) ∧ ∀ h'' tk'', Sd w g r' ((env.locals, .ns (fun z => if z = y then some (.ref D) else m₀ z)) :: (D, .lst ys) :: sl₀) h'' → Q .next (at' s' h'' tk'')) it s₂) NoE s₁) NoE s) :
    wpAny (model prog w) A (exec (.Assign [.Name y py] (.ListComp elt [⟨target, iter, ifs, 0⟩] scope pos) spos) env) Q NoE s := by
  rw [exec_Assign_Name_used _ _ _ _ hsw]
  refine wpAny_bind (wpAny_standAt (wpAny_bind ?_))
  show wpAny _ A (do let _ ← comprehension (.ListComp elt [⟨target, iter, ifs, 0⟩] scope pos) scope env _ (newList []) false (eval iter env) (some (assign (.Name y py) env))) _ _ s
  refine wpAny_bind (wpAny_mono (wpAny_comprehension_free (use := some (assign (.Name y py) env)) (Q := fun _ s' => Q .next s') rfl hs hclos hkind hnames
    (wpAny_mono h (fun xv s₁ h₁ => wpAny_mono h₁ (fun it s₂ h₂ => ?_) fun _ _ e => e) fun _ _ e => e)) (fun _ s' hq => wpAny_pure (wpAny_pure hq)) fun _ _ e => e)
  refine block_run h₂ fun g r' sl' C D m ys s' hf S' => ?_
  obtain ⟨m₀, sl₀, hperm, hf⟩ := hf
  show wpAny _ A (assign (.Name y py) env (.ref D)) _ _ _
  refine wpAny_assign_Name ?_
  have S₁ : Sd w g r' ((env.locals, .ns m₀) :: (C, .ns m) :: (D, .lst ys) :: sl₀) s'.heap := S'.perm ((List.Perm.cons _ (List.Perm.cons _ hperm)).trans pm2)
  refine r_store S₁ pm0 rfl hy hp fun h₁ tk₁ S₂ => ?_
  have S₃ : Sd w g r' ((C, .ns m) :: (env.locals, .ns (fun z => if z = y then some (.ref D) else m₀ z)) :: (D, .lst ys) :: sl₀) h₁ := S₂.perm pm1
  exact ⟨m, S₃.get (x := .ns m) (.head _), fun h'' hs'' => hf h'' _ (S₃.cut hs''.extBut)⟩
end
end Mine
local macro_rules | `(tactic| walk_at "zS") => `(tactic| (case zzS => assumption))
local macro_rules | `(tactic| walk_at "zn") => `(tactic| (first | decide | omega))
local macro_rules | `(tactic| walk_at "zi") => `(tactic| ((rename Sd _ _ _ _ _ => oldS); intro h' S'; clear oldS))
local macro_rules | `(tactic| walk_at "mm") => `(tactic| first | assumption | ((repeat (first | exact List.Mem.head _ | apply List.Mem.tail)); done))
local macro_rules | `(tactic| walk_at "pm") => `(tactic| first | exact pm0 | exact pm1 | exact pm2 | exact pm3 | exact pm4 | exact pm5 | exact pm6 | exact pm7 | exact pm8)
local macro_rules | `(tactic| walk_at "lk") => `(tactic| first | assumption | exact rfl | exact if_pos rfl | ((refine Eq.trans (if_neg (by decide)) ?_); walk_at "lk"))
local macro_rules | `(tactic| walk_at "eval Name") => `(tactic| (k_dflt (first
  | (refine' r_local ?zzS ?zzm ?zzl ?zzv ?_ ?zza ?zzb ?zzc; walk_at "zS"; (case zzb | zza => exact rfl); (case zzm => walk_at "mm"); (case zzl => exact rfl); (case zzv => ((try dsimp only); walk_at "lk")); (case zzc => decide); k_whole)
  | (refine' r_cell ?zzS ?zzv ?zzm ?_ ?zza ?zzb ?zzc; walk_at "zS"; (case zzb | zza => exact rfl); (case zzv => exact rfl); (case zzm => walk_at "mm"); (case zzc => decide); k_whole)
  | (refine' r_glob ?zzS ?zzm ?_ ?zzg ?zza ?zzb ?zzc; walk_at "zS"; (case zzb | zza => exact rfl); (case zzg => exact rfl); (case zzm => k_is); (case zzc => decide); k_whole)
  | (refine' r_bltn ?zzS ?zzm ?zzv ?zzn ?_ ?zzg ?zzh ?zza ?zzb ?zzc; walk_at "zS"; (case zzb | zza => exact rfl); (case zzg => exact rfl); (case zzh => exact rfl); (case zzm => k_is); (case zzv => boot_by_name); (case zzn => decide); (case zzc => decide); k_whole))))
local macro_rules | `(tactic| walk_at "storeName") => `(tactic| (k_dflt (first
  | (refine' r_store ?zzS ?zzp ?zzl ?zza ?zzb ?_; walk_at "zS"; (case zza | zzb => exact rfl); (case zzp => walk_at "pm"); (case zzl => exact rfl); k_whole; (rename Sd _ _ _ _ _ => oldS); intro h' tk' S'; clear oldS)
  | (refine' r_storeC ?zzS ?zzv ?zzp ?zza ?zzb ?_; walk_at "zS"; (case zzb | zza => exact rfl); (case zzv => exact rfl); (case zzp => walk_at "pm"); k_whole; walk_at "zi"))))
local macro_rules | `(tactic| walk_at "newList") => `(tactic| (k_dflt (refine' r_newList ?zzS ?_ ?zzz; walk_at "zS"; (case zzz => (first | exact Nat.zero_le _ | size_fits)); k_whole; (rename Sd _ _ _ _ _ => oldS); intro l' h' S'; clear oldS)))
local macro_rules | `(tactic| walk_at "newTuple") => `(tactic| (k_dflt (refine' r_newTuple ?zzS ?_ ?zzz; walk_at "zS"; (case zzz => size_fits); k_whole; (rename Sd _ _ _ _ _ => oldS); intro a' h' S' ht'; clear oldS)))
local macro_rules | `(tactic| walk_at "call builtin:list.append") => `(tactic| (k_dflt (refine' r_append ?zzS ?zzp ?zzz ?_; walk_at "zS"; (case zzp => walk_at "pm"); (case zzz => first | assumption | size_fits); k_whole; walk_at "zi")))
local macro_rules | `(tactic| walk_at "assign Tuple") => `(tactic| (k_dflt (first
  | (refine' r_unpack ?zzS ?zzm ?zza ?zzb ?zzc ?_; walk_at "zS"; (case zzm => walk_at "mm"); (case zza | zzb | zzc => exact rfl); k_whole; walk_at "zi"; (try dsimp only [assignEach, List.map]))
  | (refine' r_unpackT ?zzS ?zzm ?zza ?zzb ?zzc ?_; walk_at "zS"; (case zzm => assumption); (case zza | zzb | zzc => exact rfl); k_whole; walk_at "zi"; (try dsimp only [assignEach, List.map])))))
local macro_rules | `(tactic| walk_at "call builtin:divmod") => `(tactic| (k_dflt (refine' r_divmod ?zzS ?zza ?zzb ?_; walk_at "zS"; (case zza => decide); (case zzb => exact PyProof.noPylong_of_log2 (by decide +kernel)); k_whole; (rename Sd _ _ _ _ _ => oldS); intro d' h' tk' t1' t2' S'; clear oldS)))
theorem Mine.r_subtup {prog : Program} {w : World} {A : Around} {E : Value → Shared → Prop} {s : Shared} {g r : Heap} {sl : List (Addr × Sp)} {value slice : PySem.Expr} {t : Addr} {its : List Value} {i : Int} {u : Tok} {v : Value} {ops : List Value} {Q : Value → Shared → Prop}
    (S : Sd w g r sl s.heap) (ht : r.IsTuple t its.toArray) (h0 : 0 ≤ i) (h1 : i < 1000000) (hv : its[i.toNat]? = some v) (h : Q v s)
    (hs : subscripted slice false (.ref t) (.int i u) = operate ops (getItem (.ref t) (.int i u)) := by with_unfolding_all rfl) :
    wpAny (model prog w) A (subscriptTail value slice (.ref t) (.int i u)) Q E s := by
  refine kba_turn (value' := PySem.Expr.Name "_" ⟨0, 0, 0, 0⟩) (fun _ => rfl) ?_
  have hT := S.tk.tuple ht
  obtain ⟨o, ho, hc, n, hd⟩ := hT
  have hT' : IsTup s.heap t its.toArray := ⟨o, ho, hc, n, hd⟩
  have hl : i.toNat < its.length := (List.getElem?_eq_some_iff.mp hv).1
  refine subscriptTail_ops (T := "tuple") ⟨o, ho, hc⟩ slot_tuple_getitem.lookup (getItem_tuple (j := i.toNat) hT' (by omega) (by omega) ?_ (by simpa using hv) h) hs (fun _ => rfl)
  have h2 : ¬ i < 0 := by omega
  simp [seqIndex?, h2]; omega
theorem Mine.r_sublst {prog : Program} {w : World} {A : Around} {E : Value → Shared → Prop} {s : Shared} {g r : Heap} {sl : List (Addr × Sp)} {value slice : PySem.Expr} {t : Addr} {its : List Value} {i : Int} {u : Tok} {v : Value} {ops : List Value} {Q : Value → Shared → Prop}
    (S : Sd w g r sl s.heap) (ht : (t, Sp.lst its) ∈ sl) (h0 : 0 ≤ i) (h1 : i < 1000000) (hv : its[i.toNat]? = some v) (h : Q v s)
    (hs : subscripted slice false (.ref t) (.int i u) = operate ops (getItem (.ref t) (.int i u)) := by with_unfolding_all rfl) :
    wpAny (model prog w) A (subscriptTail value slice (.ref t) (.int i u)) Q E s := by
  refine kba_turn (value' := PySem.Expr.Name "_" ⟨0, 0, 0, 0⟩) (fun _ => rfl) ?_
  have hl : s.heap.PlainList t its.toArray := S.get (x := .lst its) ht
  exact subscriptTail_ops (Heap.IsList.typeIs (s := s) hl.isList) list_getitem_lookup (wpAny_getItem_list hl.isList h0 (by omega) (by simpa using hv) h) hs (fun _ => rfl)
theorem Mine.stays {w : World} {h g' r h' : Heap} {sl : List (Addr × Sp)} (S : Sd w g' r sl h') (hb : But [] h g') : h.StaysIn h' := fun b o e => S.keep b o (hb b o e (by simp))
noncomputable abbrev Mine.AR (dp un : Nat) (fr : Option (List Env)) (gs : Option (List Code)) : Around := { handled := none, depth := dp, frames := fr, guards := gs, units := un }
local macro_rules | `(tactic| walk_at "enter") => `(tactic| ((case k6 => k_is); (case k7 => k_is); (case k8 => (first | (show dp < _; omega) | (dsimp only [Around.deeper, Around.in1, Around.mark]; omega))); (case k9 => first | exact BindsTo.of_eq rfl | exact binds_K (X := by exact (Sd.gd (by assumption)).X.keeps (Sd.keep (by assumption))) rfl (by k_is) rfl rfl rfl); (case kB => exact kindsX rfl); (case kD => decide +kernel); (case km => exact fun _ => rfl); (case kc => exact fun _ => rfl); (case c2 => exact rfl); (case c3 => exact rfl); (case c4 => exact rfl); (try intro g' L h₁ tk hb S₁; dsimp only [List.nil_append, List.cons_append] at S₁)))
local macro_rules | `(tactic| walk_at "go") => `(tactic| repeat' (first | walk1 | (dsimp only; walk1)))
local macro_rules | `(tactic| walk_at "callWith ref") => `(tactic| (k_dflt (first
  | (refine' callWith_K (Sd.gd ?zzS).X ?zzk2 ?_; walk_at "zS"; (case zzk2 => k_is); k_whole)
  | (refine' callWith_K0 ((Sd.gd ?zzS).X.keeps (Sd.keep ?zzS)) ?zzk2 ?_; walk_at "zS"; (case zzk2 => k_is); k_whole)
  | (refine' callWith_KW (Sd.gd ?zzS).X ?zzk2 ?zzk3 ?_; walk_at "zS"; (case zzk2 => k_is); (case zzk3 => exact rfl); k_whole)
  | (refine' callWith_KW0 (Sd.gd ?zzS).X ?zzk2 ?zzk3 ?_; walk_at "zS"; (case zzk2 => k_is); (case zzk3 => exact rfl); k_whole))))
local macro_rules | `(tactic| walk_at "In") => `(tactic| exact (Sd.gd (by assumption)).X.keeps (Sd.keep (by assumption)))
local macro_rules | `(tactic| walk_at "om") => `(tactic| first | omega | (dsimp only [Mine.AR, Around.deeper, Around.in1, Around.mark]; omega))
local macro_rules | `(tactic| walk_at "pure") => `(tactic| ((rename Sd _ _ _ _ _ => oldS); (rename Heap.StaysIn _ _ => kk); have newS := oldS.ext kk; clear oldS kk))
local macro_rules | `(tactic| walk_at "comp") => `(tactic| (refine' comp_rule ?zzc ?zzk ?zzn ?zzs ?_; (case zzc => with_unfolding_all rfl); (case zzk => rfl); (case zzn => decide); (case zzs => intro _; rfl)))
local macro_rules | `(tactic| walk_at "eval Call Attribute") => `(tactic| ((with_reducible show wpAny _ _ (eval (Expr.Call (Expr.Attribute _ _ _) _ (_ :: _) _) _) _ _ _); refine methodCall_KW ?_))
local macro_rules | `(tactic| walk_at "evalAll") => `(tactic| (first | refine kwAll_cons ?_ | refine kwAll_nil ?_))
theorem Mine.tests_none {M : Model} {A : Around} {env : Env} {s : Shared} {X Y : Shared → Prop} (h : X s) : Tests M A [] env (fun ok s => if ok = true then X s else Y s) s := by
  show (if true = true then X s else Y s)
  rw [if_pos rfl]; exact h
theorem Mine.tests_one {M : Model} {A : Around} {env : Env} {s : Shared} {c : Expr} {Q : Bool → Shared → Prop} (h : wpAny M A (isTrue c env (eval c env)) Q NoE s) : Tests M A [c] env Q s := h
local macro_rules | `(tactic| walk_at "tests") => `(tactic| first | refine Mine.tests_none ?_ | refine Mine.tests_one ?_)
local macro_rules | `(tactic| walk_at "exec Assign cons ListComp") => `(tactic| first
  | (with_reducible refine wpAny_Assign_Subscript ?_ ?_; rotate_left; with_unfolding_all rfl)
  | k_dflt (refine' Mine.comp_assign ?zzw ?zzc ?zzk ?zzn ?zzs ?zzy ?zzp ?_; (case zzw => with_unfolding_all rfl); (case zzc => with_unfolding_all rfl); (case zzk => rfl); (case zzn => decide); (case zzs => intro _; rfl); (case zzy => exact rfl); (case zzp => exact rfl)))
local macro_rules | `(tactic| walk_at "eval ListComp") => `(tactic| (k_dflt (walk_at "comp")))
local macro_rules | `(tactic| walk_at "subscriptTail") => `(tactic| (with_reducible show wpAny _ _ (subscriptTail _ _ (Value.ref _) (Value.int _ _)) _ _ _); k_dflt (first
  | (refine' Mine.r_subtup ?zzS ?zzt ?zza ?zzb ?zzv ?_; walk_at "zS"; (case zzt => assumption); (case zza | zzb => walk_at "zn"); (case zzv => first | exact rfl | assumption); k_whole)
  | (refine' Mine.r_sublst ?zzS ?zzt ?zza ?zzb ?zzv ?_; walk_at "zS"; (case zzt => walk_at "mm"); (case zza | zzb => walk_at "zn"); (case zzv => first | exact rfl | assumption); k_whole)))
local macro_rules | `(tactic| walk_at "enterM") => `(tactic| ((case k6 => k_is); (case k7 => k_is); (case k8 => (first | (show dp < _; omega) | (dsimp only [Around.deeper, Around.in1, Around.mark]; omega))); (case kP => exact rfl); (case kG => exact fun _ => rfl); (case kB => exact fun _ => kindsX rfl); (case kD => decide +kernel); (case km => exact fun _ _ => rfl); (case kc => exact fun _ _ => rfl); (case c2 => exact rfl); (case c3 => exact rfl); (case c4 => exact rfl)))
section D1
open PySem.Builtin
namespace Mine
theorem entry_dec {c : UInt8} {cs : List UInt8} {t u : Tok} : «bytes.decode» ⟨[.bytes (c :: cs).toArray t, .str (PySem.Str.ofString "ascii") u], []⟩ = (mkStr (PySem.Str.ofString "utf-8") >>= fun _ => mkStr (PySem.Str.ofString "ascii") >>= fun e => mkStr (PySem.Str.ofString "bytes.decode") >>= fun d =>
    call (.builtin "_codecs.decode.text") [.bytes (c :: cs).toArray t, e, .none, d] >>= fun v => ret v) := by kernel_rfl
theorem entry_dec0 {t u : Tok} : «bytes.decode» ⟨[.bytes #[] t, .str (PySem.Str.ofString "ascii") u], []⟩ = (PySem.rule "bytes.decode.empty" >>= fun _ => retStr PySem.Str.empty) := by kernel_rfl
theorem args_dec2 (a b : Value) : argsOk "bytes.decode" ⟨[a, b], []⟩ := by
  unfold argsOk; rw [signature?_of (id := "bytes.decode") (n := ['e', 'd', 'o', 'c', 'e', 'd']) (o := ['s', 'e', 't', 'y', 'b']) (by kernel_rfl) FB.owner_bytes]; kernel_rfl
theorem road_ascii {id : String} {b : Array UInt8} : _codecs.decodeRoad id b (PySem.Str.ofString "ascii") none [] = (_codecs.runDecoder id _codecs.asciiDecoder none true b 0 [] >>= fun r => mkStr ⟨r.1⟩) := by kernel_rfl
theorem meets_ascii {b : Array UInt8} {t t1 t2 : Tok} {x d : PySem.Str} {n : Nat} (hd : ∀ id, _codecs.runDecoder id _codecs.asciiDecoder none true b 0 [] = pure (x.cps, n)) :
    Meets («_codecs.decode.text» ⟨[.bytes b t, .str (PySem.Str.ofString "ascii") t1, .none, .str d t2], []⟩) (fun _ R s => x.length ≤ sizeLine ∧ R (.ok (.ret (.str x s.toks))) { s with toks := s.toks + 1 }) := by
  refine .of_wp fun prog w A R s hS => ?_
  obtain ⟨hsz, h⟩ := hS
  show wpAny _ _ (Bytes.bytesLike _ (.bytes b t) >>= fun r => _) _ _ s
  refine wpAny_bind (wpAny_of_eq KBd.like_eq ?_)
  refine wpAny_bind (wpAny_of_eq KBd.held_eq ?_)
  show wpAny _ _ (_codecs.decodeRoad _ b (PySem.Str.ofString "ascii") none [] >>= fun v => _) _ _ s
  rw [road_ascii, hd]
  refine wpAny_bind (wpAny_bind (wpAny_pure ?_))
  exact wpAny_mkStr (wpAny_pure ⟨_, rfl, h⟩) hsz
theorem meets_dec {c : UInt8} {cs : List UInt8} {t u : Tok} {x : PySem.Str} {n : Nat} (hd : ∀ id, _codecs.runDecoder id _codecs.asciiDecoder none true (c :: cs).toArray 0 [] = pure (x.cps, n)) :
    Meets («bytes.decode» ⟨[.bytes (c :: cs).toArray t, .str (PySem.Str.ofString "ascii") u], []⟩) (fun _ R s => x.length ≤ sizeLine ∧ ∀ t' k, R (.ok (.ret (.str x t'))) { s with toks := k }) := by
  refine .of_wp fun prog w A R s hS => ?_
  obtain ⟨hsz, h⟩ := hS
  rw [entry_dec]
  refine wpAny_bind (wpAny_mkStr ?_ (by decide))
  refine wpAny_bind (wpAny_mkStr ?_ (by decide))
  refine wpAny_bind (wpAny_mkStr ?_ (by decide))
  exact wpAny_bind (call_function_meets KBd.kind_text KBd.plain_text KBd.entry_text (KBd.args_text _ _ _ _) (meets_ascii hd) ⟨hsz, wpAny_pure ⟨_, rfl, h _ _⟩⟩)
theorem meets_dec0 {t u : Tok} :
    Meets («bytes.decode» ⟨[.bytes #[] t, .str (PySem.Str.ofString "ascii") u], []⟩) (fun _ R s => ∀ t' k, R (.ok (.ret (.str PySem.Str.empty t'))) { s with toks := k }) := by
  refine .of_wp fun prog w A R s h => ?_
  rw [entry_dec0]
  refine wpAny_bind (wpAny_rule ?_)
  show wpAny _ _ (mkStr _ >>= fun v => ret v) _ _ _
  refine wpAny_bind (wpAny_mkStr ?_ (by decide))
  exact wpAny_pure ⟨_, rfl, h _ _⟩
/-- the words: of one or two letters, or none -/
noncomputable def apL (k : Nat) : List UInt8 := if k < 16 then (if k = 0 then [] else [(65 + k).toUInt8]) else [(65 + k / 16).toUInt8, (65 + k % 16).toUInt8]
noncomputable def apS (k : Nat) : PySem.Str := ⟨((apL k).map (·.toNat)).toArray⟩
theorem dec_one {id : String} (c : UInt8) (hc : c.toNat < 128) : _codecs.runDecoder id _codecs.asciiDecoder none true #[c] 0 [] = pure (#[c.toNat], 1) := by
  have e : _codecs.asciiDecoder.find true #[c] 0 = .text [c.toNat] 1 := by
    show (if c.toNat < 128 then _ else _) = _
    rw [if_pos hc]; rfl
  generalize _codecs.asciiDecoder = d at e
  unfold _codecs.runDecoder
  simp [e, Std.Legacy.Range.forIn_eq_forIn_range']
theorem dec_two {id : String} (c c' : UInt8) (hc : c.toNat < 128) (hc' : c'.toNat < 128) : _codecs.runDecoder id _codecs.asciiDecoder none true #[c, c'] 0 [] = pure (#[c.toNat, c'.toNat], 2) := by
  have e : _codecs.asciiDecoder.find true #[c, c'] 0 = .text [c.toNat] 1 := by
    show (if c.toNat < 128 then _ else _) = _
    rw [if_pos hc]; rfl
  have e' : _codecs.asciiDecoder.find true #[c, c'] 1 = .text [c'.toNat] 2 := by
    show (if c'.toNat < 128 then _ else _) = _
    rw [if_pos hc']; rfl
  generalize _codecs.asciiDecoder = d at e e'
  unfold _codecs.runDecoder
  simp [e, e', Std.Legacy.Range.forIn_eq_forIn_range', List.range', sizeLine_eq]
theorem byte_toNat {k : Nat} (h : k < 256) : k.toUInt8.toNat = k := by simp [Nat.mod_eq_of_lt h]
theorem dec_all (k : Nat) (hk : k < 128) (id : String) : _codecs.runDecoder id _codecs.asciiDecoder none true (apL k).toArray 0 [] = pure ((apS k).cps, (apL k).length) := by
  unfold apS apL
  by_cases h : k < 16
  · by_cases h0 : k = 0
    · subst h0; simp only [if_pos h, if_true]; unfold _codecs.runDecoder; simp [Std.Legacy.Range.forIn_eq_forIn_range']
    · simp only [if_pos h, if_neg h0]
      exact dec_one _ (by rw [byte_toNat (by omega)]; omega)
  · simp only [if_neg h]
    exact dec_two _ _ (by rw [byte_toNat (by omega)]; omega) (by rw [byte_toNat (by omega)]; omega)
theorem apS_len (k : Nat) : (apS k).length ≤ 2 := by
  unfold apS apL
  by_cases h : k < 16
  · by_cases h0 : k = 0 <;> simp [PySem.Str.length, h, h0]
  · simp [PySem.Str.length, h]
section
variable {prog : Program} {w : World} {A : Around} {E : Value → Shared → Prop} {s : Shared} {t u : Tok}
theorem r_decode {Q : Value → Shared → Prop} {b : Array UInt8} {k : Nat} (hb : b.toList = apL k) (hk : k < 128) (h : ∀ t' k', Q (.str (apS k) t') { s with toks := k' }) :
    wpAny (model prog w) A (call (.builtin "bytes.decode") [.bytes b t, .str (PySem.Str.ofString "ascii") u]) Q E s := by
  obtain rfl : b = (apL k).toArray := by rw [← hb]
  have hd := dec_all k hk
  have hs := apS_len k
  cases e : apL k with
  | nil =>
    have e0 : apS k = PySem.Str.empty := by unfold apS; rw [e]; rfl
    rw [e0] at h
    exact call_meets FB.slot_bytes_decode (typeIs_bytes _ _ _) FB.entry_bytes_decode (args_dec2 _ _) meets_dec0 h
  | cons c cs =>
    rw [e] at hd
    exact call_meets FB.slot_bytes_decode (typeIs_bytes _ _ _) FB.entry_bytes_decode (args_dec2 _ _) (meets_dec hd) ⟨by rw [sizeLine_eq]; omega, h⟩
end
end Mine
end D1
namespace Mine
noncomputable def val16 (l : List Nat) : Int := l.foldl (fun (a : Int) (c : Nat) => 16 * a + (c : Int) - 65) 0
theorem mkI {o : Option Value} {v V : Int} {t : Tok} (h : o = some (.int v t)) (e : v = V) : ∃ t, o = some (.int V t) := ⟨t, e ▸ h⟩
theorem val16_snoc (l : List Nat) (c : Nat) : val16 (l ++ [c]) = 16 * val16 l + (c : Int) - 65 := by simp [val16, List.foldl_append]
theorem none_of {h h' : Heap} (k : h.StaysIn h') : ∀ {a}, h'.get? a = none → h.get? a = none := fun {a} ha => by
  cases e : h.get? a with
  | none => rfl
  | some o => have := k a o e; rw [ha] at this; cases this
section
variable {w : World} {dp un : Nat} {fr : Option (List Env)} {gs : Option (List Code)} {s : Shared} {g r : Heap} {Q : Value → Shared → Prop} {E : Value → Shared → Prop}
theorem c_bits (S : Sd w g r [] s.heap) (hd : dp + 5 < recursionLimit) (hun : un + 60 < cLine) (x : Str) (t : Tok) (hx : x.length ≤ 10) (ha : (Txt.upper x).cps.all (· < 128) = true) (h : ∀ h' tk a t1 t2, s.heap.StaysIn h' → s.heap.get? a = none →
     h'.IsTuple a [.int (Int.fdiv (val16 (Txt.upper x).cps.toList) 16) t1, .int (Int.fmod (val16 (Txt.upper x).cps.toList) 16) t2].toArray → Q (.ref a) (at' s h' tk)) :
    wpAny (MD w) (AR dp un fr gs) (call (.ref 257) [.str x t]) Q E s := by
  refine' enterG S [("name", .str x t)] (fun y => if y = "name" then some (.str x t) else none) (fun _ => []) ?k6 ?k7 ?k8 ?k9 ?kB ?kD ?km ?kc ?_ ?c2 ?c3 ?c4
  walk_at "enter"
  walk_at "go"
  refine for_rule (fun _ => rfl) ?_
  walk_at "go"
  rename Sd _ _ _ _ _ => S₁
  refine iter_ascii S₁ ha rfl ?_
  intro I o h' T hst S₂
  clear S₁
  refine ⟨I, _, _, _, _, _, _, _, o, fun i r' sl' => r' = s.heap ∧ ∃ m, sl' = [(_, Sp.ns m)] ∧ ∃ t', m "number" = some (.int (val16 ((Txt.upper x).cps.toList.take i)) t'), rfl, T, hst, S₂, ⟨rfl, _, rfl, _, rfl⟩, fun _ _ _ _ _ _ _ => trivial, ?_, ?_⟩
  · rintro i v oI r' sl' h₂ tk₂ Post hP hi hv ⟨rfl, m, rfl, t', hm⟩ S₃
    clear S₂
    obtain ⟨c, u, hc, rfl⟩ := hv
    walk_at "go"
    rename Sd _ _ _ _ _ => S₄
    have e : ((Txt.upper x).cps.toList.take (i + 1)) = (Txt.upper x).cps.toList.take i ++ [c] := by
      rw [List.take_add_one]; simp [hc]
    exact hP .next _ <| turn_end S₄ pm1 ⟨rfl, _, rfl, mkI (if_pos rfl) (by rw [e, val16_snoc])⟩
  · rintro r' sl' h₂ tk₂ ⟨rfl, m, rfl, t', hm⟩ S₃
    clear S₂
    rw [List.take_of_length_le (by simp)] at hm
    rename But _ _ _ => hb
    have k₃ := stays S₃ hb
    walk_at "go"
    rename Sd _ _ _ _ _ => S₄
    exact h _ _ _ _ _ (stays S₄ hb) (none_of k₃ (by assumption)) (S₄.get (x := .tup _) (.head _))
end
end Mine
namespace Mine
section
variable {prog : Program} {w : World} {A : Around} {E : Value → Shared → Prop} {s : Shared} {g r h₀ : Heap} {sl : List (Addr × Sp)} {value slice : PySem.Expr} {b : Array UInt8} {t : Tok} {l u : Value} {lo hi : Option Int} {Q : Value → Shared → Prop} {s₀ : Shared}
theorem r_bslice (S : Sd w g r sl s.heap) (hl : IsPart l lo) (hu : IsPart u hi) (hz : b.size ≤ 16777216)
    (h : ∀ h' t' k, Sd w g r sl h' → Q (.bytes (KBy.picked b lo hi) t') (at' s h' k))
    (hs : subscripted slice false (.bytes b t) (.ref s.heap.objs.size) = operate [.ref s.heap.objs.size, .bytes b t] (getItem (.bytes b t) (.ref s.heap.objs.size)) := by with_unfolding_all rfl)
    (ht : ∀ r, letTemporaryGo value (.bytes b t) r = pure () := by intro _; with_unfolding_all rfl) :
    wpAny (model prog w) A (subscriptTail value slice (.bytes b t) (.ref s.heap.objs.size)) Q E { s with heap := s.heap.push { cls := .type "slice", data := .fields #[l, u, .none] } } :=
  tail_of_ItemOn ⟨"bytes", _, FB.slot_bytes_getitem.lookup, typeIs_bytes _ _ _, getItem_meets (typeIs_bytes _ _ _) (by decide) FB.slot_bytes_getitem FB.entry_bytes_getitem (FB.args_bytes_getitem_2 _ _) (KBc.meets_slice2 b t _ hl hu)
    ⟨Heap.IsSliceOf.new _ _ _ _, Nat.le_trans (KBc.size_picked_le b lo hi) (by rw [sizeLine_eq]; exact hz), fun t' k => h _ _ _ (S.ext (push_stays _ _))⟩⟩ hs ht
end
theorem Sd.one {w : World} {g r h : Heap} {p : Addr × Sp} {sl : List (Addr × Sp)} (S : Sd w g r (p :: sl) h) : Sd w g r [p] h := S.sub (List.Sublist.cons₂ _ (List.nil_sublist _))
noncomputable def AP : Array UInt8 := #[65, 66, 67, 68, 69, 70, 71, 72, 73, 74, 75, 76, 77, 78, 79, 80]
theorem ap_pick (m : Int) (h0 : 0 ≤ m) (h1 : m < 16) : KBy.picked AP (some m) (some (m + 1)) = #[(65 + m.toNat).toUInt8] := by
  have : ∀ k : Fin 16, KBy.picked AP (some ((k.val : Nat) : Int)) (some (((k.val : Nat) : Int) + 1)) = #[(65 + ((k.val : Nat) : Int).toNat).toUInt8] := by decide +kernel
  have := this ⟨m.toNat, by omega⟩
  rwa [show (((⟨m.toNat, by omega⟩ : Fin 16).val : Nat) : Int) = m by show ((m.toNat : Nat) : Int) = m; omega] at this
theorem apL_step (k : Int) (h0 : 0 ≤ k) (h1 : k < 128) (hk : k ≠ 0) : apL (Int.fdiv k 16).toNat ++ [(65 + (Int.fmod k 16).toNat).toUInt8] = apL k.toNat := by
  have : ∀ n : Fin 128, n.val ≠ 0 → apL (Int.fdiv (n.val : Nat) 16).toNat ++ [(65 + (Int.fmod (n.val : Nat) 16).toNat).toUInt8] = apL n.val := by decide +kernel
  have := this ⟨k.toNat, by omega⟩ (by show k.toNat ≠ 0; omega)
  rwa [show (((⟨k.toNat, by omega⟩ : Fin 128).val : Nat) : Int) = k by show ((k.toNat : Nat) : Int) = k; omega] at this
theorem apL_len (k : Nat) : (apL k).length ≤ 2 := by
  unfold apL; split
  · split <;> simp
  · simp
section
variable {w : World} {dp un : Nat} {fr : Option (List Env)} {gs : Option (List Code)} {s : Shared} {g r : Heap} {Q : Value → Shared → Prop} {E : Value → Shared → Prop}
theorem c_int2ap (S : Sd w g r [] s.heap) (hd : dp + 5 < recursionLimit) (hun : un + 60 < cLine) (x : Int) (t : Tok) (hx : 0 ≤ x) (hx' : x < 128) (h : ∀ h' tk b t', s.heap.StaysIn h' → b.toList = apL x.toNat → Q (.bytes b t') (at' s h' tk)) :
    wpAny (MD w) (AR dp un fr gs) (call (.ref 62) [.int x t]) Q E s := by
  refine' enterG S [("num", .int x t)] (fun y => if y = "num" then some (.int x t) else none) (fun _ => []) ?k6 ?k7 ?k8 ?k9 ?kB ?kD ?km ?kc ?_ ?c2 ?c3 ?c4
  walk_at "enter"
  rename But _ _ _ => hb
  walk_at "go"
  rename Sd _ _ _ _ _ => S₁
  refine while_rule (fun n r' sl' => ∃ m, sl' = [(_, Sp.ns m)] ∧ ∃ k t1 b t2 t3, m "num" = some (.int k t1) ∧ 0 ≤ k ∧ k < 128 ∧ n = k.toNat ∧ m "val" = some (.bytes b t2) ∧ apL k.toNat ++ b.toList = apL x.toNat ∧ m "AP" = some (.bytes #[65, 66, 67, 68, 69, 70, 71, 72, 73, 74, 75, 76, 77, 78, 79, 80] t3)) _ S₁ ⟨_, rfl, _, _, _, _, _, rfl, by omega, by omega, rfl, rfl, by rw [if_neg (by omega)]; exact List.append_nil _, rfl⟩ ?_
  rintro n r' sl' h₂ tk₂ Post hP ⟨m, rfl, k, t1, b, t2, t3, hm1, hk0, hk1, hn, hm2, hap, hm3⟩ S₂
  clear S₁
  walk_at "go"
  · rename Sd _ _ _ _ _ => S₃
    have e0 : 0 ≤ Int.fmod k 16 := by rw [Int.fmod_eq_emod_of_nonneg _ (by decide)]; omega
    have e1 : Int.fmod k 16 < 16 := Int.fmod_lt_of_pos _ (by decide)
    have e2 : Int.fdiv k 16 = k / 16 := Int.fdiv_eq_ediv_of_nonneg _ (by decide)
    refine r_bslice (s := ⟨_, _, _, _, _⟩) S₃ (by constructor) (by constructor) (by decide) (fun h' t' k' S₄ => ?_)
    clear S₃
    rw [show (#[65, 66, 67, 68, 69, 70, 71, 72, 73, 74, 75, 76, 77, 78, 79, 80] : Array UInt8) = AP from rfl, ap_pick _ e0 e1]
    walk_at "go"
    have hl : b.size ≤ 2 := by
      have := congrArg List.length hap
      rw [List.length_append] at this
      have := apL_len x.toNat
      rw [← Array.length_toList]; omega
    refine KBy.add_bytes (by simp; omega) (fun t'' k'' => ?_)
    walk_at "go"
    rename Sd _ _ _ _ _ => S₅
    have hk : k ≠ 0 := by intro e; simp_all
    refine hP .next _ <| while_end S₅.one pm0 (n' := (Int.fdiv k 16).toNat) (by omega) ⟨_, rfl, _, _, _, _, _, by walk_at "lk", by omega, by omega, rfl, by walk_at "lk", ?_, by walk_at "lk"⟩
    rw [← hap, ← apL_step k hk0 hk1 hk, List.append_assoc]
    simp
  · rename Sd _ _ _ _ _ => S₂
    have hk : k = 0 := by simp_all
    subst hk
    exact h _ _ _ _ (stays S₂ hb) hap
end
end Mine
namespace Mine
/-- a header's name: of the product k = 16 * yes + no, in small letters or not -/
noncomputable def nm (b : Bool) (k : Nat) : Str := if b = true then Txt.lower (apS k) else apS k
section
variable {w : World} {dp un : Nat} {fr : Option (List Env)} {gs : Option (List Code)} {s : Shared} {g r : Heap} {Q : Value → Shared → Prop} {E : Value → Shared → Prop}
theorem c_word (S : Sd w g r [] s.heap) (hd : dp + 10 < recursionLimit) (hun : un + 80 < cLine) (x y z : Int) (t t1 t2 : Tok) (hx : 0 ≤ x) (hx' : x < 8) (hy : 0 ≤ y) (hy' : y < 8) (h : ∀ h' tk t', s.heap.StaysIn h' → Q (.str (nm (Int.fmod z 2 == 1) (16 * x.toNat + y.toNat)) t') (at' s h' tk)) :
    wpAny (MD w) (AR dp un fr gs) (call (.ref 250) [.int x t, .int y t1, .int z t2]) Q E s := by
  refine' enterG S [("yes", .int x t), ("no", .int y t1), ("turn", .int z t2)] (fun k => if k = "turn" then some (.int z t2) else if k = "no" then some (.int y t1) else if k = "yes" then some (.int x t) else none) (fun _ => []) ?k6 ?k7 ?k8 ?k9 ?kB ?kD ?km ?kc ?_ ?c2 ?c3 ?c4
  walk_at "enter"
  rename But _ _ _ => hb
  walk_at "go"
  rename Sd _ _ _ _ _ => S₁
  refine' c_int2ap (S₁.nil) ?_ ?_ _ _ ?_ ?_ ?_
  any_goals walk_at "om"
  intro h' tk' b t' k' hb'
  walk_at "pure"
  walk_at "go"
  refine KBd.method ?_
  walk_at "go"
  refine r_decode (k := 16 * x.toNat + y.toNat) (by rw [hb']; congr 1; omega) (by omega) (fun t' k' => ?_)
  have hl := apS_len (16 * x.toNat + y.toNat)
  walk_at "go"
  · rename Sd _ _ _ _ _ => S₃
    have e : nm (Int.fmod z 2 == 1) (16 * x.toNat + y.toNat) = Txt.lower (apS (16 * x.toNat + y.toNat)) := by simp_all [nm]
    rw [e] at h
    exact h _ _ _ (stays S₃ hb)
  · rename Sd _ _ _ _ _ => S₃
    have e : nm (Int.fmod z 2 == 1) (16 * x.toNat + y.toNat) = apS (16 * x.toNat + y.toNat) := by simp_all [nm]
    rw [e] at h
    exact h _ _ _ (stays S₃ hb)
end
/-- the products -/
noncomputable abbrev kOf (y n : Nat) : Nat := 16 * y + n
theorem nm_facts : ∀ b : Bool, ∀ y n : Fin 8, (nm b (kOf y n)).length ≤ 2 ∧ (Txt.upper (nm b (kOf y n))) = apS (kOf y n) ∧ Txt.lower (nm b (kOf y n)) = nm true (kOf y n) ∧ (apS (kOf y n)).cps.all (· < 128) = true ∧ val16 (apS (kOf y n)).cps.toList = (kOf y n : Nat) := by decide +kernel
end Mine
section R1
open PySem.Builtin
namespace Mine
theorem re_attrs : PlainAttrs "re.Pattern" :=
  ⟨⟨"object.__getattribute__", by rw [typeLookup_type, builtinLookup_eq_fast]; kernel_rfl, by decide +kernel⟩, by rw [typeLookup_type, builtinLookup_eq_fast]; kernel_rfl⟩
theorem re_slot : Slot "re.Pattern" "search" "re.Pattern.search" :=
  .of (owner := "re.Pattern") (n := "search") (by rw [typeLookup_type, builtinLookup_eq_fast]; kernel_rfl) (by decide +kernel) (by decide +kernel) (by decide +kernel)
    (by first | exact .inl (by decide +kernel) | exact .inr (by decide +kernel)) (by rw [isSubtype_type]; kernel_rfl)
theorem re_type : typeOf (.builtin "re.Pattern.search") = pure (.type "method_descriptor") := by show builtinType _ = _; rw [builtinType_eq_fast]; kernel_rfl
theorem re_entry : entryFor table "re.Pattern.search" = some Builtin.«re.Pattern.search» := entryFor_of_tree (by kernel_rfl)
theorem re_args (a b : Value) : argsOk "re.Pattern.search" ⟨[a, b], []⟩ := by unfold argsOk; kernel_rfl
open Sre
/-- the set at the head of a pattern takes none of the text's signs -/
noncomputable def Shuns (code text : Array Nat) : Prop := ∀ s seen, s < text.size → ∃ seen', inSet code (text.getD s 0) code.size 5 true seen = .ok (false, seen')
theorem shuns_admitted {m : M} (h : ∀ s seen, s < m.lim → ∃ seen', inSet m.code (m.text.getD s 0) m.code.size 5 true seen = .ok (false, seen')) : ∀ fuel s seen, ∃ seen', M.admitted m fuel s seen = .ok (none, seen')
  | 0, s, seen => ⟨seen, rfl⟩
  | fuel + 1, s, seen => by
    unfold M.admitted
    by_cases hs : s ≥ m.lim
    · exact ⟨seen, if_pos hs⟩
    · rw [if_neg hs]
      obtain ⟨seen', e⟩ := h s seen (Nat.lt_of_not_le hs)
      rw [e]
      exact shuns_admitted h fuel (s + 1) seen'
structure Lost (m : M) : Prop where
  ans : m.answer = some false
  fr : m.frames = []
  out : m.outcome = none
theorem shuns_attempt {m : M} {s : Nat} {first : Bool} (hf : m.hasFirstSet = true) (h : ∀ s seen, s < m.lim → ∃ seen', inSet m.code (m.text.getD s 0) m.code.size 5 true seen = .ok (false, seen')) (hfr : m.frames = []) (ho : m.outcome = none) : Lost (m.attemptFrom s first) := by
  obtain ⟨seen', e⟩ := shuns_admitted h (m.lim + 1 - s) s m.seen
  unfold M.attemptFrom
  rw [hf, e]
  exact ⟨rfl, hfr, ho⟩
theorem shuns_search {code text : Array Nat} (hc : (match ops[code.getD 0 0]? with | some .INFO => true | _ => false) = true) (h4 : (code.getD 2 0 == 4) = true) (h : Shuns code text) : Lost (Sre.forSearch code text 0 0 text.size false) := by
  unfold Sre.forSearch
  dsimp only
  split
  · exact ⟨rfl, rfl, rfl⟩
  · refine shuns_attempt ?_ h rfl rfl
    show (_ && _) = true
    exact Bool.and_eq_true_iff.mpr ⟨hc, h4⟩
section
variable {MM : Model} {A : Around} {E : Value → Shared → Prop} {s : Shared}
theorem rules_run {c : Nat → Bool} {t : Nat → String} {Q : PUnit → Shared → Prop} (h : Q ⟨⟩ s) : ∀ l : List Nat, wpAny MM A (forIn l PUnit.unit fun i _ => do
      if c i = true then do rule (t i); pure (ForInStep.yield PUnit.unit)
      else pure (ForInStep.yield PUnit.unit)) Q E s
  | [] => wpAny_pure h
  | i :: l => by
    rw [List.forIn_cons]
    refine wpAny_bind ?_
    by_cases hc : c i = true
    · rw [if_pos hc]
      exact wpAny_bind (wpAny_rule (wpAny_pure (rules_run h l)))
    · rw [if_neg hc]
      exact wpAny_pure (rules_run h l)
theorem lost_run {m : Sre.M} (L : Lost m) {Q : Option Sre.M → Shared → Prop} (h : Q none s) : wpAny MM A (Re.reRunToEnd m) Q E s := by
  unfold Re.reRunToEnd
  have e : Re.reDrive (2 ^ 64) m = pure { m with outcome := some .failed } := by
    rw [show (2 ^ 64 : Nat) = (2 ^ 64 - 1) + 1 from rfl]
    unfold Re.reDrive
    have e2 : m.runFor Re.reTurnSteps = { m with outcome := some .failed } := by
      show (if m.outcome.isSome = true then m else Sre.M.runFor 3 m.step) = _
      rw [L.out]
      have e3 : m.step = { m with outcome := some .failed } := by
        unfold Sre.M.step
        rw [L.out, L.ans, L.fr]; rfl
      rw [e3]; rfl
    dsimp only
    rw [e2]; rfl
  rw [e]
  refine wpAny_bind (wpAny_pure (wpAny_bind ?_))
  refine rules_run ?_ _
  exact wpAny_pure h
end
theorem named_eq {id : String} {x : PySem.Str} {t : Tok} : Re.reNamed id "search" ["string", "pos", "endpos"] 1 [.str x t] [] = pure [some (.str x t), none, none] := by kernel_rfl
theorem meets_search {p c : Addr} {x : PySem.Str} {t t1 t2 : Tok} {a b : Value} {items : Array Value} {n : Nat} {oc od : Obj} (hd : od.data = .fields #[a, b, .int 0 t1, .none, .none, .ref c, .int 0 t2]) (hc : oc.data = .seq items n)
    (h0 : (match ops[((items.map Re.reRawOf).map (·.toNat)).getD 0 0]? with | some .INFO => true | _ => false) = true) (h4 : (((items.map Re.reRawOf).map (·.toNat)).getD 2 0 == 4) = true) (hs : Shuns ((items.map Re.reRawOf).map (·.toNat)) x.cps) (hx : x.cps.size < 2 ^ 63) :
    Meets («re.Pattern.search» ⟨[.ref p, .str x t], []⟩) (fun _ R s => s.heap.get? p = some od ∧ s.heap.get? c = some oc ∧ R (.ok (.ret .none)) s) := by
  refine .of_wp fun prog w A R s hS => ?_
  obtain ⟨hp, hcc, h⟩ := hS
  unfold «re.Pattern.search» Re.reTarget
  refine wpAny_bind ?_
  show wpAny _ _ (Re.reNamed _ "search" ["string", "pos", "endpos"] 1 [.str x t] [] >>= fun r => _) _ _ _
  rw [named_eq]
  refine wpAny_bind (wpAny_pure ?_)
  dsimp only
  refine wpAny_bind (wpAny_pure (wpAny_bind (wpAny_pure ?_)))
  refine wpAny_bind (wpAny_fieldsOf hp hd ?_)
  refine wpAny_bind (wpAny_pure (a := (x.cps, 0)) ?_)
  dsimp only
  refine wpAny_bind (wpAny_pure ?_)
  refine wpAny_bind (wpAny_bind (wpAny_seqItems hcc hc (wpAny_pure (wpAny_pure ?_))))
  dsimp only
  have e : Min.min (2 ^ 63 - 1 : Int).toNat x.cps.size = x.cps.size := by omega
  have e0 : Min.min (Int.toNat 0) x.cps.size = 0 := by simp
  unfold Re.reAnswer
  refine wpAny_bind (lost_run ?_ (wpAny_pure ⟨_, rfl, h⟩))
  rw [e, e0]
  exact shuns_search h0 h4 hs
section
variable {prog : Program} {w : World} {A : Around} {E : Value → Shared → Prop} {s : Shared}
theorem r_search {Q : Value → Shared → Prop} {p c : Addr} {x : PySem.Str} {t t1 t2 : Tok} {a b : Value} {items : Array Value} {n : Nat} {oc od : Obj} (hp : s.heap.get? p = some od) (hcc : s.heap.get? c = some oc) (ht : od.cls = .type "re.Pattern")
    (hd : od.data = .fields #[a, b, .int 0 t1, .none, .none, .ref c, .int 0 t2]) (hc : oc.data = .seq items n)
    (h0 : (match ops[((items.map Re.reRawOf).map (·.toNat)).getD 0 0]? with | some .INFO => true | _ => false) = true) (h4 : (((items.map Re.reRawOf).map (·.toNat)).getD 2 0 == 4) = true) (hs : Shuns ((items.map Re.reRawOf).map (·.toNat)) x.cps) (hx : x.cps.size < 2 ^ 63)
    (h : Q .none s) : wpAny (model prog w) A (call (.builtin "re.Pattern.search") [.ref p, .str x t]) Q E s :=
  call_meets re_slot ⟨od, hp, ht⟩ re_entry (re_args _ _) (meets_search hd hc h0 h4 hs hx) ⟨hp, hcc, h⟩
theorem r_searchM {p : Addr} {od : Obj} {pl : Sem Bool} {Q : Value × List Value → Shared → Prop} {MM : Model} (hp : s.heap.get? p = some od) (ht : od.cls = .type "re.Pattern") (hn : od.dict = none) (h : Q (.builtin "re.Pattern.search", [.ref p]) s) :
    wpAny MM A (getMethod (.ref p) "search" pl) Q E s :=
  getMethod_builtin ⟨od, hp, ht⟩ re_attrs re_slot re_type (fun a e => by cases e; exact ⟨od, hp, hn⟩) h
end
/-- the two patterns' words -/
noncomputable def codeN : Array Nat := #[14, 10, 4, 1, 1, 22, 0, 31, 16, 127, 0, 13, 7, 22, 0, 31, 16, 127, 0, 1]
noncomputable def codeV : Array Nat := #[14, 14, 4, 1, 1, 9, 4294966783, 0, 0, 2147483648, 0, 0, 0, 0, 0, 13, 11, 9, 4294966783, 0, 0, 2147483648, 0, 0, 0, 0, 0, 1]
noncomputable def Plain (x : PySem.Str) : Prop := ∀ c ∈ x.cps.toList, 32 ≤ c ∧ c < 127
theorem Plain.get {x : PySem.Str} (h : Plain x) {s : Nat} (hs : s < x.cps.size) : 32 ≤ x.cps.getD s 0 ∧ x.cps.getD s 0 < 127 := by
  have : x.cps.getD s 0 = x.cps[s] := by simp [Array.getD, hs]
  rw [this]
  exact h _ (Array.getElem_mem_toList hs)
theorem shunsN {x : PySem.Str} (h : Plain x) : Shuns codeN x.cps := by
  intro s seen hs
  obtain ⟨h1, h2⟩ := h.get hs
  generalize x.cps.getD s 0 = c at h1 h2
  apply Exists.intro
  show inSet codeN c (19 + 1) 5 true seen = _
  unfold inSet
  dsimp only
  rw [show ops[codeN.getD (5 + 0) 0]? = some .RANGE from rfl]
  dsimp only
  rw [if_neg (by show ¬ ((decide (0 ≤ c) && decide (c ≤ 31)) = true); simp; omega)]
  show inSet codeN c (18 + 1) 8 true _ = _
  unfold inSet
  dsimp only
  rw [show ops[codeN.getD (8 + 0) 0]? = some .LITERAL from rfl]
  dsimp only
  rw [if_neg (by show ¬ ((c == 127) = true); simp; omega)]
  show inSet codeN c (17 + 1) 10 true _ = _
  unfold inSet
  dsimp only
  rw [show ops[codeN.getD (10 + 0) 0]? = some .FAILURE from rfl]
  rfl
theorem shunsV {x : PySem.Str} (h : Plain x) : Shuns codeV x.cps := by
  intro s seen hs
  obtain ⟨h1, h2⟩ := h.get hs
  generalize x.cps.getD s 0 = c at h1 h2
  apply Exists.intro
  show inSet codeV c (27 + 1) 5 true seen = _
  unfold inSet
  dsimp only
  rw [show ops[codeV.getD (5 + 0) 0]? = some .CHARSET from rfl]
  dsimp only
  have : ∀ k : Fin 127, 32 ≤ k.val → ¬ ((decide (k.val < 256) && (codeV.getD (5 + (1 + k.val / 32)) 0).testBit (k.val % 32)) = true) := by decide +kernel
  rw [if_neg (this ⟨c, h2⟩ h1)]
  show inSet codeV c (26 + 1) 14 true _ = _
  unfold inSet
  dsimp only
  rw [show ops[codeV.getD (14 + 0) 0]? = some .FAILURE from rfl]
  rfl
end Mine
end R1
namespace Mine
section
variable {P : Params}
theorem kf_ga : findIn (Mine.mk.heap_1 P) (.ref 208) "__getattribute__" = some (some (.builtin "object.__getattribute__")) := by k_is
theorem kf_gk : findIn (Mine.mk.heap_1 P) (.ref 208) "__getattr__" = some none := by k_is
theorem kf_hd : hasDictIn (Mine.mk.heap_1 P) 208 = true := by k_is
theorem kf_h : findIn (Mine.mk.heap_1 P) (.ref 208) "_headers" = some none := by k_is
theorem kf_sa : findIn (Mine.mk.heap_1 P) (.ref 208) "__setattr__" = some (some (.builtin "object.__setattr__")) := by k_is
theorem kf_po : plainOver (Mine.mk.heap_1 P) 208 = true := by k_is
theorem kf_tk : takerIn (Mine.mk.heap_1 P) 208 "_headers" = some none := by k_is
theorem kf_mk : makesIn (Mine.mk.heap_1 P) 208 = true := by k_is
theorem kf_in : findIn (Mine.mk.heap_1 P) (.ref 208) "__init__" = some (some (.ref 100)) := by k_is
theorem kf_in' : typeIn (Mine.mk.heap_1 P) (.ref 100) = some (.type "function") := by k_is
theorem kf_di : findIn (Mine.mk.heap_1 P) (.ref 208) "__delitem__" = some (some (.ref 126)) := by k_is
theorem kf_di' : typeIn (Mine.mk.heap_1 P) (.ref 126) = some (.type "function") := by k_is
end
/-- a headers table at x, its list at l -/
noncomputable def HdAt (h : Heap) (x l : Addr) : Prop := ∃ dx hs t n, h.get? x = some (instObj 208 dx) ∧ h.get? dx = some (dictOf [⟨hs, .str "_headers" t, .ref l⟩] n)
theorem HdAt.keeps {h h' : Heap} {x l : Addr} (H : HdAt h x l) (k : h.StaysIn h') : HdAt h' x l :=
  let ⟨dx, hs, t, n, a, b⟩ := H; ⟨dx, hs, t, n, k _ _ a, k _ _ b⟩
theorem HdAt.but {h h' : Heap} {x l a : Addr} {its : List Value} (H : HdAt h x l) (hl : h.PlainList a its.toArray) (k : But [a] h h') : HdAt h' x l := by
  obtain ⟨dx, hs, t, n, e1, e2⟩ := H
  obtain ⟨n', ho⟩ := hl
  refine ⟨dx, hs, t, n, k _ _ e1 ?_, k _ _ e2 ?_⟩ <;> (intro hm; rw [List.mem_singleton] at hm; subst hm)
  · rw [e1] at ho; cases ho
  · rw [e2] at ho; simp at ho
section
variable {w : World} {A : Around} {E : Value → Shared → Prop} {s : Shared} {g r : Heap} {sl : List (Addr × Sp)} {x l : Addr}
theorem HdAt.inst {h : Heap} (H : HdAt h x l) : ∃ dx hs t n, InstAt h x (instObj 208 dx) 208 (some (dictOf [⟨hs, .str "_headers" t, .ref l⟩] n)) := by
  obtain ⟨dx, hs, t, n, a, b⟩ := H
  exact ⟨dx, hs, t, n, a, rfl, rfl, b⟩
theorem r_hattr {expr : Bool} {Q : Value → Shared → Prop} (S : Sd w g r sl s.heap) (H : HdAt s.heap x l) (h : Q (.ref l) { s with toks := s.toks + 1 }) : wpAny (MD w) A (getAttr (.ref x) "_headers" expr) Q E s := by
  obtain ⟨dx, hs, t, n, I⟩ := H.inst
  exact get_value (S.gd.X.keeps S.keep) I kf_ga (findObj_own kf_hd kf_h rfl rfl) rfl h
theorem r_hmeth {name : Str} {f : Addr} {pl : Sem Bool} {Q : Value × List Value → Shared → Prop} (S : Sd w g r sl s.heap) (H : HdAt s.heap x l) (hf : findIn (Mine.mk.heap_1 w.params) (.ref 208) name = some (some (.ref f))) (ht : typeIn (Mine.mk.heap_1 w.params) (.ref f) = some (.type "function"))
    (hn : name ≠ "_headers") (h : Q (.ref f, [.ref x]) s) : wpAny (MD w) A (getMethod (.ref x) name pl) Q E s := by
  obtain ⟨dx, hs, t, n, I⟩ := H.inst
  refine method_fn (S.gd.X.keeps S.keep) I kf_ga kf_gk hf ht ?_ h
  show (lookIn name (dictOf _ n)).map _ = _
  rw [lookIn_dict]
  have e : ((Value.str (PySem.Str.ofString "_headers") t).isStr name) = false := by
    show (PySem.Str.ofString "_headers" == name) = false
    exact beq_eq_false_iff_ne.mpr (Ne.symm hn)
  simp [getL, e, DictEntry.refKey]
theorem r_hset {Q : Unit → Shared → Prop} {dx : Addr} {l : Addr} {sl' : List (Addr × Sp)} (S : Sd w g r sl s.heap) (hx : s.heap.get? x = some (instObj 208 dx)) (p : sl.Perm ((dx, .ob emptyDict) :: sl'))
    (h : ∀ h' hs t, Sd w g r ((dx, .ob (dictOf [⟨hs, .str "_headers" t, .ref l⟩] 1)) :: sl') h' → h'.get? x = some (instObj 208 dx) → Q () { s with heap := h', toks := s.toks + 2 }) :
    wpAny (MD w) A (setAttr (.ref x) "_headers" (.ref l)) Q E s := by
  have S := S.perm p
  have hd' := (S.get (x := .ob emptyDict) (.head _)).1
  have X := S.gd.X.keeps S.keep
  have I : InstAt s.heap x (instObj 208 dx) 208 (some (dictOf [] 0)) := ⟨hx, rfl, rfl, hd'⟩
  refine set_plain X I kf_sa (osa_open (s := { s with toks := s.toks + 1 }) X I kf_po kf_tk fun b => ?_)
  obtain ⟨cd, hc, hcd⟩ := any_some (kf_hd (P := w.params))
  refine wpAny_bind (wpAny_pure (wpAny_bind (wpAny_bind (wpAny_loadPart hx (wpAny_bind ((looks_clsIn X hc).at ?_))))))
  rw [hcd]
  refine wpAny_pure (a := some dx) (wpAny_bind (wpAny_pure (wpAny_bind ?_)))
  unfold nsSet
  refine wpAny_bind (wpAny_bind (wpAny_askSetting (wpAny_pure (wpAny_bind (wpAny_mkText (wpAny_bind (wpAny_loadPart hd' ?_)))))))
  dsimp only
  rw [aRefKeyMayBeTheName_at]
  have hu := Heap.SameBut.update s.heap dx (Obj.putName "_headers" (PyData.keyHash w.params "_headers") (.str "_headers" (s.toks + 1)) (.ref l))
  have hn : (s.heap.update dx (Obj.putName "_headers" (PyData.keyHash w.params "_headers") (.str "_headers" (s.toks + 1)) (.ref l))).get? dx = some (dictOf [⟨PyData.keyHash w.params "_headers", .str "_headers" (s.toks + 1), .ref l⟩] 1) := by
    have e := putName_dict "_headers" (PyData.keyHash w.params "_headers") (.str "_headers" (s.toks + 1)) (.ref l) [] 0
    exact (Heap.get?_update_self _ hd' (by rw [show emptyDict = dictOf [] 0 from rfl, e]; rfl)).trans (congrArg some e)
  simp only [List.any_toArray, List.any_nil, Bool.and_false, Bool.false_eq_true, if_false]
  refine wpAny_updatePart (s := { s with toks := s.toks + 1 + 1 }) hd' ?_
  refine wpAny_bind (wpAny_lookBehind hn (pastItsLine_dict (by simp [sizeLine_eq])) ?_)
  refine wpAny_pure ?_
  have S' := S.put₀ (x' := .ob (dictOf [⟨PyData.keyHash w.params "_headers", .str "_headers" (s.toks + 1), .ref l⟩] 1)) hu.extBut ⟨hn, by simp⟩
  refine h _ _ _ S' ((hu.2 x fun e => ?_).trans hx)
  subst e
  rw [hx] at hd'; cases hd'
theorem looks_anyM {M : Model} {h : Heap} {t : Value} : ∀ {ns : List String}, (∀ n ∈ ns, Looks M h (isSubtype t (.type n)) false) → Looks M h (ns.anyM fun n => isSubtype t (.type n)) false
  | [], _ => .now
  | n :: ns, hn => by
    have a := hn n (.head _)
    have b := looks_anyM (ns := ns) fun m hm => hn m (.tail _ hm)
    rw [List.anyM_cons]
    exact a.andThen b
theorem kf_sub {P : Params} : ∀ n ∈ seqItemTypes, subIn (Mine.mk.heap_1 P) (.ref 208) (.type n) = some false := by
  unfold seqItemTypes
  intro n hn
  repeat' (rcases List.mem_cons.mp hn with rfl | hn; (· k_is))
  cases hn
theorem r_hdel {Q : Unit → Shared → Prop} {n : Str} {t : Tok} (S : Sd w g r sl s.heap) (H : HdAt s.heap x l)
    (h : wpAny (MD w) A (call (.ref 126) [.ref x, .str n t]) (fun _ => Q ()) E s) : wpAny (MD w) A (delItem (.ref x) (.str n t)) Q E s := by
  obtain ⟨dx, hs, t', n', I⟩ := H.inst
  have X := S.gd.X.keeps S.keep
  unfold delItem
  refine wpAny_holding (wpAny_bind ?_)
  unfold sequenceKey
  refine wpAny_bind (I.type.here ?_)
  dsimp only
  refine wpAny_bind ((looks_anyM fun n hn => looks_subIn X (kf_sub n hn)).here ?_)
  refine wpAny_pure ?_
  exact wpAny_bind (special_fn X I kf_di kf_di' (wpAny_mono h (fun v s' q => wpAny_pure q) fun _ _ e => e))
end
section
variable {w : World} {dp un : Nat} {fr : Option (List Env)} {gs : Option (List Code)} {s : Shared} {g r : Heap} {Q : Value → Shared → Prop} {E : Value → Shared → Prop}
/-- a kept object's ground: all that stands but the slots -/
theorem Sd.ground {w : World} {g r h : Heap} {sl : List (Addr × Sp)} (S : Sd w g r sl h) : ∃ g', Sd w g' h sl h ∧ g.StaysIn g' ∧ ∀ b o, h.get? b = some o → b ∉ sl.map (·.1) → g'.get? b = some o := by
  have hst := hideAll_stays S
  refine ⟨hideAll h (sl.map (·.1)), ⟨S.gd.keeps hst, fun b o e => of_hideAll _ e, S.at_, S.nd, fun p hp => hideAll_none _ (List.mem_map_of_mem hp), TK.refl h⟩, hst, fun b o e n => hideAll_get _ e n⟩
theorem r_typeL {A : Around} {sl : List (Addr × Sp)} {l : Addr} {its : List Value} (S : Sd w g r sl s.heap) (hm : (l, Sp.lst its) ∈ sl) (h : Q (.type "list") s) : wpAny (MD w) A (call (.type "type") [.ref l]) Q E s := by
  obtain ⟨n, ho⟩ := S.get (x := .lst its) hm
  exact call_type_of (Tx := "list") ⟨_, ho, rfl⟩ (by decide +kernel) h
theorem HdAt.of {h : Heap} {x dx l : Addr} {hs : Int} {t : Tok} {n : Nat} (a : h.get? x = some (instObj 208 dx)) (b : h.get? dx = some (dictOf [⟨hs, .str "_headers" t, .ref l⟩] n)) : HdAt h x l := ⟨dx, hs, t, n, a, b⟩
end
end Mine
open Mine
local macro_rules | `(tactic| walk_at "hd") => `(tactic| first | assumption | (refine' HdAt.keeps ?zzH (Sd.keep ?zzS); walk_at "zS"; (case zzH => assumption)))
local macro_rules | `(tactic| walk_at "exec Assign") => `(tactic| (with_reducible refine plainObj_wpAny_Assign_Attribute ?_ ?_; rotate_left; with_unfolding_all rfl))
local macro_rules | `(tactic| walk_at "call type:type") => `(tactic| (k_dflt (refine' r_typeL ?zzS ?zzm ?_; walk_at "zS"; (case zzm => walk_at "mm"); k_whole)))
local macro_rules | `(tactic| walk_at "getAttr ref") => `(tactic| (k_dflt (refine' r_hattr ?zzS ?zzH ?_; walk_at "zS"; (case zzH => walk_at "hd"); k_whole)))
local macro_rules | `(tactic| walk_at "getMethod ref") => `(tactic| (k_dflt (refine' r_hmeth ?zzS ?zzH ?zza ?zzb ?zzc ?_; walk_at "zS"; (case zzH => walk_at "hd"); (case zza => k_is); (case zzb => k_is); (case zzc => decide); k_whole)))
local macro_rules | `(tactic| walk_at "delItem ref str") => `(tactic| (k_dflt (refine' r_hdel ?zzS ?zzH ?_; walk_at "zS"; (case zzH => walk_at "hd"); k_whole)))
namespace Mine
section
variable {w : World} {dp un : Nat} {fr : Option (List Env)} {gs : Option (List Code)} {s : Shared} {g r : Heap} {Q : Value → Shared → Prop} {E : Value → Shared → Prop}
theorem c_init (x dx : Addr) (S : Sd w g r [(dx, .ob emptyDict)] s.heap) (hd : dp + 5 < recursionLimit) (hun : un + 60 < cLine) (hx : s.heap.get? x = some (instObj 208 dx))
    (h : ∀ h' tk l, But [dx] s.heap h' → s.heap.get? l = none → h'.PlainList l #[] → HdAt h' x l → Q .none (at' s h' tk)) :
    codeAny (MD w) (AR dp un fr gs) (.call (.ref 100) ⟨[.ref x], []⟩) (fun r s' => match r with | .ok (.ret v) => Q v s' | .ok _ => False | .error e => E e s') s := by
  have hdx : s.heap.get? dx = some emptyDict := (S.get (x := .ob emptyDict) (.head _)).1
  refine' enterC S [("self", .ref x), ("headers", .none)] (fun k => if k = "headers" then some .none else if k = "self" then some (.ref x) else none) (fun _ => []) ?k6 ?k7 ?k8 ?k9 ?kB ?kD ?km ?kc ?_ ?c2 ?c3 ?c4
  walk_at "enter"
  rename But _ _ _ => hb
  have hxg : ∀ h', Heap.StaysIn _ h' → h'.get? x = some (instObj 208 dx) := fun h' (k : Heap.StaysIn _ h') => k _ _ (hb x _ hx (fun hm => by rw [List.mem_map] at hm; obtain ⟨p, hp, e⟩ := hm; rw [List.mem_singleton] at hp; subst hp; rw [← e, hdx] at hx; cases hx))
  have hx₁ := hxg _ (fun _ _ e => e)
  walk_at "go"
  rename Sd _ _ _ _ _ => S₁
  refine r_hset (dx := dx) S₁ (S₁.keep _ _ hx₁) pm2 ?_
  intro h' hs t S₂ hx₂
  clear S₁
  walk_at "go"
  refine for_rule (fun _ => rfl) ?_
  walk_at "go"
  refine iter_list (its := []) S₂ (S₂.get (x := .lst []) (by walk_at "mm")) rfl ?_
  intro I o h' T hst S₃
  clear S₂
  refine ⟨I, _, _, _, _, _, _, _, o, fun i r' sl' => r' = s.heap ∧ sl' = [(dx, .ob (dictOf [⟨hs, .str "_headers" t, .ref _⟩] 1)), (_, .ns _), (_, .lst [])], rfl, T, hst, S₃, ⟨rfl, rfl⟩, ?_, ?_, ?_⟩
  · rintro i r' sl' h' o' ⟨_, rfl⟩ S₄
    exact Heap.PlainList.isList (S₄.get (x := .lst []) (by walk_at "mm"))
  · intro i v oI r' sl' h' tk Post hP hi
    exact absurd hi (Nat.not_lt_zero _)
  · rintro r' sl' h₃ tk₃ ⟨rfl, rfl⟩ S₄
    walk_at "go"
    rename Sd _ _ _ _ _ => S₅
    have hk : But [dx] s.heap h₃ := fun b o e n => S₅.keep _ _ (hb _ _ e n)
    have hnd := S₅.nd
    refine h _ _ _ hk ?_ (S₅.get (x := .lst []) (by walk_at "mm")) (HdAt.of (S₅.keep _ _ hx₁) (S₅.get (x := .ob _) (List.Mem.head _)).1)
    have hnw := S₅.nw (_, .lst []) (by walk_at "mm")
    refine Option.eq_none_iff_forall_ne_some.mpr fun o' e => ?_
    have := hb _ _ e (fun hm => by
      rw [List.map_cons, List.map_nil, List.mem_singleton] at hm
      have := S₅.nd
      simp only [List.map_cons, List.map_nil, List.nodup_cons, List.mem_cons, List.not_mem_nil, not_or] at this
      simp_all)
    rw [this] at hnw; cases hnw
theorem c_headers (S : Sd w g r [] s.heap) (hd : dp + 15 < recursionLimit) (hun : un + 100 < cLine)
    (h : ∀ h' tk x l, s.heap.StaysIn h' → s.heap.get? l = none → h'.PlainList l #[] → HdAt h' x l → Q (.ref x) (at' s h' tk)) :
    wpAny (MD w) (AR dp un fr gs) (call (.ref 208) []) Q E s := by
  obtain ⟨hh, gg, d, t, os⟩ := s
  have X := S.gd.X.keeps S.keep
  refine wpAny_call (make_core (makes_of X kf_mk) (looks_findIn X kf_in) (fun self => bind_fn X self kf_in') (.inl rfl) ?_)
  have e1 : (Code.builtin "type.__call__" ⟨[.ref 208], []⟩).weight = 1 := by decide +kernel
  have e2 : (Code.builtin "type.__call__" ⟨[.ref 208], []⟩).cUnits = 1 := by decide +kernel
  have S₁ := (S.add (x := .ob emptyDict) (push_stays hh emptyDict) (fresh_none _) ⟨Heap.get?_push_size _ rfl, by simp⟩).ext (push_stays _ (instObj 208 hh.objs.size))
  have hx : ((hh.push emptyDict).push (instObj 208 hh.objs.size)).get? (hh.objs.size + 1) = some (instObj 208 hh.objs.size) := by heap_get
  refine codeAny_mono (c_init (hh.objs.size + 1) hh.objs.size S₁ (Q := fun v s' => v = .none ∧ Q (.ref (hh.objs.size + 1)) s') (E := E) ?_ ?_ hx fun h' tk l hb hl hL hH => ⟨rfl, ?_⟩) fun r s' q => ?_
  · have : dp + 1 + 5 < recursionLimit := by omega
    rw [← e1] at this; exact this
  · have : un + 1 + 60 < cLine := by omega
    rw [← e2] at this; exact this
  · refine h _ _ _ l (fun b o e => hb b o ((push_stays _ _) _ _ (push_stays _ _ _ _ e)) fun hm => ?_) ?_ hL hH
    · rw [List.mem_singleton] at hm; subst hm; exact absurd (Heap.lt_size e) (Nat.lt_irrefl _)
    · refine Option.eq_none_iff_forall_ne_some.mpr fun o' e => ?_
      have : ((hh.push emptyDict).push (instObj 208 hh.objs.size)).get? l = some o' := push_stays _ _ _ _ (push_stays _ _ _ _ e)
      rw [hl] at this; cases this
  · rcases r with e | (v | _ | _ | _) <;> first | exact q | exact q.elim
end
end Mine
namespace Mine
theorem kf72 {P : Params} : ∃ o a b t1 t2, List.lookup 72 (Mine.mk.heap_1 P) = some o ∧ o.cls = .type "re.Pattern" ∧ o.dict = none ∧ o.data = .fields #[a, b, .int 0 t1, .none, .none, .ref 71, .int 0 t2] :=
  ⟨_, _, _, _, _, by k_is, rfl, rfl, rfl⟩
theorem kf77 {P : Params} : ∃ o a b t1 t2, List.lookup 77 (Mine.mk.heap_1 P) = some o ∧ o.cls = .type "re.Pattern" ∧ o.dict = none ∧ o.data = .fields #[a, b, .int 0 t1, .none, .none, .ref 76, .int 0 t2] :=
  ⟨_, _, _, _, _, by k_is, rfl, rfl, rfl⟩
theorem kf71 {P : Params} : ∃ o items n, List.lookup 71 (Mine.mk.heap_1 P) = some o ∧ o.data = .seq items n ∧ (items.map Builtin.Re.reRawOf).map (·.toNat) = codeN :=
  ⟨_, _, _, by k_is, rfl, by decide +kernel⟩
theorem kf76 {P : Params} : ∃ o items n, List.lookup 76 (Mine.mk.heap_1 P) = some o ∧ o.data = .seq items n ∧ (items.map Builtin.Re.reRawOf).map (·.toNat) = codeV :=
  ⟨_, _, _, by k_is, rfl, by decide +kernel⟩
section
variable {w : World} {sl : List (Addr × Sp)} {A : Around} {s : Shared} {g r : Heap} {E : Value → Shared → Prop}
theorem r_m72 {pl : Sem Bool} {Q : Value × List Value → Shared → Prop} (S : Sd w g r sl s.heap) (h : Q (.builtin "re.Pattern.search", [.ref 72]) s) : wpAny (MD w) A (getMethod (.ref 72) "search" pl) Q E s := by
  obtain ⟨o, a, b, t1, t2, ho, hc, hn, _⟩ := kf72 (P := w.params)
  exact r_searchM ((S.gd.X.keeps S.keep) _ _ ho) hc hn h
theorem r_m77 {pl : Sem Bool} {Q : Value × List Value → Shared → Prop} (S : Sd w g r sl s.heap) (h : Q (.builtin "re.Pattern.search", [.ref 77]) s) : wpAny (MD w) A (getMethod (.ref 77) "search" pl) Q E s := by
  obtain ⟨o, a, b, t1, t2, ho, hc, hn, _⟩ := kf77 (P := w.params)
  exact r_searchM ((S.gd.X.keeps S.keep) _ _ ho) hc hn h
theorem r_s72 {x : Str} {t : Tok} {Q : Value → Shared → Prop} (S : Sd w g r sl s.heap) (hx : Plain x) (hz : x.length ≤ 1000) (h : Q .none s) : wpAny (MD w) A (call (.builtin "re.Pattern.search") [.ref 72, .str x t]) Q E s := by
  obtain ⟨o, a, b, t1, t2, ho, hc, hn, hd⟩ := kf72 (P := w.params)
  obtain ⟨o', items, n, ho', hd', he⟩ := kf71 (P := w.params)
  have X := S.gd.X.keeps S.keep
  exact r_search (X _ _ ho) (X _ _ ho') hc hd hd' (by rw [he]; rfl) (by rw [he]; rfl) (by rw [he]; exact shunsN hx) (Nat.lt_of_le_of_lt hz (by decide)) h
theorem r_s77 {x : Str} {t : Tok} {Q : Value → Shared → Prop} (S : Sd w g r sl s.heap) (hx : Plain x) (hz : x.length ≤ 1000) (h : Q .none s) : wpAny (MD w) A (call (.builtin "re.Pattern.search") [.ref 77, .str x t]) Q E s := by
  obtain ⟨o, a, b, t1, t2, ho, hc, hn, hd⟩ := kf77 (P := w.params)
  obtain ⟨o', items, n, ho', hd', he⟩ := kf76 (P := w.params)
  have X := S.gd.X.keeps S.keep
  exact r_search (X _ _ ho) (X _ _ ho') hc hd hd' (by rw [he]; rfl) (by rw [he]; rfl) (by rw [he]; exact shunsV hx) (Nat.lt_of_le_of_lt hz (by decide)) h
end
section
variable {w : World} {dp un : Nat} {fr : Option (List Env)} {gs : Option (List Code)} {s : Shared} {g r : Heap} {Q : Value → Shared → Prop} {E : Value → Shared → Prop}
theorem c_conv (S : Sd w g r [] s.heap) (hd : dp + 5 < recursionLimit) (hun : un + 60 < cLine) (x : Value) (v : Str) (t : Tok) (b : Bool) (hv : Plain v) (hz : v.length ≤ 1000) (h : ∀ h' tk t', s.heap.StaysIn h' → Q (.str v t') (at' s h' tk)) :
    wpAny (MD w) (AR dp un fr gs) (call (.ref 107) [x, .str v t] [("name", .bool b)]) Q E s := by
  refine' enterG S [("self", x), ("value", .str v t), ("name", .bool b)] (fun k => if k = "name" then some (.bool b) else if k = "value" then some (.str v t) else if k = "self" then some x else none) (fun _ => []) ?k6 ?k7 ?k8 ?k9 ?kB ?kD ?km ?kc ?_ ?c2 ?c3 ?c4
  walk_at "enter"
  rename But _ _ _ => hb
  walk_at "go"
  · rename Sd _ _ _ _ _ => S₁
    refine r_m72 S₁ ?_
    walk_at "go"
    refine r_s72 S₁ hv hz ?_
    walk_at "go"
    exact h _ _ _ (stays S₁ hb)
  · rename Sd _ _ _ _ _ => S₁
    refine r_m77 S₁ ?_
    walk_at "go"
    refine r_s77 S₁ hv hz ?_
    walk_at "go"
    exact h _ _ _ (stays S₁ hb)
end
end Mine
namespace Mine
/-- a header, as a value: name and text -/
noncomputable def Ent (h : Heap) (v : Value) (e : Str × Str) : Prop := ∃ a t t', v = .ref a ∧ h.IsTuple a [.str e.1 t, .str e.2 t'].toArray
/-- two lists, item by item -/
noncomputable def All2 {α β : Type} (P : α → β → Prop) : List α → List β → Prop
  | [], [] => True
  | v :: vs, e :: es => P v e ∧ All2 P vs es
  | _, _ => False
section
variable {α β : Type} {P P' : α → β → Prop}
theorem All2.len : ∀ {vs : List α} {es : List β}, All2 P vs es → vs.length = es.length
  | [], [], _ => rfl
  | _ :: _, _ :: _, h => congrArg (· + 1) (All2.len h.2)
theorem All2.get : ∀ {vs : List α} {es : List β} {i : Nat} {v : α}, All2 P vs es → vs[i]? = some v → ∃ e, es[i]? = some e ∧ P v e
  | _ :: _, e :: _, 0, _, h, q => ⟨e, rfl, by cases q; exact h.1⟩
  | _ :: _, _ :: _, i + 1, _, h, q => All2.get (i := i) h.2 q
theorem All2.app : ∀ {vs vs' : List α} {es es' : List β}, All2 P vs es → All2 P vs' es' → All2 P (vs ++ vs') (es ++ es')
  | [], _, [], _, _, h => h
  | _ :: _, _, _ :: _, _, h, h' => ⟨h.1, All2.app h.2 h'⟩
theorem All2.snoc {vs : List α} {es : List β} {v : α} {e : β} (h : All2 P vs es) (hv : P v e) : All2 P (vs ++ [v]) (es ++ [e]) := h.app ⟨hv, trivial⟩
theorem All2.imp (k : ∀ v e, P v e → P' v e) : ∀ {vs : List α} {es : List β}, All2 P vs es → All2 P' vs es
  | [], [], _ => trivial
  | _ :: _, _ :: _, h => ⟨k _ _ h.1, All2.imp k h.2⟩
end
theorem drop_get {α : Type} {l : List α} {i : Nat} {e : α} (h : l[i]? = some e) : l.drop i = e :: l.drop (i + 1) := by
  obtain ⟨hi, rfl⟩ := List.getElem?_eq_some_iff.mp h
  exact List.drop_eq_getElem_cons hi
theorem take_next {α : Type} {l : List α} {i : Nat} {e : α} (h : l[i]? = some e) : l.take (i + 1) = l.take i ++ [e] := by rw [List.take_add_one]; simp [h]
noncomputable def IsStr (v : Value) (x : Str) : Prop := ∃ t, v = .str x t
theorem isStr (x : Str) (t : Tok) : IsStr (.str x t) x := ⟨t, rfl⟩
noncomputable abbrev Ents (h : Heap) : List Value → List (Str × Str) → Prop := All2 (Ent h)
noncomputable abbrev Strs : List Value → List Str → Prop := All2 IsStr
theorem Ent.keep {h h' : Heap} (k : TK h h') {v : Value} {e : Str × Str} (E : Ent h v e) : Ent h' v e := let ⟨a, t, t', q, i⟩ := E; ⟨a, t, t', q, k.tuple i⟩
theorem Ents.keep {h h' : Heap} (k : TK h h') {vs : List Value} {es : List (Str × Str)} (E : Ents h vs es) : Ents h' vs es := All2.imp (fun _ _ => Ent.keep k) E
section
variable {prog : Program} {w : World} {A : Around} {E : Value → Shared → Prop} {s : Shared} {g r : Heap} {sl : List (Addr × Sp)} {value slice : PySem.Expr} {l : Addr} {its : List Value} {vl vu vk : Value} {lo hi st : Option Int} {ops : List Value} {Q : Value → Shared → Prop}
theorem r_lslice (S : Sd w g r sl s.heap) (hl₀ : s.heap.PlainList l its.toArray) (pl : IsPart vl lo) (pu : IsPart vu hi) (pk : IsPart vk st) (h0 : st ≠ some 0)
    (h : ∀ D h', Sd w g r ((D, .lst (slicePick its.toArray lo hi st).toList) :: sl) h' → s.heap.get? D = none → Q (.ref D) (at' s h' s.toks))
    (hs : subscripted slice false (.ref l) (.ref s.heap.objs.size) = operate ops (getItem (.ref l) (.ref s.heap.objs.size)) := by with_unfolding_all rfl)
    (hsz : its.toArray.size ≤ sizeLine) :
    wpAny (model prog w) A (subscriptTail value slice (.ref l) (.ref s.heap.objs.size)) Q E { s with heap := s.heap.push { cls := .type "slice", data := .fields #[vl, vu, vk] } } := by
  have hl := hl₀.isList
  refine kba_turn (value' := PySem.Expr.Name "_" ⟨0, 0, 0, 0⟩) (fun _ => rfl) ?_
  refine subscriptTail_ops (Heap.IsList.typeIs (s := { s with heap := s.heap.push { cls := .type "slice", data := .fields #[vl, vu, vk] } }) (hl.push _)) list_getitem_lookup
    (wpAny_getItem_list_slice (hl.push _) (Heap.IsSliceOf.new ..) pl pu pk h0 ?_ hsz) hs (fun _ => rfl)
  have S₁ := S.ext (push_stays s.heap { cls := .type "slice", data := .fields #[vl, vu, vk] })
  refine h _ _ (S₁.add (push_stays _ _) (fresh_none _) ⟨_, by rw [Array.toArray_toList]; exact Heap.get?_push_size _ rfl⟩) ?_
  exact none_of (push_stays _ _) (fresh_none _)
theorem pick_all (its : List Value) : (slicePick its.toArray none none none).toList = its := by
  rw [slicePick_plain]; simp
end
section
variable {w : World} {dp un : Nat} {fr : Option (List Env)} {gs : Option (List Code)} {s : Shared} {g r : Heap} {Q : Value → Shared → Prop} {E : Value → Shared → Prop}
theorem c_keys (x l : Addr) (vs : List Value) (es : List (Str × Str)) (S : Sd w g r [] s.heap) (hd : dp + 5 < recursionLimit) (hun : un + 60 < cLine) (hl : s.heap.PlainList l vs.toArray) (H : HdAt s.heap x l) (hes : Ents s.heap vs es) (hz : vs.length ≤ 1000)
    (h : ∀ h' tk a ks, s.heap.StaysIn h' → s.heap.get? a = none → h'.PlainList a ks.toArray → Strs ks (es.map (·.1)) → Q (.ref a) (at' s h' tk)) :
    wpAny (MD w) (AR dp un fr gs) (call (.ref 160) [.ref x]) Q E s := by
  refine' enterG S [("self", .ref x)] (fun k => if k = "self" then some (.ref x) else none) (fun _ => []) ?k6 ?k7 ?k8 ?k9 ?kB ?kD ?km ?kc ?_ ?c2 ?c3 ?c4
  walk_at "enter"
  rename But _ _ _ => hb
  have H' := HdAt.keeps H hb.nil
  have hl' := stays_plain hb.nil hl
  walk_at "go"
  rename Sd _ _ _ _ _ => S₁
  refine iter_list S₁ (stays_plain S₁.keep hl') rfl ?_
  intro I o h' T hst S₂
  clear S₁
  refine ⟨I, _, _, _, _, _, _, _, o, rfl, T, Nat.le_trans hz (by decide), hst, S₂, fun D C => ⟨fun i ys r' sl' => r' = s.heap ∧ sl' = [(_, Sp.ns _)] ∧ Strs ys ((es.map (·.1)).take i), ⟨rfl, rfl, trivial⟩, ?_, ?_, ?_⟩⟩
  · intro i ys r' sl' sl₁ h' _ S₃ _
    exact (stays_plain S₃.keep hl').isList
  · rintro i v oI ys m r' sl' h₂ tk₂ Post hP hi hv ⟨rfl, rfl, hys⟩ S₃
    clear S₂
    obtain ⟨⟨n, tx⟩, he, a, t, t', rfl, ht⟩ := hes.get hv
    walk_at "go"
    walk_at "tests"
    walk_at "go"
    rename Sd _ _ _ _ _ => S₄
    refine hP _ _ <| block_end S₄ (by walk_at "pm") ?_
    (try dsimp only)
    exact ⟨rfl, rfl, by rw [take_next (e := n) (by simp [he])]; exact hys.snoc (isStr _ _)⟩
  · rintro ys m r' sl' h₂ tk₂ ⟨rfl, rfl, hys⟩ S₃ h₃ S₄
    clear S₂
    walk_at "go"
    rw [List.take_of_length_le (by rw [List.length_map, ← hes.len]; exact Nat.le_refl _)] at hys
    exact h _ _ _ ys (stays S₄ hb) (none_of hb.nil (S₄.nw (D, .lst ys) (.head _))) (S₄.get (x := .lst ys) (.head _)) hys
theorem c_items (x l : Addr) (vs : List Value) (S : Sd w g r [] s.heap) (hd : dp + 5 < recursionLimit) (hun : un + 60 < cLine) (hl : s.heap.PlainList l vs.toArray) (H : HdAt s.heap x l) (hz : vs.length ≤ 1000)
    (h : ∀ h' tk a, s.heap.StaysIn h' → s.heap.get? a = none → h'.PlainList a vs.toArray → Q (.ref a) (at' s h' tk)) :
    wpAny (MD w) (AR dp un fr gs) (call (.ref 172) [.ref x]) Q E s := by
  refine' enterG S [("self", .ref x)] (fun k => if k = "self" then some (.ref x) else none) (fun _ => []) ?k6 ?k7 ?k8 ?k9 ?kB ?kD ?km ?kc ?_ ?c2 ?c3 ?c4
  walk_at "enter"
  rename But _ _ _ => hb
  have H' := HdAt.keeps H hb.nil
  have hl' := stays_plain hb.nil hl
  walk_at "go"
  rename Sd _ _ _ _ _ => S₁
  refine r_lslice (s := ⟨_, _, _, _, _⟩) S₁ (stays_plain S₁.keep hl') .none .none .none (by simp) ?_ (hsz := by rw [List.size_toArray]; exact Nat.le_trans hz (by decide))
  intro D h' S₂ hD
  clear S₁
  rw [pick_all] at S₂
  walk_at "go"
  exact h _ _ _ (stays S₂ hb) (none_of hb.nil (S₂.nw (D, .lst _) (.head _))) (S₂.get (x := .lst vs) (.head _))
theorem c_get (x l : Addr) (vs : List Value) (es : List (Str × Str)) (n : Str) (t : Tok) (S : Sd w g r [] s.heap) (hd : dp + 15 < recursionLimit) (hun : un + 80 < cLine) (hl : s.heap.PlainList l vs.toArray) (H : HdAt s.heap x l) (hes : Ents s.heap vs es) (hz : vs.length ≤ 1000)
    (hk : ∀ e ∈ es, e.1.length ≤ 10) (hn : n.length ≤ 10) (hn' : (Txt.lower n).length ≤ 10) (hp : Plain (Txt.lower n)) (v : Str × Str) (hv : es.find? (fun e => Txt.lower e.1 == Txt.lower n) = some v)
    (h : ∀ h' tk t', s.heap.StaysIn h' → Q (.str v.2 t') (at' s h' tk)) :
    wpAny (MD w) (AR dp un fr gs) (call (.ref 155) [.ref x, .str n t]) Q E s := by
  refine' enterG S [("self", .ref x), ("name", .str n t), ("default", .none)] (fun k => if k = "default" then some .none else if k = "name" then some (.str n t) else if k = "self" then some (.ref x) else none) (fun _ => []) ?k6 ?k7 ?k8 ?k9 ?kB ?kD ?km ?kc ?_ ?c2 ?c3 ?c4
  walk_at "enter"
  rename But _ _ _ => hb
  have H' := HdAt.keeps H hb.nil
  have hl' := stays_plain hb.nil hl
  walk_at "go"
  rename Sd _ _ _ _ _ => S₁
  refine' c_conv S₁.nil ?_ ?_ _ _ _ _ hp ?_ ?_
  any_goals walk_at "om"
  intro h' tk' t' kk
  walk_at "pure"
  walk_at "go"
  refine for_rule (fun _ => rfl) ?_
  walk_at "go"
  rename Sd _ _ _ _ _ => S₁
  refine iter_list S₁ (stays_plain S₁.keep hl') rfl ?_
  intro I o h' T hst S₂
  clear S₁
  refine ⟨I, _, _, _, _, _, _, _, o, fun i r' sl' => r' = s.heap ∧ (∃ m, sl' = [(_, Sp.ns m)] ∧ ∃ t', m "name" = some (.str (Txt.lower n) t') ∧ m "self" = some (.ref x)) ∧ (es.take i).find? (fun e => Txt.lower e.1 == Txt.lower n) = none, rfl, T, hst, S₂, ⟨rfl, ⟨_, rfl, _, by walk_at "lk", by walk_at "lk"⟩, rfl⟩, ?_, ?_, ?_⟩
  · intro i r' sl' h' o' _ S₃
    exact (stays_plain S₃.keep hl').isList
  · rintro i v' oI r' sl' h₂ tk₂ Post hP hi hv' ⟨rfl, ⟨m, rfl, t'', hm, hm2⟩, hno⟩ S₃
    clear S₂
    obtain ⟨⟨k, tx⟩, he, a, t3, t4, rfl, ht⟩ := hes.get hv'
    have hk' := hk (k, tx) (List.mem_of_getElem? he)
    walk_at "go"
    · rename Sd _ _ _ _ _ => S₄
      rename (_ = true) => heq
      have e1 : es.find? (fun e => Txt.lower e.1 == Txt.lower n) = some (k, tx) := by
        rw [← List.take_append_drop i es, List.find?_append, hno, drop_get he]
        simp_all
      rw [e1] at hv; cases hv
      refine hP _ _ ?_
      exact h _ _ _ (stays S₄ hb)
    · rename Sd _ _ _ _ _ => S₄
      refine hP .next _ <| turn_end S₄ (by walk_at "pm") ?_
      (try dsimp only)
      refine ⟨rfl, ⟨_, rfl, _, by walk_at "lk", by walk_at "lk"⟩, ?_⟩
      rw [take_next he, List.find?_append, hno]
      simp_all
  · rintro r' sl' h₂ tk₂ ⟨rfl, _, hno⟩ S₃
    rw [List.take_of_length_le (by rw [← hes.len]; exact Nat.le_refl _), hv] at hno
    cases hno
end
end Mine
namespace Mine
theorem filter_next_pos {α : Type} {l : List α} {i : Nat} {e : α} {p : α → Bool} (h : l[i]? = some e) (hp : p e = true) : (l.take (i + 1)).filter p = (l.take i).filter p ++ [e] := by
  rw [take_next h, List.filter_append]; simp [hp]
theorem filter_next_neg {α : Type} {l : List α} {i : Nat} {e : α} {p : α → Bool} (h : l[i]? = some e) (hp : p e = false) : (l.take (i + 1)).filter p = (l.take i).filter p := by
  rw [take_next h, List.filter_append]; simp [hp]
theorem Strs.are : ∀ {vs : List Value} {ys : List Str}, Strs vs ys → StrsAre vs ys
  | [], [], _ => .nil
  | _ :: _, _ :: _, h => by
    obtain ⟨⟨t, rfl⟩, h2⟩ := h
    exact .cons _ t (Strs.are h2)
section
variable {prog : Program} {w : World} {A : Around} {E : Value → Shared → Prop} {s : Shared} {g r : Heap} {sl sl' : List (Addr × Sp)} {l D : Addr} {its ys : List Value}
theorem obj_seq {xs ys : Array Value} {n n' : Nat} {f : Array Value → Array Value} (h : (Obj.mapSeq f { cls := .type "list", data := .seq xs n }).data = .seq ys n') :
    Obj.mapSeq f { cls := .type "list", data := .seq xs n } = { cls := .type "list", data := .seq ys n' } := by
  unfold Obj.mapSeq at h ⊢
  dsimp only at h ⊢
  rw [h]
/-- the whole of a list written anew -/
theorem r_setall {Q : Unit → Shared → Prop} (S : Sd w g r sl s.heap) (p : sl.Perm ((l, .lst its) :: sl')) (hD₀ : s.heap.PlainList D ys.toArray) (hne : D ≠ l) (hz : its.length + ys.length ≤ 10000)
    (h : ∀ h', Sd w g r ((l, .lst ys) :: sl') h' → Q () (at' s h' s.toks)) :
    wpAny (model prog w) A (setItem (.ref l) (.ref s.heap.objs.size) (.ref D)) Q E { s with heap := s.heap.push { cls := .type "slice", data := .fields #[.none, .none, .none] } } := by
  have hD := hD₀.isList
  have S₀ := (S.perm p).ext (push_stays s.heap { cls := .type "slice", data := .fields #[.none, .none, .none] })
  have hl₀ := S₀.get (x := .lst its) (.head _)
  have hl : (s.heap.push { cls := .type "slice", data := .fields #[.none, .none, .none] }).PlainList l its.toArray := hl₀
  have hD' : (s.heap.push { cls := .type "slice", data := .fields #[.none, .none, .none] }).IsList D ys.toArray := hD.push _
  have hs : (s.heap.push { cls := .type "slice", data := .fields #[.none, .none, .none] }).get? s.heap.objs.size = some { cls := .type "slice", data := .fields #[.none, .none, .none] } := Heap.get?_push_size _ rfl
  generalize s.heap.objs.size = sl₁ at hs ⊢
  generalize s.heap.push { cls := .type "slice", data := .fields #[.none, .none, .none] } = hp at hs hl hD' S₀ ⊢
  let s' : Shared := { s with heap := hp }
  show wpAny (model prog w) A (setItem (.ref l) (.ref sl₁) (.ref D)) Q E s'
  have hTs : s'.TypeIs (.ref sl₁) "slice" := ⟨_, hs, rfl⟩
  have hT : s'.TypeIs (.ref l) "list" := Heap.IsList.typeIs (s := s') hl.isList
  have hTD : s'.TypeIs (.ref D) "list" := Heap.IsList.typeIs (s := s') hD'
  obtain ⟨ne, ho⟩ := id hl
  have hd : ({ cls := .type "list", data := .seq its.toArray ne } : Obj).data = .seq its.toArray ne := rfl
  obtain ⟨oD, hoD, hcD, neD, hdD⟩ := id hD'
  unfold setItem
  refine wpAny_holding ?_
  refine wpAny_bind (wpAny_sequenceKey hT (by decide) ?_)
  refine wpAny_bind (wpAny_callSpecial?_slot (name := PySem.Str.ofString "__setitem__") hT slot_list_setitem
    (wpAny_call_entry slot_list_setitem hT entry_list_setitem ?_ (args_list_setitem _ _ _)))
  show wpAny _ _ (Builtin.List.listSubscript? (.ref sl₁) >>= _) _ _ s'
  refine wpAny_bind ?_
  unfold Builtin.List.listSubscript?
  refine wpAny_bind (wpAny_specialOf hTs slice_no_index ?_)
  simp only [Option.isNone_none, if_true]
  refine wpAny_pure ?_
  show wpAny _ _ (typeOf (.ref sl₁) >>= _) _ _ s'
  refine wpAny_bind (wpAny_typeOf hTs ?_)
  rw [if_neg (by decide)]
  rw [listSliceParts_eq]
  refine wpAny_bind (wpAny_bind (wpAny_field (s := s') hs rfl (x := .none) rfl (wpAny_bind (wpAny_listPart .none ?_))))
  rw [if_neg (by decide)]
  refine wpAny_bind (wpAny_field (s := s') hs rfl (x := .none) rfl (wpAny_bind (wpAny_listPart .none ?_)))
  refine wpAny_bind (wpAny_field (s := s') hs rfl (x := .none) rfl (wpAny_bind (wpAny_listPart .none (wpAny_pure ?_))))
  dsimp only
  rw [if_neg (by show ¬ ((l == D) = true); simp; exact fun e => hne e.symm)]
  refine wpAny_bind (m := Builtin.List.listAllItems (.ref D) _) ?_
  unfold Builtin.List.listAllItems
  refine wpAny_bind (wpAny_typeOf hTD ?_)
  rw [if_pos (by decide)]
  unfold Builtin.List.listItems
  refine wpAny_bind (wpAny_seqItems (s := s') hoD hdD (wpAny_pure ?_))
  refine wpAny_bind (wpAny_bind (wpAny_seqItems (s := s') ho hd (wpAny_pure ?_)))
  refine wpAny_bind (wpAny_of_eq (sliceIndices_raw none none none its.toArray.size (by simp)) ?_)
  rw [sliceBounds_plain]
  dsimp only [Option.elim]
  rw [if_pos (by decide)]
  refine wpAny_bind (wpAny_rule ?_)
  rw [if_neg (by simp [Builtin.List.listTooLong, sizeLine_eq]; omega)]
  have hf : its.toArray.extract 0 ((0 : Nat) : Int).toNat ++ ys.toArray ++ its.toArray.extract (max ((0 : Nat) : Int) ((its.toArray.size : Nat) : Int)).toNat = ys.toArray := by
    simp
  obtain ⟨n', hd'⟩ := Obj.data_mapSeq hd (fun xs : Array Value => xs.extract 0 ((0 : Nat) : Int).toNat ++ ys.toArray ++ xs.extract (max ((0 : Nat) : Int) ((its.toArray.size : Nat) : Int)).toNat)
  rw [hf] at hd'
  refine wpAny_bind (m := Builtin.List.listUpdate (.ref l) _) ?_
  show wpAny _ _ (updateSeq l _) _ _ s'
  refine wpAny_updateSeq (s := s') ho hd ?_ (by rw [List.size_toArray, sizeLine_eq]; omega) (by show (its.toArray.extract 0 ((0 : Nat) : Int).toNat ++ ys.toArray ++ its.toArray.extract (max ((0 : Nat) : Int) ((its.toArray.size : Nat) : Int)).toNat).size ≤ _; rw [hf, List.size_toArray, sizeLine_eq]; omega)
  refine wpAny_bind (wpAny_letGo ?_)
  have S₁ := S₀.put₀ (x' := .lst ys) (Heap.SameBut.update hp l _).extBut ⟨n', (Heap.get?_update_self _ ho (Obj.isFreed_of_seq hd')).trans (congrArg some (obj_seq hd'))⟩
  refine wpAny_pure ⟨_, rfl, wpAny_pure ?_⟩
  exact h _ S₁
end
section
variable {w : World} {dp un : Nat} {fr : Option (List Env)} {gs : Option (List Code)} {s : Shared} {g r : Heap} {Q : Value → Shared → Prop} {E : Value → Shared → Prop}
theorem c_del (x l : Addr) (vs : List Value) (es : List (Str × Str)) (n : Str) (t : Tok) (S : Sd w g r [(l, .lst vs)] s.heap) (hd : dp + 15 < recursionLimit) (hun : un + 80 < cLine) (H : HdAt s.heap x l) (hes : Ents s.heap vs es) (hz : vs.length ≤ 1000)
    (hk : ∀ e ∈ es, e.1.length ≤ 10) (hn : n.length ≤ 10) (hn' : (Txt.lower n).length ≤ 10) (hp : Plain (Txt.lower n))
    (h : ∀ h' tk vs', But [l] s.heap h' → h'.PlainList l vs'.toArray → Ents s.heap vs' (es.filter (fun e => Txt.lower e.1 != Txt.lower n)) → vs'.length ≤ vs.length → Q .none (at' s h' tk)) :
    wpAny (MD w) (AR dp un fr gs) (call (.ref 126) [.ref x, .str n t]) Q E s := by
  have hl := S.get (x := .lst vs) (.head _)
  refine' enterG S [("self", .ref x), ("name", .str n t)] (fun k => if k = "self" then some (.ref x) else none) (fun L => [(L + 1, .cell (some (.str n t)))]) ?k6 ?k7 ?k8 ?k9 ?kB ?kD ?km ?kc ?_ ?c2 ?c3 ?c4
  walk_at "enter"
  rename But _ _ _ => hb
  have H' := HdAt.but H hl hb
  walk_at "go"
  rename Sd _ _ _ _ _ => S₁
  refine' c_conv S₁.nil ?_ ?_ _ _ _ _ hp ?_ ?_
  any_goals walk_at "om"
  intro h' tk' t' kk
  walk_at "pure"
  walk_at "go"
  rename Sd _ _ _ _ _ => S₁
  have hl₁ := S₁.get (a := l) (x := .lst vs) (by walk_at "mm")
  refine iter_list S₁ hl₁ rfl ?_
  intro I o h' T hst S₂
  clear S₁
  refine ⟨I, _, _, _, _, _, _, _, o, rfl, T, Nat.le_trans hz (by decide), hst, S₂, fun D C => ⟨fun i ys r' sl' => r' = s.heap ∧ sl' = [(_, .cell (some (.str (Txt.lower n) _))), (_, Sp.ns _), (l, .lst vs)] ∧ ys.length ≤ i ∧ Ents s.heap ys ((es.take i).filter (fun e => Txt.lower e.1 != Txt.lower n)), ⟨rfl, rfl, Nat.le_refl _, trivial⟩, ?_, ?_, ?_⟩⟩
  · rintro i ys r' sl' sl₁ h' ⟨_, rfl, _⟩ S₃ hs
    exact Heap.PlainList.isList (S₃.get (x := .lst vs) (hs _ (by walk_at "mm")))
  · rintro i v oI ys m r' sl' h₂ tk₂ Post hP hi hv ⟨rfl, rfl, hlen, hys⟩ S₃
    clear S₂
    obtain ⟨⟨k, tx⟩, he, he₁'⟩ := hes.get hv
    obtain ⟨a, t3, t4, rfl, ht⟩ := id he₁'
    have hk' := hk (k, tx) (List.mem_of_getElem? he)
    walk_at "go"
    walk_at "tests"
    walk_at "go"
    · rename Sd _ _ _ _ _ => S₄
      refine hP _ _ <| block_end S₄ (by walk_at "pm") ?_
      (try dsimp only)
      refine ⟨rfl, rfl, by simpa using hlen, ?_⟩
      rw [filter_next_pos he (by simp_all)]
      exact hys.snoc he₁'
    · rename Sd _ _ _ _ _ => S₄
      refine hP _ _ <| block_end S₄ (by walk_at "pm") ?_
      (try dsimp only)
      refine ⟨rfl, rfl, Nat.le_succ_of_le hlen, ?_⟩
      rw [filter_next_neg he (by simp_all)]
      exact hys
  · rintro ys m r' sl' h₂ tk₂ ⟨rfl, rfl, hlen, hys⟩ S₃ h₃ S₄
    clear S₂ S₃
    rw [List.take_of_length_le (by rw [← hes.len]; exact Nat.le_refl _)] at hys
    walk_at "go"
    refine r_setall (s := ⟨_, _, _, _, _⟩) S₄ (by walk_at "pm") (S₄.get (x := .lst ys) (.head _)) ?_ (by omega) ?_
    · have := S₄.nd
      intro e
      simp_all
    · intro h₄ S₅
      walk_at "go"
      exact h _ _ ys (fun b o e n => S₅.keep _ _ (hb b o e (by simpa using n))) (S₅.get (x := .lst ys) (.head _)) hys hlen
/-- an empty dict's items: none -/
theorem r_ditemsM {sl : List (Addr × Sp)} {A : Around} {D : Addr} {pl : Sem Bool} {Q : Value × List Value → Shared → Prop} (S : Sd w g r sl s.heap) (hm : (D, Sp.ob emptyDict) ∈ sl) (h : Q (.builtin "dict.items", [.ref D]) s) : wpAny (MD w) A (getMethod (.ref D) "items" pl) Q E s := by
  obtain ⟨ho, _⟩ := S.get (x := .ob emptyDict) hm
  exact getMethod_builtin ⟨_, ho, rfl⟩ PySem.F.plainAttrs_dict PySem.F.slot_dict_items PySem.F.type_dict_items (fun a e => by cases e; exact ⟨_, ho, rfl⟩) h
theorem empty_of {h : Heap} {D : Addr} (ho : h.get? D = some emptyDict) : h.DictAt (strKind PySem.Challenge.rw_wf0079_01.row.prog w) D [] 0 :=
  ⟨_, #[], ho, ⟨rfl, rfl, rfl⟩, rfl, fun e he => by simp at he, .nil, List.nodup_nil⟩
theorem r_ditems {sl : List (Addr × Sp)} {A : Around} {D : Addr} (S : Sd w g r sl s.heap) (hm : (D, Sp.ob emptyDict) ∈ sl) (h1 : 1 < D)
    (h : ∀ V h', Sd w g r ((V, .ob { cls := .type "dict_items", data := .fields #[.ref D] }) :: sl) h' → Q (.ref V) (at' s h' s.toks)) : wpAny (MD w) A (call (.builtin "dict.items") [.ref D]) Q E s := by
  obtain ⟨ho, _⟩ := S.get (x := .ob emptyDict) hm
  have S' := S.add (x := .ob { cls := .type "dict_items", data := .fields #[.ref D] }) (push_stays s.heap { cls := .type "dict_items", data := .fields #[.ref D] }) (fresh_none _) ⟨Heap.get?_push_size _ rfl, by simp⟩
  exact call_meetsIn PySem.F.slot_dict_items ⟨_, ho, rfl⟩ PySem.F.entry_dict_items (PySem.F.args_dict_items_1 _) (meets_dict_items (strKind PySem.Challenge.rw_wf0079_01.row.prog w) D (by
    rw [beq_eq_false_iff_ne]; exact Nat.ne_of_gt h1)) ⟨⟨[], _, #[], 0, ho, ⟨rfl, rfl, rfl⟩, rfl, fun e he => by simp at he, .nil, List.nodup_nil⟩, h _ _ S'⟩
theorem r_nothing {sl : List (Addr × Sp)} {A : Around} {D V : Addr} (hh : A.handled = none) (S : Sd w g r sl s.heap) (hm : (D, Sp.ob emptyDict) ∈ sl) (hv : (V, Sp.ob { cls := .type "dict_items", data := .fields #[.ref D] }) ∈ sl)
    {Q : Shared → Prop} (h : ∀ h', Sd w g r sl h' → Q (at' s h' s.toks)) :
    wpAny (MD w) A (pyIter (.ref V)) (fun it s₂ => wpAny (MD w) A (pyNext it) (fun o s₃ => o = none ∧ Q s₃) NoE s₂) NoE s := by
  obtain ⟨ho, _⟩ := S.get (x := .ob emptyDict) hm
  obtain ⟨hv', _⟩ := S.get (x := .ob _) hv
  have hd := empty_of (w := w) ho
  refine wpAny_pyIter_items (knd := strKind PySem.Challenge.rw_wf0079_01.row.prog w) ⟨_, hv', rfl, rfl⟩ hd ?_
  have k := push_stays s.heap { cls := .type "dict_itemiterator", data := .fields #[.none, .bool false, .ref D, .int 0 0, .int ([] : List (Str × Value)).length 0, .int 0 0, .none, .none] }
  refine wpAny_pyNext_items_end (knd := strKind PySem.Challenge.rw_wf0079_01.row.prog w) (kvs := []) (i := 0) hh (Heap.get?_push_size _ rfl) (empty_of (w := w) (k _ _ ho)) rfl fun h' hb => ⟨rfl, h h' (S.ext fun b o e => hb b o (Nat.ne_of_lt (Heap.lt_size e)) (k b o e))⟩
theorem r_lappM {sl : List (Addr × Sp)} {A : Around} {l : Addr} {its : List Value} {pl : Sem Bool} {Q : Value × List Value → Shared → Prop} (S : Sd w g r sl s.heap) (hm : (l, Sp.lst its) ∈ sl) (h : Q (.builtin "list.append", [.ref l]) s) : wpAny (MD w) A (getMethod (.ref l) "append" pl) Q E s := by
  obtain ⟨n, ho⟩ := S.get (x := .lst its) hm
  exact getMethod_builtin ⟨_, ho, rfl⟩ PySem.F.plainAttrs_list PySem.F.slot_list_append PySem.F.type_list_append (fun a e => by cases e; exact ⟨_, ho, rfl⟩) h
end
end Mine
local macro_rules | `(tactic| walk_at "getMethod ref") => `(tactic| (k_dflt (first
  | (refine' Mine.r_lappM ?zzS ?zzm ?_; walk_at "zS"; (case zzm => walk_at "mm"); k_whole)
  | (refine' Mine.r_ditemsM ?zzS ?zzm ?_; walk_at "zS"; (case zzm => walk_at "mm"); k_whole))))
namespace Mine
section
variable {w : World} {dp un : Nat} {fr : Option (List Env)} {gs : Option (List Code)} {s : Shared} {g r : Heap} {Q : Value → Shared → Prop} {E : Value → Shared → Prop}
theorem c_addh (x l : Addr) (vs : List Value) (n tx : Str) (t t2 : Tok) (S : Sd w g r [(l, .lst vs)] s.heap) (hd : dp + 15 < recursionLimit) (hun : un + 80 < cLine) (H : HdAt s.heap x l) (hz : vs.length ≤ 1000)
    (hn : n.length ≤ 1000) (htx : tx.length ≤ 1000) (hp : Plain n) (hp' : Plain tx)
    (h : ∀ h' tk v, But [l] s.heap h' → h'.PlainList l (vs ++ [v]).toArray → Ent h' v (n, tx) → Q .none (at' s h' tk)) :
    wpAny (MD w) (AR dp un fr gs) (call (.ref 205) [.ref x, .str n t, .str tx t2]) Q E s := by
  have hl := S.get (x := .lst vs) (.head _)
  refine' enterM S (fun D => [("self", .ref x), ("_name", .str n t), ("_value", .str tx t2), ("_params", .ref D)]) (fun D k => if k = "_params" then some (.ref D) else if k = "_value" then some (.str tx t2) else if k = "_name" then some (.str n t) else if k = "self" then some (.ref x) else none) ?k6 ?k7 ?k8 ?kP ?kG ?kB ?kD ?km ?kc ?_ ?c2 ?c3 ?c4
  walk_at "enterM"
  intro D g' L h₁ tk hD hb S₁
  have H' := HdAt.but H hl hb
  walk_at "go"
  rename Sd _ _ _ _ _ => S₁
  refine' c_conv S₁.nil ?_ ?_ _ _ _ _ hp' ?_ ?_
  any_goals walk_at "om"
  intro h' tk' t' kk
  walk_at "pure"
  walk_at "go"
  refine for_none (fun _ => rfl) ?_
  walk_at "go"
  rename Sd _ _ _ _ _ => S₂
  refine r_ditems S₂ (by walk_at "mm") (Nat.lt_trans (by decide) hD) ?_
  intro V h₂ S₃
  clear S₂
  refine r_nothing (by rfl) S₃ (by walk_at "mm") (by walk_at "mm") ?_
  intro h₃ S₄
  clear S₃
  walk_at "go"
  refine' c_conv S₄.nil ?_ ?_ _ _ _ _ hp ?_ ?_
  any_goals walk_at "om"
  intro h' tk' t' kk
  walk_at "pure"
  walk_at "go"
  rename Sd _ _ _ _ _ => S₅
  refine join_list (ys := [tx]) (Heap.PlainList.isList (S₅.get (x := .lst _) (by walk_at "mm"))) (StrsAre.cons tx _ .nil) (by have e2 : (Str.ofString "; ").length = 2 := rfl; simp [e2]; omega) ?_
  intro t₆ k₆
  rw [show Txt.join (Str.ofString "; ") [tx] = tx from rfl]
  walk_at "go"
  rename Sd _ _ _ _ _ => S₆
  refine h _ _ (.ref _) (fun b o e n => S₆.keep _ _ (hb b o e n)) (S₆.get (x := .lst _) (.head _)) ⟨_, _, _, rfl, S₆.get (x := .tup _) (by walk_at "mm")⟩
end
end Mine
namespace Mine
section
variable {w : World} {A : Around} {E : Value → Shared → Prop} {s : Shared} {g r : Heap} {sl : List (Addr × Sp)} {prog : Program}
theorem r_range {Q : Value → Shared → Prop} {n : Int} {t : Tok} (S : Sd w g r sl s.heap)
    (h : ∀ a h' tk t u v, Sd w g r ((a, .ob { cls := .type "range", data := .fields #[.int 0 t, .int n u, .int 1 v] }) :: sl) h' → Q (.ref a) (at' s h' tk)) : wpAny (model prog w) A (call (.type "range") [.int n t]) Q E s :=
  call_range_1 (h _ _ _ _ _ _ (S.add (push_stays _ _) (fresh_none _) ⟨Heap.get?_push_size _ rfl, by simp⟩))
theorem it_rangeS {ax : Addr} {n : Nat} {t u v : Tok} {Q : Value → Shared → Prop} (S : Sd w g r sl s.heap) (hm : (ax, Sp.ob { cls := .type "range", data := .fields #[.int 0 t, .int (n : Int) u, .int 1 v] }) ∈ sl) (hn : n < 1000) (hh : A.handled = none)
    (h : ∀ I o h', It prog w A I n (fun i v => ∃ t, v = .int (i : Int) t) (fun _ => True) (fun i h => IsRangeIter h I (0 + (i : Nat) * 1) ((n : Int) - (i : Nat)) 1) →
      IsRangeIter h' I (0 + ((0 : Nat) : Int) * 1) ((n : Int) - ((0 : Nat) : Int)) 1 → Sd w g r ((I, .ob o) :: sl) h' → Q (.ref I) (at' s h' s.toks)) : wpAny (model prog w) A (pyIter (.ref ax)) Q E s := by
  refine iter_range S (S.get (x := .ob _) hm).1 (small_one (by decide) (by decide) (by omega) (by omega)) ?_ hh h
  rw [rangeSize_one]; split <;> omega
end
noncomputable def IsInt (v : Value) (x : Int) : Prop := ∃ t, v = .int x t
theorem isInt (x : Int) (t : Tok) : IsInt (.int x t) x := ⟨t, rfl⟩
end Mine
local macro_rules | `(tactic| walk_at "call type:range") => `(tactic| (k_dflt (refine' Mine.r_range ?zzS ?_; walk_at "zS"; k_whole; (rename Sd _ _ _ _ _ => oldS); intro a' h' tk' t' u' v' S'; clear oldS)))
namespace Mine
section
variable {w : World} {dp un : Nat} {fr : Option (List Env)} {gs : Option (List Code)} {s : Shared} {g r : Heap} {Q : Value → Shared → Prop} {E : Value → Shared → Prop}
theorem c_isn (S : Sd w g r [] s.heap) (hd : dp + 5 < recursionLimit) (x : Int) (t : Tok) (h : ∀ h' tk, s.heap.StaysIn h' → Q (.bool (decide (256 ≤ x))) (at' s h' tk)) :
    wpAny (MD w) (AR dp un fr gs) (call (.ref 48) [.int x t]) Q E s := by
  refine' enterG S [("x", .int x t)] (fun y => if y = "x" then some (.int x t) else none) (fun _ => []) ?k6 ?k7 ?k8 ?k9 ?kB ?kD ?km ?kc ?_ ?c2 ?c3 ?c4
  walk_at "enter"
  walk_at "go"
  rename But _ _ _ => hb
  rename Sd _ _ _ _ _ => S₁
  exact h _ _ (stays S₁ hb)
theorem c_iseof (S : Sd w g r [] s.heap) (hd : dp + 5 < recursionLimit) (x : Int) (t : Tok) (h : ∀ h' tk, s.heap.StaysIn h' → Q (.bool (x == 0)) (at' s h' tk)) :
    wpAny (MD w) (AR dp un fr gs) (call (.ref 55) [.int x t]) Q E s := by
  refine' enterG S [("x", .int x t)] (fun y => if y = "x" then some (.int x t) else none) (fun _ => []) ?k6 ?k7 ?k8 ?k9 ?kB ?kD ?km ?kc ?_ ?c2 ?c3 ?c4
  walk_at "enter"
  walk_at "go"
  rename But _ _ _ => hb
  rename Sd _ _ _ _ _ => S₁
  exact h _ _ (stays S₁ hb)
/-- the name in the other size of letters -/
noncomputable def oth (x : Str) : Str := if x == Txt.lower x then Txt.upper x else Txt.lower x
theorem c_other (S : Sd w g r [] s.heap) (hd : dp + 5 < recursionLimit) (x : Str) (t : Tok) (hx : x.length ≤ 10) (h : ∀ h' tk t', s.heap.StaysIn h' → Q (.str (oth x) t') (at' s h' tk)) :
    wpAny (MD w) (AR dp un fr gs) (call (.ref 264) [.str x t]) Q E s := by
  refine' enterG S [("name", .str x t)] (fun y => if y = "name" then some (.str x t) else none) (fun _ => []) ?k6 ?k7 ?k8 ?k9 ?kB ?kD ?km ?kc ?_ ?c2 ?c3 ?c4
  walk_at "enter"
  walk_at "go"
  · rename But _ _ _ => hb
    rename Sd _ _ _ _ _ => S₁
    rw [show oth x = Txt.upper x from if_pos (by assumption)] at h
    exact h _ _ _ (stays S₁ hb)
  · rename But _ _ _ => hb
    rename Sd _ _ _ _ _ => S₁
    rw [show oth x = Txt.lower x from if_neg (by rw [(by assumption : (x == Txt.lower x) = false)]; decide)] at h
    exact h _ _ _ (stays S₁ hb)
theorem c_figures (S : Sd w g r [] s.heap) (hd : dp + 5 < recursionLimit) (hun : un + 60 < cLine) (x : Int) (t : Tok) (h : ∀ h' tk a ks, s.heap.StaysIn h' → s.heap.get? a = none →
     h'.PlainList a ks.toArray → All2 IsInt ks [Int.fmod (Int.fdiv (Int.fmod x 26 + 1) 1) 3, Int.fmod (Int.fdiv (Int.fmod x 26 + 1) 3) 3, Int.fmod (Int.fdiv (Int.fmod x 26 + 1) 9) 3] → Q (.ref a) (at' s h' tk)) :
    wpAny (MD w) (AR dp un fr gs) (call (.ref 222) [.int x t]) Q E s := by
  refine' enterG S [("x", .int x t)] (fun y => none) (fun L => [(L + 1, .cell (some (.int x t)))]) ?k6 ?k7 ?k8 ?k9 ?kB ?kD ?km ?kc ?_ ?c2 ?c3 ?c4
  walk_at "enter"
  rename But _ _ _ => hb
  walk_at "go"
  rename Sd _ _ _ _ _ => S₁
  refine it_rangeS (n := 3) S₁ (by walk_at "mm") (by decide) rfl ?_
  intro I o h' T hst S₂
  clear S₁
  refine ⟨I, _, _, _, _, _, _, _, o, rfl, T, by decide, hst, S₂, fun D C => ⟨fun i ys r' sl' => r' = s.heap ∧ (∃ p q, sl' = [p, q, (_, .cell (some (.int x t)))]) ∧ All2 IsInt ys ([Int.fmod (Int.fdiv (Int.fmod x 26 + 1) 1) 3, Int.fmod (Int.fdiv (Int.fmod x 26 + 1) 3) 3, Int.fmod (Int.fdiv (Int.fmod x 26 + 1) 9) 3].take i), ⟨rfl, ⟨_, _, rfl⟩, trivial⟩, ?_, ?_, ?_⟩⟩
  · exact fun _ _ _ _ _ _ _ _ _ => trivial
  · rintro i v oI ys m r' sl' h₂ tk₂ Post hP hi hv ⟨rfl, ⟨p, q, rfl⟩, hys⟩ S₃
    clear S₂
    obtain ⟨t₅, rfl⟩ := hv
    obtain rfl | rfl | rfl : i = 0 ∨ i = 1 ∨ i = 2 := by omega
    · walk_at "go"
      walk_at "tests"
      walk_at "go"
      rename Sd _ _ _ _ _ => S₄
      refine hP _ _ <| block_end S₄ (by walk_at "pm") ⟨rfl, ⟨_, _, rfl⟩, ?_⟩
      rw [take_next (i := 0) (by rfl)]
      exact hys.snoc ⟨_, rfl⟩
    · walk_at "go"
      walk_at "tests"
      walk_at "go"
      rename Sd _ _ _ _ _ => S₄
      refine hP _ _ <| block_end S₄ (by walk_at "pm") ⟨rfl, ⟨_, _, rfl⟩, ?_⟩
      rw [take_next (i := 1) (by rfl)]
      exact hys.snoc ⟨_, rfl⟩
    · walk_at "go"
      walk_at "tests"
      walk_at "go"
      rename Sd _ _ _ _ _ => S₄
      refine hP _ _ <| block_end S₄ (by walk_at "pm") ⟨rfl, ⟨_, _, rfl⟩, ?_⟩
      rw [take_next (i := 2) (by rfl)]
      exact hys.snoc ⟨_, rfl⟩
  · rintro ys m r' sl' h₂ tk₂ ⟨rfl, ⟨p, q, rfl⟩, hys⟩ S₃ h₃ S₄
    clear S₂
    walk_at "go"
    exact h _ _ _ ys (stays S₄ hb) (none_of hb.nil (S₄.nw (D, .lst ys) (.head _))) (S₄.get (x := .lst ys) (.head _)) hys
end
end Mine
namespace Mine
section
variable {w : World} {A : Around} {E : Value → Shared → Prop} {s : Shared} {g r : Heap} {sl : List (Addr × Sp)} {prog : Program}
theorem r_topIn {a : Addr} {es : Array DictEntry} {n : Nat} {x : Str} {t : Tok} {r' : Option Value} {Q : Value → Shared → Prop} (S : Sd w g r sl s.heap) (hl : (Mine.mk.heap_1 w.params).lookup a = some ⟨.type "dict", none, .dict es n, #[]⟩) (hk : KeysLit w.params es.toList) (e : nsIn (Mine.mk.heap_1 w.params) a x = some r') (lo : (a == sysModules) = false)
    (h : Q (.bool r'.isSome) { s with toks := s.toks + 1 }) : wpAny (model prog w) A (compareOp .In (.str x t) (.ref a)) Q E s :=
  wpAny_in_of (strKind_is prog w x t) lo (mapOf_K (prog := prog) (S.gd.X.keeps S.keep) hl hk) (by rw [find_K hl e]; exact h)
theorem r_topItem {value slice : PySem.Expr} {a : Addr} {es : Array DictEntry} {n : Nat} {x : Str} {t : Tok} {v : Value} {Q : Value → Shared → Prop} (S : Sd w g r sl s.heap) (hl : (Mine.mk.heap_1 w.params).lookup a = some ⟨.type "dict", none, .dict es n, #[]⟩) (hk : KeysLit w.params es.toList) (e : nsIn (Mine.mk.heap_1 w.params) a x = some (some v))
    (h : Q v { s with toks := s.toks + 1 })
    (hs : subscripted slice false (.ref a) (.str x t) = operate [.ref a, .str x t] (getItem (.ref a) (.str x t)) := by with_unfolding_all rfl) :
    wpAny (model prog w) A (subscriptTail value slice (.ref a) (.str x t)) Q E s :=
  have hm := mapOf_K (prog := prog) (S.gd.X.keeps S.keep) hl hk
  tail_any hm.typeIs slot_dict_getitem.lookup (wpAny_getItem_of (strKind_is prog w x t) hm (find_K hl e) h) hs
theorem r_ladd {a b : Addr} {xs ys : List Value} {Q : Value → Shared → Prop} (S : Sd w g r sl s.heap) (hx : s.heap.PlainList a xs.toArray) (hy : s.heap.PlainList b ys.toArray) (hz : xs.length + ys.length ≤ 100000)
    (h : ∀ c h', Sd w g r ((c, .lst (xs ++ ys)) :: sl) h' → Q (.ref c) (at' s h' s.toks)) : wpAny (model prog w) A (binaryOp .Add (.ref a) (.ref b)) Q E s := by
  obtain ⟨n, h1⟩ := hx
  obtain ⟨n', h2⟩ := hy
  have e' : ∀ zs : Array Value, zs = (xs ++ ys).toArray → Sp.At (s.heap.push { cls := .type "list", data := .seq zs }) s.heap.objs.size (.lst (xs ++ ys)) := by
    rintro zs rfl
    exact ⟨_, Heap.get?_push_size _ rfl⟩
  exact P.add_list h1 h2 (h _ _ (S.add (push_stays _ _) (fresh_none _) (e' _ (by simp)))) (by rw [List.size_toArray, List.size_toArray, sizeLine_eq]; omega)
end
end Mine
local macro_rules | `(tactic| walk_at "compareOp In str ref") => `(tactic| (k_dflt (refine' Mine.r_topIn ?zzS ?zzl ?zzk ?zze ?zzo ?_; walk_at "zS"; (case zzl => k_is); (case zzk => k_keys); (case zze => first | assumption | k_is); (case zzo => decide))))
local macro_rules | `(tactic| walk_at "subscriptTail") => `(tactic| ((with_reducible show wpAny _ _ (subscriptTail _ _ (Value.ref _) (Value.str _ _)) _ _ _); k_dflt (refine' Mine.r_topItem ?zzS ?zzl ?zzk ?zze ?_; walk_at "zS"; (case zzl => k_is); (case zzk => k_keys); (case zze => first | assumption | k_is))))
local macro_rules | `(tactic| walk_at "pp") => `(tactic| first | exact List.Perm.refl _ | (refine List.Perm.trans (by walk_at "pm") (List.Perm.cons _ (by walk_at "pp"))))
local macro_rules | `(tactic| walk_at "subscriptTail") => `(tactic| ((with_reducible show wpAny _ _ (subscriptTail _ _ (Value.str _ _) (Value.int _ _)) _ _ _); k_dflt (refine' KXi.item ?zzk ?zza ?zzb ?zzc ?_; (case zzk => first | exact (rfl : _ = 3) | exact rfl); (case zza | zzb => walk_at "zn"); (case zzc => first | decide | omega); k_whole; intro hlen1)))
namespace Mine
/-- a sign's symbol -/
noncomputable def symOf (c : Nat) : Int := if c = 126 then 31 else if c = 38 then 19 else if c = 124 then 18 else if c = 32 then 255 else if c = 97 ∨ c = 65 then 256 else if c = 98 ∨ c = 66 then 257 else 258
/-- the signs of the texts -/
noncomputable def Al (x : Str) : Prop := ∀ c ∈ x.cps.toList, c ∈ [126, 38, 124, 32, 97, 65, 98, 66, 99, 67]
section
variable {w : World} {dp un : Nat} {fr : Option (List Env)} {gs : Option (List Code)} {s : Shared} {g r : Heap} {Q : Value → Shared → Prop} {E : Value → Shared → Prop}
theorem sg_tab {P : Params} : ∀ c ∈ [126, 38, 124], ∃ t, nsIn (Mine.mk.heap_1 P) 39 ⟨#[c]⟩ = some (some (.int (symOf c) t)) := by
  intro c hc
  simp only [List.mem_cons, List.not_mem_nil, or_false] at hc
  obtain rfl | rfl | rfl := hc
  all_goals exact ⟨_, by k_is⟩
theorem sg_not {P : Params} : ∀ c ∈ [32, 97, 65, 98, 66, 99, 67], nsIn (Mine.mk.heap_1 P) 39 ⟨#[c]⟩ = some none := by
  intro c hc
  simp only [List.mem_cons, List.not_mem_nil, or_false] at hc
  obtain rfl | rfl | rfl | rfl | rfl | rfl | rfl := hc
  all_goals k_is
theorem sg_find : ∀ c ∈ [97, 65, 98, 66, 99, 67], 256 + Txt.find (Str.ofString "abc") (Txt.lower ⟨#[c]⟩) = symOf c ∧ 0 ≤ Txt.find (Str.ofString "abc") (Txt.lower ⟨#[c]⟩) ∧ ((⟨#[c]⟩ : Str) == Str.ofString " ") = false := by decide +kernel
theorem c_symbols (S : Sd w g r [] s.heap) (hd : dp + 5 < recursionLimit) (x : Str) (t : Tok) (hx : x.length ≤ 10000) (ha : Al x) (h : ∀ h' tk a ks, s.heap.StaysIn h' → s.heap.get? a = none →
     h'.PlainList a ks.toArray → All2 IsInt ks (x.cps.toList.map symOf ++ [0]) → Q (.ref a) (at' s h' tk)) :
    wpAny (MD w) (AR dp un fr gs) (call (.ref 236) [.str x t]) Q E s := by
  have hasc : x.cps.all (· < 128) = true := by
    rw [← Array.all_toList, List.all_eq_true]
    intro c hc
    have := ha c hc
    simp only [List.mem_cons, List.not_mem_nil, or_false] at this
    simp only [decide_eq_true_eq]; omega
  refine' enterG S [("text", .str x t)] (fun y => if y = "text" then some (.str x t) else none) (fun _ => []) ?k6 ?k7 ?k8 ?k9 ?kB ?kD ?km ?kc ?_ ?c2 ?c3 ?c4
  walk_at "enter"
  rename But _ _ _ => hb
  walk_at "go"
  refine for_rule (fun _ => rfl) ?_
  walk_at "go"
  rename Sd _ _ _ _ _ => S₁
  refine iter_ascii S₁ hasc rfl ?_
  intro I o h' T hst S₂
  clear S₁
  refine ⟨I, _, _, _, _, _, _, _, o, fun i r' sl' => r' = s.heap ∧ ∃ m a ys, sl' = [(_, Sp.ns m), (a, .lst ys)] ∧ m "symbols" = some (.ref a) ∧ ys.length ≤ i ∧ All2 IsInt ys ((x.cps.toList.take i).map symOf), rfl, T, hst, S₂, ⟨rfl, _, _, _, rfl, rfl, Nat.le_refl _, trivial⟩, fun _ _ _ _ _ _ _ => trivial, ?_, ?_⟩
  · rintro i v oI r' sl' h₂ tk₂ Post hP hi hv ⟨rfl, m, a, ys, rfl, hm, hyl, hys⟩ S₃
    clear S₂
    have hyl2 : ys.length ≤ 10000 := by have : i < 10000 := Nat.lt_of_lt_of_le hi hx; omega
    obtain ⟨c, u, hc, rfl⟩ := hv
    have hc' : c ∈ [126, 38, 124, 32, 97, 65, 98, 66, 99, 67] := ha c (List.mem_of_getElem? (by simpa using hc))
    have fin : ∀ (z : Int) (t : Tok), z = symOf c → All2 IsInt (ys ++ [.int z t]) ((x.cps.toList.take (i + 1)).map symOf) := fun z t e => by
      rw [take_next (e := c) (by simpa using hc), List.map_append]
      exact hys.snoc ⟨t, by rw [e]⟩
    have hcl : (Str.mk #[c]).length ≤ 10 := by show (1 : Nat) ≤ 10; decide
    have hcase := (by decide : ∀ c ∈ [126, 38, 124, 32, 97, 65, 98, 66, 99, 67], c ∈ [126, 38, 124] ∨ c = 32 ∨ c ∈ [97, 65, 98, 66, 99, 67]) c hc'
    obtain h1 | rfl | h1 := hcase
    · obtain ⟨t₁, ht⟩ := sg_tab (P := w.params) c h1
      walk_at "go"
      all_goals try (exfalso; have e : (some (Value.int (symOf c) t₁)).isSome = false := by assumption
                     cases e; done)
      rename Sd _ _ _ _ _ => S₄
      refine hP .next _ <| turn_end (S₄.perm pm1) (by walk_at "pm") ?_
      (try dsimp only)
      refine ⟨rfl, _, _, _, rfl, by walk_at "lk", by simpa using hyl, fin _ _ rfl⟩
    · have ht := sg_not (P := w.params) 32 (by decide)
      walk_at "go"
      rename Sd _ _ _ _ _ => S₄
      refine hP .next _ <| turn_end (S₄.perm pm1) (by walk_at "pm") ?_
      (try dsimp only)
      refine ⟨rfl, _, _, _, rfl, by walk_at "lk", by simpa using hyl, fin _ _ rfl⟩
    · have ht := sg_not (P := w.params) c (.tail _ h1)
      obtain ⟨f1, f2, f3⟩ := sg_find c h1
      walk_at "go"
      any_goals (exfalso; rw [f3] at *; contradiction)
      all_goals try (exfalso; omega)
      rename Sd _ _ _ _ _ => S₄
      refine hP .next _ <| turn_end (S₄.perm pm1) (by walk_at "pm") ?_
      (try dsimp only)
      refine ⟨rfl, _, _, _, rfl, by walk_at "lk", by simpa using hyl, fin _ _ f1⟩
  · rintro r' sl' h₂ tk₂ ⟨rfl, m, a, ys, rfl, hm, hyl, hys⟩ S₃
    clear S₂
    rw [List.take_of_length_le (by simp)] at hys
    have k₃ := stays S₃ hb
    have hyl2 : ys.length ≤ 10000 := Nat.le_trans hyl hx
    walk_at "go"
    rename Sd _ _ _ _ _ => S₄
    refine r_ladd S₄ (S₄.get (x := .lst _) (by walk_at "mm")) (S₄.get (x := .lst _) (.head _)) (by simp; omega) ?_
    intro c h' S₅
    clear S₄
    walk_at "go"
    exact h _ _ _ _ (stays S₅ hb) (none_of hb.nil (S₅.nw (c, .lst _) (.head _))) (S₅.get (x := .lst _) (.head _)) (hys.snoc ⟨_, rfl⟩)
end
end Mine
namespace Mine
theorem bitAnd_nat (a b : Nat) : Builtin.bitAnd (a : Int) (b : Int) = ((a &&& b : Nat) : Int) := by
  unfold Builtin.bitAnd
  rw [decide_eq_true (Int.natCast_nonneg a), decide_eq_true (Int.natCast_nonneg b)]
  rfl
theorem bitOr_nat (a b : Nat) : Builtin.bitOr (a : Int) (b : Int) = ((a ||| b : Nat) : Int) := by
  have e : ∀ n : Nat, Builtin.bitNot (n : Int) = -(n : Int) - 1 := fun _ => rfl
  have f : ∀ n : Nat, Builtin.bitNot (-(n : Int) - 1) = n := fun n => by show -(-(n : Int) - 1) - 1 = n; omega
  unfold Builtin.bitOr
  rw [e, e]
  unfold Builtin.bitAnd
  rw [decide_eq_false (by omega), decide_eq_false (by omega), f, f]
  dsimp only [Int.toNat_natCast]
  rw [e, f]
theorem bitOr_pow (n k : Nat) : Builtin.bitOr (n : Int) ((2 : Int) ^ k) = ((n ||| 2 ^ k : Nat) : Int) := by
  have := bitOr_nat n (2 ^ k)
  rwa [Int.natCast_pow] at this
/-- the reading of the symbols -/
noncomputable def pstep (st : List (Nat × Nat) × Nat × Nat × Bool) (z : Int) : List (Nat × Nat) × Nat × Nat × Bool :=
  if 256 ≤ z then (if st.2.2.2 = true then (st.1, st.2.1, st.2.2.1 ||| 2 ^ (z - 256).toNat, false) else (st.1, st.2.1 ||| 2 ^ (z - 256).toNat, st.2.2.1, false))
  else if z = 0 ∨ z = 18 then (st.1 ++ [(st.2.1, st.2.2.1)], 0, 0, st.2.2.2)
  else (st.1, st.2.1, st.2.2.1, z == 31)
noncomputable def parse (zs : List Int) : List (Nat × Nat) × Nat × Nat × Bool := zs.foldl pstep ([], 0, 0, false)
theorem parse_snoc (zs : List Int) (z : Int) : parse (zs ++ [z]) = pstep (parse zs) z := by simp [parse, List.foldl_append]
noncomputable abbrev syms (x : Str) : List Int := x.cps.toList.map symOf ++ [0]
/-- a pair of numbers, as a value -/
noncomputable def Pair (h : Heap) (v : Value) (p : Nat × Nat) : Prop := ∃ a t t', v = .ref a ∧ h.IsTuple a [.int (p.1 : Int) t, .int (p.2 : Int) t'].toArray
theorem Pair.keep {h h' : Heap} (k : TK h h') {v : Value} {e : Nat × Nat} (E : Pair h v e) : Pair h' v e := let ⟨a, t, t', q, i⟩ := E; ⟨a, t, t', q, k.tuple i⟩
theorem symOf_in : ∀ c ∈ [126, 38, 124, 32, 97, 65, 98, 66, 99, 67], symOf c ∈ [31, 19, 18, 255, 256, 257, 258, 0] := by decide
theorem mem_syms {x : Str} (ha : Al x) : ∀ z ∈ syms x, z ∈ [(31 : Int), 19, 18, 255, 256, 257, 258, 0] := by
  intro z hz
  rcases List.mem_append.mp hz with h | h
  · obtain ⟨c, hc, rfl⟩ := List.mem_map.mp h
    exact symOf_in c (ha c hc)
  · rw [List.mem_singleton] at h; subst h; decide
section
variable {w : World} {dp un : Nat} {fr : Option (List Env)} {gs : Option (List Code)} {s : Shared} {g r : Heap} {Q : Value → Shared → Prop} {E : Value → Shared → Prop}
inductive IvP (a L : Addr) (ks : List Value) (st : List (Nat × Nat) × Nat × Nat × Bool) (i : Nat) (r' : Heap) (sl' : List (Addr × Sp)) : Prop
  | mk (m : Str → Option Value) (p : Addr) (ys : List Value) (e : sl' = [(a, .lst ks), (L, Sp.ns m), (p, .lst ys)]) (h1 : m "products" = some (.ref p)) (h2 : ∃ t, m "yes" = some (.int (st.2.1 : Int) t))
    (h3 : ∃ t, m "no" = some (.int (st.2.2.1 : Int) t)) (h4 : m "turned" = some (.bool st.2.2.2)) (h5 : ys.length ≤ i) (h6 : All2 (Pair r') ys st.1)
theorem c_products (S : Sd w g r [] s.heap) (hd : dp + 10 < recursionLimit) (hun : un + 60 < cLine) (x : Str) (t : Tok) (hx : x.length ≤ 10000) (ha : Al x) (h : ∀ h' tk a ks, s.heap.StaysIn h' → s.heap.get? a = none →
     h'.PlainList a ks.toArray → All2 (Pair h') ks (parse (syms x)).1 → Q (.ref a) (at' s h' tk)) :
    wpAny (MD w) (AR dp un fr gs) (call (.ref 243) [.str x t]) Q E s := by
  refine' enterG S [("text", .str x t)] (fun y => if y = "text" then some (.str x t) else none) (fun _ => []) ?k6 ?k7 ?k8 ?k9 ?kB ?kD ?km ?kc ?_ ?c2 ?c3 ?c4
  walk_at "enter"
  rename But _ _ _ => hb
  walk_at "go"
  refine for_rule (fun _ => rfl) ?_
  walk_at "go"
  rename Sd _ _ _ _ _ => S₁
  refine' c_symbols S₁.nil ?_ _ _ hx ha ?_
  any_goals walk_at "om"
  intro h' tk' a ks kk hn hp hks
  have S₂ := S₁.add kk hn (x := .lst ks) hp
  clear S₁
  refine iter_list S₂ (S₂.get (x := .lst ks) (.head _)) rfl ?_
  intro I o h' T hst S₃
  clear S₂
  refine ⟨I, _, _, _, _, _, _, _, o, fun i r' sl' => IvP a _ ks (parse ((syms x).take i)) i r' sl', rfl, T, hst, S₃, ⟨_, _, _, rfl, by walk_at "lk", ⟨_, by walk_at "lk"⟩, ⟨_, by walk_at "lk"⟩, by walk_at "lk", Nat.le_refl _, trivial⟩, ?_, ?_, ?_⟩
  · rintro i r' sl' h' o' ⟨m, p, ys, rfl, _⟩ S₄
    exact Heap.PlainList.isList (S₄.get (x := .lst ks) (by walk_at "mm"))
  · rintro i v oI r' sl' h₂ tk₂ Post hP hi hv ⟨m, p, ys, rfl, hm1, ⟨t2, hm2⟩, ⟨t3, hm3⟩, hm4, hyl, hys⟩ S₄
    clear S₃
    obtain ⟨z, he, t4, rfl⟩ := hks.get hv
    have hyl2 : ys.length ≤ 10001 := by
      have e := hks.len
      rw [List.length_append, List.length_map] at e
      have : x.cps.toList.length ≤ 10000 := hx
      simp only [List.length_cons, List.length_nil] at e
      omega
    have hz := mem_syms ha z (List.mem_of_getElem? he)
    have hz2 := (by decide : ∀ z ∈ [(31 : Int), 19, 18, 255, 256, 257, 258, 0], (z = 256 ∨ z = 257 ∨ z = 258) ∨ (z = 0 ∨ z = 18) ∨ (z = 31 ∨ z = 19 ∨ z = 255)) z hz
    have hnext : parse ((syms x).take (i + 1)) = pstep (parse ((syms x).take i)) z := by rw [take_next he, parse_snoc]
    generalize parse (List.take i (syms x)) = st at hm2 hm3 hm4 hys hnext
    obtain ⟨ps, y, n, tn⟩ := st
    dsimp only at hm2 hm3 hm4 hys
    simp only [List.mem_cons, List.not_mem_nil, or_false] at hz
    walk_at "go"
    rename Sd _ _ _ _ _ => S₅
    refine' c_isn S₅.nil ?_ z _ ?_
    any_goals walk_at "om"
    intro h' tk' kk
    walk_at "pure"
    rename Sd _ _ _ _ _ => S₆
    obtain hz | hz | hz := hz2
    · rw [show decide (256 ≤ z) = true by rw [decide_eq_true_eq]; omega]
      obtain rfl | rfl | rfl := hz
      all_goals walk_at "go"
      all_goals (rename Sd _ _ _ _ _ => S₇)
      all_goals (refine hP .next _ <| turn_end S₇ (sl' := [(a, .lst ks), (_, .ns _), (p, .lst ys)]) (by walk_at "pp") ?_)
      all_goals (try dsimp only)
      all_goals (rw [hnext]; clear hnext)
      all_goals first
        | (obtain rfl : tn = true := by assumption
           refine ⟨_, _, _, rfl, by walk_at "lk", ⟨_, by walk_at "lk"⟩, mkI (by walk_at "lk") (bitOr_pow n _), by walk_at "lk", Nat.le_succ_of_le hyl, hys⟩)
        | (obtain rfl : tn = false := by assumption
           refine ⟨_, _, _, rfl, by walk_at "lk", mkI (by walk_at "lk") (bitOr_pow y _), ⟨_, by walk_at "lk"⟩, by walk_at "lk", Nat.le_succ_of_le hyl, hys⟩)
    · rw [show decide (256 ≤ z) = false by rw [decide_eq_false_iff_not]; omega]
      walk_at "go"
      rename Sd _ _ _ _ _ => S₇
      refine' c_iseof S₇.nil ?_ z _ ?_
      any_goals walk_at "om"
      intro h' tk' kk
      walk_at "pure"
      rename Sd _ _ _ _ _ => S₈
      obtain rfl | rfl := hz
      all_goals walk_at "go"
      all_goals (rename Sd _ _ _ _ _ => S₇)
      all_goals (rename Sd _ _ _ _ _ => S₇)
      all_goals (have S₈ := (S₇.anchor.perm pm2).drop)
      all_goals (refine hP .next _ <| turn_end S₈ (sl' := [(a, .lst ks), (_, .ns _), (p, .lst _)]) (by walk_at "pp") ?_)
      all_goals (try dsimp only)
      all_goals (replace hnext := hnext.trans (b := pstep (ps, y, n, tn) _) (c := (ps ++ [(y, n)], 0, 0, tn)) rfl; rw [hnext]; clear hnext)
      all_goals (refine ⟨_, _, _, rfl, by walk_at "lk", ⟨_, by walk_at "lk"⟩, ⟨_, by walk_at "lk"⟩, by walk_at "lk", by simpa using hyl, ?_⟩)
      all_goals exact (All2.imp (fun _ _ => Pair.keep S₇.tk) hys).snoc ⟨_, _, _, rfl, S₇.get (x := .tup _) (by walk_at "mm")⟩
    · rw [show decide (256 ≤ z) = false by rw [decide_eq_false_iff_not]; omega]
      walk_at "go"
      rename Sd _ _ _ _ _ => S₇
      refine' c_iseof S₇.nil ?_ z _ ?_
      any_goals walk_at "om"
      intro h' tk' kk
      walk_at "pure"
      rename Sd _ _ _ _ _ => S₈
      obtain rfl | rfl | rfl := hz
      all_goals walk_at "go"
      all_goals (rename Sd _ _ _ _ _ => S₇)
      all_goals (rename Sd _ _ _ _ _ => S₇)
      all_goals (refine hP .next _ <| turn_end S₇ (sl' := [(a, .lst ks), (_, .ns _), (p, .lst _)]) (by walk_at "pp") ?_)
      all_goals (try dsimp only)
      all_goals (rw [hnext]; clear hnext)
      all_goals (refine ⟨_, _, _, rfl, by walk_at "lk", ⟨_, by walk_at "lk"⟩, ⟨_, by walk_at "lk"⟩, by walk_at "lk", Nat.le_succ_of_le hyl, hys⟩)
  · rintro r' sl' h₂ tk₂ ⟨m, p, ys, rfl, hm1, ⟨t2, hm2⟩, ⟨t3, hm3⟩, hm4, hyl, hys⟩ S₄
    clear S₃
    rw [List.take_of_length_le (by rw [← hks.len]; exact Nat.le_refl _)] at hys
    walk_at "go"
    have k₂ := S₄.keep
    exact h _ _ p ys (stays S₄ hb) (none_of hb.nil (S₄.nw (p, .lst ys) (by walk_at "mm"))) (S₄.get (x := .lst ys) (by walk_at "mm")) (All2.imp (fun _ _ => Pair.keep S₄.tk) hys)
end
end Mine
namespace Mine
/-- a literal: its name's place; does it stand behind a ~; is its letter great -/
noncomputable abbrev Lit := Fin 3 × Bool × Bool
noncomputable def litL (l : Lit) : List Nat := if l.2.1 = true then [126, (if l.2.2 = true then 65 else 97) + l.1.val] else [(if l.2.2 = true then 65 else 97) + l.1.val]
noncomputable def litS (l : Lit) : Str := ⟨(litL l).toArray⟩
noncomputable def rendL : List Lit → List Nat
  | [] => []
  | [l] => litL l
  | l :: r => litL l ++ 38 :: rendL r
noncomputable def rend (ls : List Lit) : Str := ⟨(rendL ls).toArray⟩
noncomputable def barL : List (List Nat) → List Nat
  | [] => []
  | [t] => t
  | t :: r => t ++ 32 :: 124 :: 32 :: barL r
theorem join_rend : ∀ ls : List Lit, Str.join (Str.ofString "&") (ls.map litS) = rend ls
  | [] => rfl
  | [l] => rfl
  | l :: k :: r => by
    have ih := join_rend (k :: r)
    show litS l ++ Str.ofString "&" ++ Str.join (Str.ofString "&") ((k :: r).map litS) = _
    rw [ih]
    show (⟨(litL l).toArray ++ (Str.ofString "&").cps ++ (rendL (k :: r)).toArray⟩ : Str) = ⟨(litL l ++ 38 :: rendL (k :: r)).toArray⟩
    rw [show (Str.ofString "&").cps = [38].toArray from rfl]
    simp
theorem join_bar : ∀ ts : List Str, Str.join (Str.ofString " | ") ts = ⟨(barL (ts.map (·.cps.toList))).toArray⟩
  | [] => rfl
  | [t] => rfl
  | t :: k :: r => by
    have ih := join_bar (k :: r)
    show t ++ Str.ofString " | " ++ Str.join (Str.ofString " | ") (k :: r) = _
    rw [ih]
    show (⟨t.cps ++ (Str.ofString " | ").cps ++ (barL ((k :: r).map (·.cps.toList))).toArray⟩ : Str) = ⟨(t.cps.toList ++ 32 :: 124 :: 32 :: barL ((k :: r).map (·.cps.toList))).toArray⟩
    rw [show (Str.ofString " | ").cps = [32, 124, 32].toArray from rfl]
    congr 1
    apply Array.toList_inj.mp
    simp
noncomputable def addL (yn : Nat × Nat) (l : Lit) : Nat × Nat := if l.2.1 = true then (yn.1, yn.2 ||| 2 ^ l.1.val) else (yn.1 ||| 2 ^ l.1.val, yn.2)
noncomputable def prodL (ls : List Lit) : Nat × Nat := ls.foldl addL (0, 0)
theorem fold_lit (ps : List (Nat × Nat)) (y n : Nat) (l : Lit) : ((litL l).map symOf).foldl pstep (ps, y, n, false) = (ps, (addL (y, n) l).1, (addL (y, n) l).2, false) := by
  obtain ⟨i, b, c⟩ := l
  have : i = 0 ∨ i = 1 ∨ i = 2 := by omega
  obtain rfl | rfl | rfl := this <;> cases b <;> cases c <;> rfl
theorem fold_rend (ps : List (Nat × Nat)) : ∀ (ls : List Lit) (y n : Nat), ((rendL ls).map symOf).foldl pstep (ps, y, n, false) = (ps, (ls.foldl addL (y, n)).1, (ls.foldl addL (y, n)).2, false)
  | [], y, n => rfl
  | [l], y, n => fold_lit ps y n l
  | l :: k :: r, y, n => by
    show ((litL l ++ 38 :: rendL (k :: r)).map symOf).foldl pstep (ps, y, n, false) = _
    rw [List.map_append, List.foldl_append, fold_lit, List.map_cons, List.foldl_cons]
    exact fold_rend ps (k :: r) _ _
theorem fold_bar : ∀ (ts : List (List Lit)) (t : List Lit) (ps : List (Nat × Nat)), (((barL ((t :: ts).map rendL)).map symOf ++ [0]).foldl pstep (ps, 0, 0, false)).1 = ps ++ (t :: ts).map prodL
  | [], t, ps => by
    show (((rendL t).map symOf ++ [0]).foldl pstep (ps, 0, 0, false)).1 = _
    rw [List.foldl_append, fold_rend]
    rfl
  | k :: r, t, ps => by
    show (((rendL t ++ 32 :: 124 :: 32 :: barL ((k :: r).map rendL)).map symOf ++ [0]).foldl pstep (ps, 0, 0, false)).1 = _
    rw [List.map_append, List.append_assoc, List.foldl_append, fold_rend, List.map_cons, List.map_cons, List.map_cons]
    show (((barL ((k :: r).map rendL)).map symOf ++ [0]).foldl pstep (ps ++ [prodL t], 0, 0, false)).1 = _
    rw [fold_bar r k, List.append_assoc]
    rfl
noncomputable def has (ls : List Lit) (i : Fin 3) (s : Bool) : Bool := ls.any fun l => l.1 == i && l.2.1 == s
noncomputable def mask (ls : List Lit) (s : Bool) : Nat := (if has ls 0 s = true then 1 else 0) + (if has ls 1 s = true then 2 else 0) + (if has ls 2 s = true then 4 else 0)
theorem mask_cons (l : Lit) (r : List Lit) (s : Bool) : mask (l :: r) s = (if l.2.1 = s then 2 ^ l.1.val else 0) ||| mask r s := by
  have e : ∀ i, has (l :: r) i s = ((l.1 == i && l.2.1 == s) || has r i s) := fun i => rfl
  simp only [mask, e]
  clear e
  generalize has r 0 s = b0
  generalize has r 1 s = b1
  generalize has r 2 s = b2
  obtain ⟨i, b, c⟩ := l
  revert i b c s b0 b1 b2
  decide
theorem fold_mask : ∀ (ls : List Lit) (y n : Nat), ls.foldl addL (y, n) = (y ||| mask ls false, n ||| mask ls true)
  | [], y, n => by simp [mask, has]
  | l :: r, y, n => by
    rw [List.foldl_cons, mask_cons, mask_cons]
    obtain ⟨i, b, c⟩ := l
    cases b
    · show r.foldl addL (y ||| 2 ^ i.val, n) = _
      rw [fold_mask r]
      simp [Nat.or_assoc]
    · show r.foldl addL (y, n ||| 2 ^ i.val) = _
      rw [fold_mask r]
      simp [Nat.or_assoc]
/-- a text's literals, and its product -/
noncomputable def LP (ls : List Lit) (p : Pr) : Prop := ls.length ≤ 6 ∧ ∀ i : Fin 3, ∀ s, has ls i s = (fg p i.val == if s = true then 2 else 1)
theorem LP.prod {ls : List Lit} {p : Pr} (h : LP ls p) : prodL ls = (yOf p, nOf p) := by
  have e : mask ls false = yOf p ∧ mask ls true = nOf p := by
    have key : ∀ p : Pr, ((if (fg p 0 == 1) = true then 1 else 0) + (if (fg p 1 == 1) = true then 2 else 0) + (if (fg p 2 == 1) = true then 4 else 0) = yOf p) ∧ ((if (fg p 0 == 2) = true then 1 else 0) + (if (fg p 1 == 2) = true then 2 else 0) + (if (fg p 2 == 2) = true then 4 else 0) = nOf p) := by decide +kernel
    simp only [mask, h.2]
    exact key p
  show ls.foldl addL (0, 0) = _
  rw [fold_mask, e.1, e.2]; simp
noncomputable def jstep (i : Fin 3) (acc : List Lit) (l : Lit) : List Lit := if l.1 = i ∨ has acc l.1 l.2.1 = true then acc else acc ++ [l]
noncomputable def joinL (i : Fin 3) (ls : List Lit) : List Lit := ls.foldl (jstep i) []
theorem has_append (a b : List Lit) (i : Fin 3) (s : Bool) : has (a ++ b) i s = (has a i s || has b i s) := List.any_append
theorem has_step (i : Fin 3) (acc : List Lit) (l : Lit) (j : Fin 3) (s : Bool) : has (jstep i acc l) j s = (has acc j s || (j != i && (l.1 == j && l.2.1 == s))) := by
  unfold jstep
  by_cases h : l.1 = i ∨ has acc l.1 l.2.1 = true
  · rw [if_pos h]
    cases e : (j != i && (l.1 == j && l.2.1 == s)) with
    | false => rw [Bool.or_false]
    | true =>
      simp only [Bool.and_eq_true, bne_iff_ne, beq_iff_eq] at e
      obtain ⟨e1, e2, e3⟩ := e
      rcases h with h | h
      · exact absurd (e2.symm.trans h) e1
      · rw [← e2, ← e3, h]; rfl
  · rw [if_neg h, has_append]
    have h1 : l.1 ≠ i := fun e => h (.inl e)
    congr 1
    show (l.1 == j && l.2.1 == s || false) = _
    rw [Bool.or_false]
    cases e : (l.1 == j && l.2.1 == s) with
    | false => rw [Bool.and_false]
    | true =>
      simp only [Bool.and_eq_true, beq_iff_eq] at e
      rw [← e.1]; simp [h1]
theorem has_fold (i : Fin 3) (j : Fin 3) (s : Bool) : ∀ (ls acc : List Lit), has (ls.foldl (jstep i) acc) j s = (has acc j s || (j != i && has ls j s))
  | [], acc => by simp [has]
  | l :: r, acc => by
    rw [List.foldl_cons, has_fold i j s r, has_step]
    show _ = (has acc j s || (j != i && ((l.1 == j && l.2.1 == s) || has r j s)))
    cases has acc j s <;> cases (j != i) <;> cases (l.1 == j && l.2.1 == s) <;> cases has r j s <;> rfl
noncomputable abbrev kind (l : Lit) : Fin 3 × Bool := (l.1, l.2.1)
theorem has_kind (ls : List Lit) (l : Lit) : has ls l.1 l.2.1 = true ↔ kind l ∈ ls.map kind := by
  simp [has, kind]
theorem step_nodup (i : Fin 3) (acc : List Lit) (l : Lit) (h : (acc.map kind).Nodup) : ((jstep i acc l).map kind).Nodup := by
  unfold jstep
  by_cases k : l.1 = i ∨ has acc l.1 l.2.1 = true
  · rw [if_pos k]; exact h
  · rw [if_neg k, List.map_append]
    refine List.nodup_append.mpr ⟨h, by simp, fun a ha b hb e => ?_⟩
    simp only [List.map_cons, List.map_nil, List.mem_singleton] at hb
    rw [e, hb] at ha
    exact k (.inr ((has_kind _ _).mpr ha))
theorem fold_nodup (i : Fin 3) : ∀ (ls acc : List Lit), (acc.map kind).Nodup → ((ls.foldl (jstep i) acc).map kind).Nodup
  | [], _, h => h
  | l :: r, acc, h => fold_nodup i r _ (step_nodup i acc l h)
theorem kinds_le {l : List (Fin 3 × Bool)} (h : l.Nodup) : l.length ≤ 6 := by
  have hp : l.Perm ([(0, false), (0, true), (1, false), (1, true), (2, false), (2, true)].filter fun q => l.contains q) :=
    (List.perm_ext_iff_of_nodup h ((by decide : ([(0, false), (0, true), (1, false), (1, true), (2, false), (2, true)] : List (Fin 3 × Bool)).Nodup).filter _)).mpr fun a => by
      have : a ∈ ([(0, false), (0, true), (1, false), (1, true), (2, false), (2, true)] : List (Fin 3 × Bool)) := by
        obtain ⟨i, b⟩ := a
        revert i b; decide
      simp only [List.mem_filter, this, List.contains_iff_mem, true_and]
  have := List.length_filter_le (fun q => l.contains q) ([(0, false), (0, true), (1, false), (1, true), (2, false), (2, true)] : List (Fin 3 × Bool))
  rw [← hp.length_eq] at this
  exact this
theorem joinL_len (i : Fin 3) (ls : List Lit) : (joinL i ls).length ≤ 6 := by
  have := kinds_le (fold_nodup i ls [] List.nodup_nil)
  rwa [List.length_map] at this
theorem cn_fg : ∀ p q : Pr, one (cl p q) = true → ∀ i : Fin 3, cl p q = 2 ^ i.val → ∀ j : Fin 3, ∀ s : Bool, (fg (cn p q) j.val == if s = true then 2 else 1) = (j != i && ((fg p j.val == if s = true then 2 else 1) || (fg q j.val == if s = true then 2 else 1))) := by decide +kernel
theorem LP.join {a b : List Lit} {p q : Pr} (ha : LP a p) (hb : LP b q) (i : Fin 3) (h1 : one (cl p q) = true) (hi : cl p q = 2 ^ i.val) : LP (joinL i (a ++ b)) (cn p q) :=
  ⟨joinL_len i _, fun j s => by
    rw [joinL, has_fold, has_append, ha.2, hb.2, cn_fg p q h1 i hi j s]; rfl⟩
theorem LP.ne {a : List Lit} {p : Pr} (ha : LP a p) (h : p ≠ 0) : a ≠ [] := by
  rintro rfl
  have : ∀ p : Pr, (∀ i : Fin 3, ∀ s : Bool, false = (fg p i.val == if s = true then 2 else 1)) → p = 0 := by decide +kernel
  exact h (this p fun i s => ha.2 i s)
theorem cl_ne : ∀ p q : Pr, one (cl p q) = true → p ≠ 0 ∧ q ≠ 0 := by decide +kernel
theorem litL_in : ∀ l : Lit, (∀ c ∈ litL l, c ∈ [126, 97, 65, 98, 66, 99, 67]) ∧ (litL l).length ≤ 2 ∧ litL l ≠ [] ∧ (38 : Nat) ∉ litL l := by
  rintro ⟨i, b, c⟩
  revert i b c
  decide +kernel
theorem rendL_in : ∀ ls : List Lit, ∀ c ∈ rendL ls, c ∈ [126, 38, 97, 65, 98, 66, 99, 67]
  | [], c, h => absurd h List.not_mem_nil
  | [l], c, h => by
    have := (litL_in l).1 c h
    simp only [List.mem_cons, List.not_mem_nil, or_false] at this ⊢; omega
  | l :: k :: r, c, h => by
    rcases List.mem_append.mp h with h | h
    · have := (litL_in l).1 c h
      simp only [List.mem_cons, List.not_mem_nil, or_false] at this ⊢; omega
    · rcases List.mem_cons.mp h with rfl | h
      · decide
      · exact rendL_in (k :: r) c h
theorem rendL_len : ∀ ls : List Lit, (rendL ls).length ≤ 3 * ls.length
  | [] => Nat.le_refl _
  | [l] => by have := (litL_in l).2.1; show (litL l).length ≤ 3; omega
  | l :: k :: r => by
    have := (litL_in l).2.1
    have ih := rendL_len (k :: r)
    show (litL l ++ 38 :: rendL (k :: r)).length ≤ _
    rw [List.length_append, List.length_cons]
    simp only [List.length_cons] at ih ⊢
    omega
theorem Al_rend (ls : List Lit) : Al (rend ls) := fun c hc => (by decide : ∀ c ∈ [126, 38, 97, 65, 98, 66, 99, 67], c ∈ [126, 38, 124, 32, 97, 65, 98, 66, 99, 67]) c (rendL_in ls c (by simpa [rend] using hc))
theorem Plain_rend (ls : List Lit) : Plain (rend ls) := fun c hc => (by decide : ∀ c ∈ [126, 38, 97, 65, 98, 66, 99, 67], 32 ≤ c ∧ c < 127) c (rendL_in ls c (by simpa [rend] using hc))
theorem rend_len (ls : List Lit) : (rend ls).length ≤ 3 * ls.length := by
  show (rendL ls).toArray.size ≤ _
  rw [List.size_toArray]; exact rendL_len ls
theorem LP.len {ls : List Lit} {p : Pr} (h : LP ls p) : (rend ls).length ≤ 18 := Nat.le_trans (rend_len ls) (by have := h.1; omega)
noncomputable def bar (ts : List Str) : Str := Str.join (Str.ofString " | ") ts
theorem barL_in : ∀ ts : List (List Nat), (∀ t ∈ ts, ∀ c ∈ t, c ∈ [126, 38, 124, 32, 97, 65, 98, 66, 99, 67]) → ∀ c ∈ barL ts, c ∈ [126, 38, 124, 32, 97, 65, 98, 66, 99, 67]
  | [], _, c, h => absurd h List.not_mem_nil
  | [t], k, c, h => k t (.head _) c h
  | t :: u :: r, k, c, h => by
    rcases List.mem_append.mp h with h | h
    · exact k t (.head _) c h
    · rcases List.mem_cons.mp h with rfl | h
      · decide
      rcases List.mem_cons.mp h with rfl | h
      · decide
      rcases List.mem_cons.mp h with rfl | h
      · decide
      · exact barL_in (u :: r) (fun t ht => k t (.tail _ ht)) c h
theorem barL_len (m : Nat) : ∀ ts : List (List Nat), (∀ t ∈ ts, t.length ≤ m) → (barL ts).length ≤ (m + 3) * ts.length
  | [], _ => Nat.zero_le _
  | [t], k => by have := k t (.head _); show t.length ≤ (m + 3) * 1; omega
  | t :: u :: r, k => by
    have h1 := k t (.head _)
    have ih := barL_len m (u :: r) fun t ht => k t (.tail _ ht)
    show (t ++ 32 :: 124 :: 32 :: barL (u :: r)).length ≤ (m + 3) * ((u :: r).length + 1)
    rw [List.length_append, List.length_cons, List.length_cons, List.length_cons, Nat.mul_add]
    omega
theorem bar_rend (lss : List (List Lit)) : (bar (lss.map rend)).cps.toList = barL (lss.map rendL) := by
  show (Str.join (Str.ofString " | ") (lss.map rend)).cps.toList = _
  rw [join_bar, List.map_map]
  show barL (lss.map fun ls => (rend ls).cps.toList) = _
  congr 1
theorem bar_Al (lss : List (List Lit)) : Al (bar (lss.map rend)) := fun c hc => by
  rw [bar_rend] at hc
  refine barL_in _ (fun t ht c hc => ?_) c hc
  obtain ⟨ls, _, rfl⟩ := List.mem_map.mp ht
  exact Al_rend ls c (by simpa [rend] using hc)
theorem bar_parse (t : List Lit) (ts : List (List Lit)) : (parse (syms (bar ((t :: ts).map rend)))).1 = (t :: ts).map prodL := by
  show (((bar ((t :: ts).map rend)).cps.toList.map symOf ++ [0]).foldl pstep ([], 0, 0, false)).1 = _
  rw [bar_rend, fold_bar]; rfl
theorem bar_len (lss : List (List Lit)) (h : ∀ ls ∈ lss, ls.length ≤ 6) : (bar (lss.map rend)).length ≤ 21 * lss.length := by
  have e : (bar (lss.map rend)).length = (bar (lss.map rend)).cps.toList.length := rfl
  rw [e, bar_rend]
  have := barL_len 18 (lss.map rendL) fun t ht => by
    obtain ⟨ls, hm, rfl⟩ := List.mem_map.mp ht
    have := rendL_len ls
    have := h ls hm
    omega
  rwa [List.length_map] at this
/-- the parts between the & are the literals -/
theorem cut_inj (c : Nat) : ∀ (x x' r r' : List Nat), c ∉ x → c ∉ x' → x ++ c :: r = x' ++ c :: r' → x = x' ∧ r = r'
  | [], [], r, r', _, _, e => ⟨rfl, (List.cons.inj e).2⟩
  | [], a :: x', r, r', _, h', e => absurd ((List.cons.inj e).1 ▸ List.Mem.head _) h'
  | a :: x, [], r, r', h, _, e => absurd ((List.cons.inj e).1 ▸ List.Mem.head _) h
  | a :: x, b :: x', r, r', h, h', e => by
    obtain ⟨e1, e2⟩ := List.cons.inj e
    obtain ⟨e3, e4⟩ := cut_inj c x x' r r' (fun m => h (.tail _ m)) (fun m => h' (.tail _ m)) e2
    exact ⟨by rw [e1, e3], e4⟩
theorem join_inj (c : Nat) : ∀ (a b : List Str), (∀ p ∈ a, c ∉ p.cps.toList) → (∀ p ∈ b, c ∉ p.cps.toList) → a ≠ [] → b ≠ [] → Str.join ⟨#[c]⟩ a = Str.join ⟨#[c]⟩ b → a = b
  | [], _, _, _, h, _, _ => absurd rfl h
  | _ :: _, [], _, _, _, h, _ => absurd rfl h
  | [x], [y], _, _, _, _, e => by
    have e' : x = y := e
    rw [e']
  | [x], y :: z :: r, h, _, _, _, e => by
    have e' : x.cps.toList = y.cps.toList ++ c :: (Str.join ⟨#[c]⟩ (z :: r)).cps.toList := by
      have : x = y ++ ⟨#[c]⟩ ++ Str.join ⟨#[c]⟩ (z :: r) := e
      rw [this]
      show (y.cps ++ #[c] ++ (Str.join ⟨#[c]⟩ (z :: r)).cps).toList = _
      simp
    exact absurd (by rw [e']; simp) (h x (.head _))
  | y :: z :: r, [x], _, h, _, _, e => by
    have e' : x.cps.toList = y.cps.toList ++ c :: (Str.join ⟨#[c]⟩ (z :: r)).cps.toList := by
      have : y ++ ⟨#[c]⟩ ++ Str.join ⟨#[c]⟩ (z :: r) = x := e
      rw [← this]
      show (y.cps ++ #[c] ++ (Str.join ⟨#[c]⟩ (z :: r)).cps).toList = _
      simp
    exact absurd (by rw [e']; simp) (h x (.head _))
  | x :: z :: r, y :: u :: q, h, h', _, _, e => by
    have e1 : ∀ (y z : Str) (r : List Str), (Str.join ⟨#[c]⟩ (y :: z :: r)).cps.toList = y.cps.toList ++ c :: (Str.join ⟨#[c]⟩ (z :: r)).cps.toList := fun y z r => by
      show (y.cps ++ #[c] ++ (Str.join ⟨#[c]⟩ (z :: r)).cps).toList = _
      simp
    have e2 := congrArg (fun s : Str => s.cps.toList) e
    simp only [e1] at e2
    obtain ⟨e3, e4⟩ := cut_inj c _ _ _ _ (h x (.head _)) (h' y (.head _)) e2
    have ex : ∀ a b : Str, a.cps.toList = b.cps.toList → a = b := fun a b e => by
      obtain ⟨a⟩ := a; obtain ⟨b⟩ := b
      exact congrArg Str.mk (Array.toList_inj.mp e)
    rw [ex _ _ e3, join_inj c (z :: r) (u :: q) (fun p hp => h p (.tail _ hp)) (fun p hp => h' p (.tail _ hp)) (by simp) (by simp) (ex _ _ e4)]
theorem split_rend (ls : List Lit) (h : ls ≠ []) : Txt.split (rend ls) (Str.ofString "&") = ls.map litS := by
  refine join_inj 38 _ _ (StrLaws.split_free (rend ls) 38) (fun p hp => ?_) (fun e => ?_) (by simpa using h) ?_
  · obtain ⟨l, _, rfl⟩ := List.mem_map.mp hp
    simpa [litS] using (litL_in l).2.2.2
  · have := split_pos (rend ls) (Str.ofString "&")
    have e' : Txt.split (rend ls) (Str.ofString "&") = [] := e
    rw [e'] at this; exact absurd this (by decide)
  · have e1 := StrLaws.join_split (rend ls) (Str.ofString "&")
    have e2 := join_rend ls
    exact e1.trans e2.symm
end Mine
namespace Mine
/-- a drawn number's product -/
noncomputable def prX (x : Int) : Pr := ⟨(Int.fmod x 26 + 1).toNat % 27, Nat.mod_lt _ (by decide)⟩
theorem fmod26 (x : Int) : 0 ≤ Int.fmod x 26 ∧ Int.fmod x 26 < 26 := ⟨by rw [Int.fmod_eq_emod_of_nonneg _ (by decide)]; omega, Int.fmod_lt_of_pos _ (by decide)⟩
theorem figs_of (x : Int) : Int.fmod (Int.fdiv (Int.fmod x 26 + 1) 1) 3 = (fg (prX x) 0 : Nat) ∧ Int.fmod (Int.fdiv (Int.fmod x 26 + 1) 3) 3 = (fg (prX x) 1 : Nat) ∧ Int.fmod (Int.fdiv (Int.fmod x 26 + 1) 9) 3 = (fg (prX x) 2 : Nat) := by
  have key : ∀ k : Fin 26, Int.fmod (Int.fdiv ((k.val : Int) + 1) 1) 3 = (fg (⟨((k.val : Int) + 1).toNat % 27, Nat.mod_lt _ (by decide)⟩ : Pr) 0 : Nat) ∧ Int.fmod (Int.fdiv ((k.val : Int) + 1) 3) 3 = (fg (⟨((k.val : Int) + 1).toNat % 27, Nat.mod_lt _ (by decide)⟩ : Pr) 1 : Nat) ∧ Int.fmod (Int.fdiv ((k.val : Int) + 1) 9) 3 = (fg (⟨((k.val : Int) + 1).toNat % 27, Nat.mod_lt _ (by decide)⟩ : Pr) 2 : Nat) := by decide +kernel
  obtain ⟨h0, h1⟩ := fmod26 x
  obtain ⟨k, hk⟩ := Int.eq_ofNat_of_zero_le h0
  have e : prX x = ⟨((k : Int) + 1).toNat % 27, Nat.mod_lt _ (by decide)⟩ := Fin.ext (by show (Int.fmod x 26 + 1).toNat % 27 = _; rw [hk])
  rw [e, hk]
  exact key ⟨k, by omega⟩
theorem prX_ne (x : Int) : prX x ≠ 0 := by
  obtain ⟨h0, h1⟩ := fmod26 x
  intro e
  have := congrArg Fin.val e
  have e2 : (Int.fmod x 26 + 1).toNat % 27 = 0 := this
  omega
theorem fg_lt (p : Pr) (i : Nat) : fg p i = 0 ∨ fg p i = 1 ∨ fg p i = 2 := by
  have : fg p i < 3 := Nat.mod_lt _ (by decide)
  omega
theorem ints3 {ks : List Value} {a b c : Int} (h : All2 IsInt ks [a, b, c]) : ∃ t0 t1 t2, ks = [.int a t0, .int b t1, .int c t2] := by
  match ks, h with
  | [x, y, z], h =>
    obtain ⟨⟨t0, rfl⟩, ⟨t1, rfl⟩, ⟨t2, rfl⟩, _⟩ := h
    exact ⟨t0, t1, t2, rfl⟩
/-- the literals of the first i places -/
noncomputable def LPi (ls : List Lit) (p : Pr) (i : Nat) : Prop := ls.length ≤ i ∧ ∀ j : Fin 3, ∀ s, has ls j s = (decide (j.val < i) && (fg p j.val == if s = true then 2 else 1))
theorem LPi.skip {ls : List Lit} {p : Pr} {i : Nat} (h : LPi ls p i) (h0 : fg p i = 0) : LPi ls p (i + 1) :=
  ⟨Nat.le_succ_of_le h.1, fun j s => by
    rw [h.2]
    by_cases e : j.val = i
    · rw [e, h0]; cases s <;> simp
    · rw [show decide (j.val < i + 1) = decide (j.val < i) from decide_eq_decide.mpr (by omega)]⟩
theorem LPi.more {ls : List Lit} {p : Pr} {i : Fin 3} (h : LPi ls p i.val) (b c : Bool) (h0 : fg p i.val = if b = true then 2 else 1) : LPi (ls ++ [(i, b, c)]) p (i.val + 1) :=
  ⟨by simpa using h.1, fun j s => by
    rw [has_append, h.2]
    show (_ || ((i == j && b == s) || false)) = _
    rw [Bool.or_false]
    by_cases e : j = i
    · subst e
      rw [h0]
      cases b <;> cases s <;> simp
    · have e' : j.val ≠ i.val := fun q => e (Fin.ext q)
      rw [show decide (j.val < i.val + 1) = decide (j.val < i.val) from decide_eq_decide.mpr (by omega)]
      rw [show (i == j) = false from beq_eq_false_iff_ne.mpr (Ne.symm e)]
      simp⟩
theorem LPi.whole {ls : List Lit} {p : Pr} (h : LPi ls p 3) : LP ls p :=
  ⟨Nat.le_trans h.1 (by decide), fun j s => by rw [h.2]; simp⟩
theorem lits_sum : ∀ ls : List Lit, ((List.map litS ls).map (·.length)).sum ≤ 2 * ls.length
  | [] => Nat.le_refl _
  | l :: r => by
    have ih := lits_sum r
    have : (litS l).length ≤ 2 := by show (litL l).toArray.size ≤ 2; rw [List.size_toArray]; exact (litL_in l).2.1
    simp only [List.map_cons, List.sum_cons, List.length_cons]
    omega
theorem isStr' {x y : Str} {t : Tok} (e : x = y) : IsStr (.str x t) y := ⟨t, by rw [e]⟩
section
variable {w : World} {dp un : Nat} {fr : Option (List Env)} {gs : Option (List Code)} {s : Shared} {g r : Heap} {Q : Value → Shared → Prop} {E : Value → Shared → Prop}
theorem c_text (S : Sd w g r [] s.heap) (hd : dp + 15 < recursionLimit) (hun : un + 100 < cLine) (x : Int) (t : Tok) (h : ∀ h' tk ls t', s.heap.StaysIn h' → LP ls (prX x) → Q (.str (rend ls) t') (at' s h' tk)) :
    wpAny (MD w) (AR dp un fr gs) (call (.ref 229) [.int x t]) Q E s := by
  refine' enterG S [("x", .int x t)] (fun y => if y = "x" then some (.int x t) else none) (fun _ => []) ?k6 ?k7 ?k8 ?k9 ?kB ?kD ?km ?kc ?_ ?c2 ?c3 ?c4
  walk_at "enter"
  rename But _ _ _ => hb
  walk_at "go"
  rename Sd _ _ _ _ _ => S₁
  refine' c_figures S₁.nil ?_ ?_ x _ ?_
  any_goals walk_at "om"
  intro h' tk' a ks kk hn hp hks
  have S₂ := S₁.add kk hn (x := .lst ks) hp
  clear S₁
  obtain ⟨e0, e1, e2⟩ := figs_of x
  rw [e0, e1, e2] at hks
  obtain ⟨t0, t1, t2, rfl⟩ := ints3 hks
  clear hks e0 e1 e2
  walk_at "go"
  refine for_rule (fun _ => rfl) ?_
  walk_at "go"
  rename Sd _ _ _ _ _ => S₁
  refine it_rangeS (n := 3) S₁ (by walk_at "mm") (by decide) rfl ?_
  intro I o h' T hst S₂
  clear S₁
  generalize hp' : prX x = p at *
  refine ⟨I, _, _, _, _, _, _, _, o, fun i r' sl' => r' = s.heap ∧ ∃ m q ys ls, sl' = [(_, .ob _), (_, Sp.ns m), (q, .lst ys), (a, .lst [.int (fg p 0 : Nat) t0, .int (fg p 1 : Nat) t1, .int (fg p 2 : Nat) t2])] ∧ m "literals" = some (.ref q) ∧ m "figures" = some (.ref a) ∧ m "x" = some (.int x t) ∧ ys.length ≤ i ∧ Strs ys (List.map litS ls) ∧ LPi ls p i, rfl, T, hst, S₂, ⟨rfl, _, _, _, [], rfl, by walk_at "lk", by walk_at "lk", by walk_at "lk", Nat.le_refl _, by trivial, Nat.le_refl _, fun j s => by simp [has]⟩, fun _ _ _ _ _ _ _ => trivial, ?_, ?_⟩
  · rintro i v oI r' sl' h₂ tk₂ Post hP hi hv ⟨rfl, m, q, ys, ls, rfl, hm1, hm2, hm3, hyl, hys, hls⟩ S₃
    clear S₂
    have hyl2 : ys.length ≤ 10 := by omega
    obtain ⟨t₅, rfl⟩ := hv
    obtain rfl | rfl | rfl : i = 0 ∨ i = 1 ∨ i = 2 := by omega
    · generalize hf : fg p 0 = f at *
      have hf3 := fg_lt p 0
      rw [hf] at hf3
      obtain rfl | rfl | rfl := hf3
      · walk_at "go"
        rename Sd _ _ _ _ _ => S₄
        refine hP .next _ <| turn_end S₄ (sl' := [(_, .ob _), (_, .ns _), (q, .lst _), (a, .lst _)]) (by walk_at "pp") ?_
        (try dsimp only)
        exact ⟨rfl, _, _, _, ls, rfl, by walk_at "lk", by walk_at "lk", by walk_at "lk", Nat.le_succ_of_le hyl, hys, hls.skip hf⟩
      · walk_at "go"
        · rename Sd _ _ _ _ _ => S₄
          refine hP .next _ <| turn_end S₄ (sl' := [(_, .ob _), (_, .ns _), (q, .lst _), (a, .lst _)]) (by walk_at "pp") ?_
          (try dsimp only)
          refine ⟨rfl, _, _, _, ls ++ [(0, false, true)], rfl, by walk_at "lk", by walk_at "lk", by walk_at "lk", by simpa using hyl, ?_, hls.more (i := 0) false true hf⟩
          rw [List.map_append]
          exact hys.snoc (isStr' (by decide +kernel))
        · rename Sd _ _ _ _ _ => S₄
          refine hP .next _ <| turn_end S₄ (sl' := [(_, .ob _), (_, .ns _), (q, .lst _), (a, .lst _)]) (by walk_at "pp") ?_
          (try dsimp only)
          refine ⟨rfl, _, _, _, ls ++ [(0, false, false)], rfl, by walk_at "lk", by walk_at "lk", by walk_at "lk", by simpa using hyl, ?_, hls.more (i := 0) false false hf⟩
          rw [List.map_append]
          exact hys.snoc (isStr' (by decide +kernel))
      · walk_at "go"
        · rename Sd _ _ _ _ _ => S₄
          refine hP .next _ <| turn_end S₄ (sl' := [(_, .ob _), (_, .ns _), (q, .lst _), (a, .lst _)]) (by walk_at "pp") ?_
          (try dsimp only)
          refine ⟨rfl, _, _, _, ls ++ [(0, true, true)], rfl, by walk_at "lk", by walk_at "lk", by walk_at "lk", by simpa using hyl, ?_, hls.more (i := 0) true true hf⟩
          rw [List.map_append]
          exact hys.snoc (isStr' (by decide +kernel))
        · rename Sd _ _ _ _ _ => S₄
          refine hP .next _ <| turn_end S₄ (sl' := [(_, .ob _), (_, .ns _), (q, .lst _), (a, .lst _)]) (by walk_at "pp") ?_
          (try dsimp only)
          refine ⟨rfl, _, _, _, ls ++ [(0, true, false)], rfl, by walk_at "lk", by walk_at "lk", by walk_at "lk", by simpa using hyl, ?_, hls.more (i := 0) true false hf⟩
          rw [List.map_append]
          exact hys.snoc (isStr' (by decide +kernel))
    · generalize hf : fg p 1 = f at *
      have hf3 := fg_lt p 1
      rw [hf] at hf3
      obtain rfl | rfl | rfl := hf3
      · walk_at "go"
        rename Sd _ _ _ _ _ => S₄
        refine hP .next _ <| turn_end S₄ (sl' := [(_, .ob _), (_, .ns _), (q, .lst _), (a, .lst _)]) (by walk_at "pp") ?_
        (try dsimp only)
        exact ⟨rfl, _, _, _, ls, rfl, by walk_at "lk", by walk_at "lk", by walk_at "lk", Nat.le_succ_of_le hyl, hys, hls.skip hf⟩
      · walk_at "go"
        · rename Sd _ _ _ _ _ => S₄
          refine hP .next _ <| turn_end S₄ (sl' := [(_, .ob _), (_, .ns _), (q, .lst _), (a, .lst _)]) (by walk_at "pp") ?_
          (try dsimp only)
          refine ⟨rfl, _, _, _, ls ++ [(1, false, true)], rfl, by walk_at "lk", by walk_at "lk", by walk_at "lk", by simpa using hyl, ?_, hls.more (i := 1) false true hf⟩
          rw [List.map_append]
          exact hys.snoc (isStr' (by decide +kernel))
        · rename Sd _ _ _ _ _ => S₄
          refine hP .next _ <| turn_end S₄ (sl' := [(_, .ob _), (_, .ns _), (q, .lst _), (a, .lst _)]) (by walk_at "pp") ?_
          (try dsimp only)
          refine ⟨rfl, _, _, _, ls ++ [(1, false, false)], rfl, by walk_at "lk", by walk_at "lk", by walk_at "lk", by simpa using hyl, ?_, hls.more (i := 1) false false hf⟩
          rw [List.map_append]
          exact hys.snoc (isStr' (by decide +kernel))
      · walk_at "go"
        · rename Sd _ _ _ _ _ => S₄
          refine hP .next _ <| turn_end S₄ (sl' := [(_, .ob _), (_, .ns _), (q, .lst _), (a, .lst _)]) (by walk_at "pp") ?_
          (try dsimp only)
          refine ⟨rfl, _, _, _, ls ++ [(1, true, true)], rfl, by walk_at "lk", by walk_at "lk", by walk_at "lk", by simpa using hyl, ?_, hls.more (i := 1) true true hf⟩
          rw [List.map_append]
          exact hys.snoc (isStr' (by decide +kernel))
        · rename Sd _ _ _ _ _ => S₄
          refine hP .next _ <| turn_end S₄ (sl' := [(_, .ob _), (_, .ns _), (q, .lst _), (a, .lst _)]) (by walk_at "pp") ?_
          (try dsimp only)
          refine ⟨rfl, _, _, _, ls ++ [(1, true, false)], rfl, by walk_at "lk", by walk_at "lk", by walk_at "lk", by simpa using hyl, ?_, hls.more (i := 1) true false hf⟩
          rw [List.map_append]
          exact hys.snoc (isStr' (by decide +kernel))
    · generalize hf : fg p 2 = f at *
      have hf3 := fg_lt p 2
      rw [hf] at hf3
      obtain rfl | rfl | rfl := hf3
      · walk_at "go"
        rename Sd _ _ _ _ _ => S₄
        refine hP .next _ <| turn_end S₄ (sl' := [(_, .ob _), (_, .ns _), (q, .lst _), (a, .lst _)]) (by walk_at "pp") ?_
        (try dsimp only)
        exact ⟨rfl, _, _, _, ls, rfl, by walk_at "lk", by walk_at "lk", by walk_at "lk", Nat.le_succ_of_le hyl, hys, hls.skip hf⟩
      · walk_at "go"
        · rename Sd _ _ _ _ _ => S₄
          refine hP .next _ <| turn_end S₄ (sl' := [(_, .ob _), (_, .ns _), (q, .lst _), (a, .lst _)]) (by walk_at "pp") ?_
          (try dsimp only)
          refine ⟨rfl, _, _, _, ls ++ [(2, false, true)], rfl, by walk_at "lk", by walk_at "lk", by walk_at "lk", by simpa using hyl, ?_, hls.more (i := 2) false true hf⟩
          rw [List.map_append]
          exact hys.snoc (isStr' (by decide +kernel))
        · rename Sd _ _ _ _ _ => S₄
          refine hP .next _ <| turn_end S₄ (sl' := [(_, .ob _), (_, .ns _), (q, .lst _), (a, .lst _)]) (by walk_at "pp") ?_
          (try dsimp only)
          refine ⟨rfl, _, _, _, ls ++ [(2, false, false)], rfl, by walk_at "lk", by walk_at "lk", by walk_at "lk", by simpa using hyl, ?_, hls.more (i := 2) false false hf⟩
          rw [List.map_append]
          exact hys.snoc (isStr' (by decide +kernel))
      · walk_at "go"
        · rename Sd _ _ _ _ _ => S₄
          refine hP .next _ <| turn_end S₄ (sl' := [(_, .ob _), (_, .ns _), (q, .lst _), (a, .lst _)]) (by walk_at "pp") ?_
          (try dsimp only)
          refine ⟨rfl, _, _, _, ls ++ [(2, true, true)], rfl, by walk_at "lk", by walk_at "lk", by walk_at "lk", by simpa using hyl, ?_, hls.more (i := 2) true true hf⟩
          rw [List.map_append]
          exact hys.snoc (isStr' (by decide +kernel))
        · rename Sd _ _ _ _ _ => S₄
          refine hP .next _ <| turn_end S₄ (sl' := [(_, .ob _), (_, .ns _), (q, .lst _), (a, .lst _)]) (by walk_at "pp") ?_
          (try dsimp only)
          refine ⟨rfl, _, _, _, ls ++ [(2, true, false)], rfl, by walk_at "lk", by walk_at "lk", by walk_at "lk", by simpa using hyl, ?_, hls.more (i := 2) true false hf⟩
          rw [List.map_append]
          exact hys.snoc (isStr' (by decide +kernel))
  · rintro r' sl' h₂ tk₂ ⟨rfl, m, q, ys, ls, rfl, hm1, hm2, hm3, hyl, hys, hls⟩ S₃
    clear S₂
    walk_at "go"
    rename Sd _ _ _ _ _ => S₄
    have hz := lits_sum ls
    refine join_list (ys := List.map litS ls) (Heap.PlainList.isList (S₄.get (x := .lst _) (by walk_at "mm"))) (Strs.are hys) ?_ ?_
    · have e2 : (Str.ofString "&").length = 1 := rfl
      have := hls.1
      rw [e2, List.length_map]; omega
    intro t₆ k₆
    have e3 : Txt.join (Str.ofString "&") (List.map litS ls) = rend ls := (StrLaws.glued_eq_join _ _).trans (join_rend ls)
    rw [e3]
    walk_at "go"
    exact h _ _ ls _ (stays S₄ hb) hls.whole
end
end Mine
namespace Mine
theorem strs_of : ∀ l : List (Str × Tok), Strs (strValues l) (l.map (·.1))
  | [] => trivial
  | (x, t) :: r => ⟨⟨t, rfl⟩, strs_of r⟩
theorem getMap {α β γ : Type} {P : α → γ → Prop} {f : β → γ} {vs : List α} {es : List β} {i : Nat} {v : α} (h : All2 P vs (es.map f)) (q : vs[i]? = some v) : ∃ e, es[i]? = some e ∧ P v (f e) := by
  obtain ⟨e, he, hp⟩ := h.get q
  rw [List.getElem?_map] at he
  obtain ⟨l, hl, rfl⟩ := Option.map_eq_some_iff.mp he
  exact ⟨l, hl, hp⟩
theorem lit_last : ∀ l : Lit, ∀ i : Fin 3, (Txt.lower (Txt.item (litS l) (-1)) == Txt.item (Str.ofString "abc") (i.val : Int)) = (l.1 == i) := by
  rintro ⟨i, b, c⟩ j
  revert i b c j
  decide +kernel
theorem lit_low : ∀ l m : Lit, (Txt.lower (litS m) == Txt.lower (litS l)) = (m.1 == l.1 && m.2.1 == l.2.1) := by
  rintro ⟨i, b, c⟩ ⟨i', b', c'⟩
  revert i b c i' b' c'
  decide +kernel
theorem lit_len : ∀ l : Lit, 1 ≤ (litS l).length ∧ (litS l).length ≤ 2 := by
  rintro ⟨i, b, c⟩
  revert i b c
  decide +kernel
theorem lit_has (l : Lit) : ∀ ls : List Lit, ((ls.map fun m => Txt.lower (litS m)).any (· == Txt.lower (litS l))) = has ls l.1 l.2.1
  | [] => rfl
  | m :: r => by
    have ih := lit_has l r
    rw [List.map_cons, List.any_cons, ih, lit_low]; rfl
theorem r_split {prog : Program} {w : World} {A : Around} {E : Value → Shared → Prop} {s : Shared} {g r : Heap} {sl : List (Addr × Sp)} {x y : Str} {t u : Tok} {Q : Value → Shared → Prop} (S : Sd w g r sl s.heap) (hy : (y.length == 0) = false) (hz : x.length ≤ 1000)
    (h : ∀ D h' k vs, Sd w g r ((D, .lst vs) :: sl) h' → Strs vs (Txt.split x y) → Q (.ref D) (at' s h' k)) : wpAny (model prog w) A (call (.builtin "str.split") [.str x t, .str y u]) Q E s := by
  have occ : (PySem.Builtin.Str.occurrences x y 0 x.length (x.length + 1)).length ≤ x.length + 1 := StrLaws.occ_length_le x y 0 x.length (x.length + 1)
  have fin : ∀ (l : List (Str × Tok)) (k : Nat), l.map (·.1) = Txt.split x y → Q (.ref s.heap.objs.size) (at' s (s.heap.push { cls := .type "list", data := .seq (strValues l).toArray }) k) := fun l k e =>
    h _ _ k (strValues l) (S.add (push_stays _ _) (fresh_none _) ⟨_, Heap.get?_push_size _ rfl⟩) (e ▸ strs_of l)
  cases short : (decide (x.length < y.length) || decide (PySem.Builtin.Str.strKind x < PySem.Builtin.Str.strKind y)) with
  | true => exact call_meets F.slot_str_split (typeIs_str _ _ _) F.entry_str_split (F.args_str_split_2 _ _) (meets_str_split_cannot_occur x y t u short) (fin [(x, t)] _ (if_pos short).symm)
  | false =>
    cases none : (PySem.Builtin.Str.occurrences x y 0 x.length (x.length + 1)).isEmpty with
    | true => exact call_meets F.slot_str_split (typeIs_str _ _ _) F.entry_str_split (F.args_str_split_2 _ _) (meets_str_split_not_found x y t u short hy none) (fin [(x, t)] _ ((if_neg (by rw [short]; decide)).trans (if_pos none)).symm)
    | false =>
      refine call_meets F.slot_str_split (typeIs_str _ _ _) F.entry_str_split (F.args_str_split_2 _ _) (meets_str_split_sep x y t u short hy none (by rw [sizeLine_eq]; omega) (by rw [length_partsBetween, sizeLine_eq]; omega)) ?_
      show wants Q E _ { s with toks := _, heap := s.heap.push { cls := .type "list", data := .seq (strsFrom s.toks (PySem.Builtin.Str.partsBetween x (PySem.Builtin.Str.occurrences x y 0 x.length (x.length + 1)) y.length)).toArray } }
      rw [strsFrom_eq]
      exact fin (numbered s.toks _) _ ((numbered_texts _ _).trans ((if_neg (by rw [short]; decide)).trans (if_neg (by rw [none]; decide))).symm)
section
variable {w : World} {dp un : Nat} {fr : Option (List Env)} {gs : Option (List Code)} {s : Shared} {g r : Heap} {Q : Value → Shared → Prop} {E : Value → Shared → Prop}
theorem c_joined (S : Sd w g r [] s.heap) (hd : dp + 15 < recursionLimit) (hun : un + 100 < cLine) (a b : List Lit) (i : Fin 3) (t1 t2 t3 : Tok) (ha : a ≠ []) (hb0 : b ≠ []) (hal : a.length ≤ 6) (hbl : b.length ≤ 6) (h : ∀ h' tk t', s.heap.StaysIn h' → Q (.str (rend (joinL i (a ++ b))) t') (at' s h' tk)) :
    wpAny (MD w) (AR dp un fr gs) (call (.ref 269) [.str (rend a) t1, .str (rend b) t2, .int ((2 ^ i.val : Nat) : Int) t3]) Q E s := by
  refine' enterG S [("first", .str (rend a) t1), ("second", .str (rend b) t2), ("bit", .int ((2 ^ i.val : Nat) : Int) t3)] (fun y => if y = "bit" then some (.int ((2 ^ i.val : Nat) : Int) t3) else if y = "second" then some (.str (rend b) t2) else if y = "first" then some (.str (rend a) t1) else none) (fun _ => []) ?k6 ?k7 ?k8 ?k9 ?kB ?kD ?km ?kc ?_ ?c2 ?c3 ?c4
  walk_at "enter"
  rename But _ _ _ => hb
  have hla := rend_len a
  have hlb := rend_len b
  have hq : Int.fdiv ((2 ^ i.val : Nat) : Int) 2 = (i.val : Int) := by
    have : ∀ i : Fin 3, Int.fdiv ((2 ^ i.val : Nat) : Int) 2 = (i.val : Int) := by decide
    exact this i
  have hi3 := i.isLt
  generalize ((2 ^ i.val : Nat) : Int) = B at *
  walk_at "go"
  refine for_rule (fun _ => rfl) ?_
  walk_at "go"
  rename Sd _ _ _ _ _ => S₁
  refine r_split S₁ (by decide) (by omega) ?_
  intro D h' k vs S₂ hvs
  clear S₁
  rw [split_rend a ha] at hvs
  walk_at "go"
  rename Sd _ _ _ _ _ => S₁
  refine r_split S₁ (by decide) (by omega) ?_
  intro D' h' k us S₂ hus
  clear S₁
  rw [split_rend b hb0] at hus
  have hlv := hvs.len
  have hlu := hus.len
  rw [List.length_map] at hlv hlu
  refine r_ladd S₂ (S₂.get (x := .lst vs) (by walk_at "mm")) (S₂.get (x := .lst us) (by walk_at "mm")) (by omega) ?_
  intro c h' S₃
  clear S₂
  have hws := hvs.app hus
  rw [← List.map_append] at hws
  rename Strs vs _ => e1; clear e1
  generalize hl : a ++ b = ls₀ at *
  refine iter_list S₃ (S₃.get (x := .lst _) (.head _)) rfl ?_
  intro I o h' T hst S₄
  clear S₃
  refine ⟨I, _, _, _, _, _, _, _, o, fun j r' sl' => r' = s.heap ∧ ∃ m q ys, sl' = [(c, .lst (vs ++ us)), (D', .lst us), (D, .lst vs), (_, Sp.ns m), (q, .lst ys)] ∧ m "literals" = some (.ref q) ∧ m "bit" = some (.int B t3) ∧ Strs ys (List.map litS (joinL i (List.take j ls₀))), rfl, T, hst, S₄, ⟨rfl, _, _, _, rfl, by walk_at "lk", by walk_at "lk", by trivial⟩, ?_, ?_, ?_⟩
  · rintro j r' sl' h' o' ⟨_, m, q, ys, rfl, _⟩ S₅
    exact Heap.PlainList.isList (S₅.get (x := .lst (vs ++ us)) (by walk_at "mm"))
  · rintro j v oI r' sl' h₂ tk₂ Post hP hj hv ⟨rfl, m, q, ys, rfl, hm1, hm2, hys⟩ S₅
    clear S₄
    obtain ⟨l, hl1, t₄, rfl⟩ := getMap hws hv
    have hnext : joinL i (List.take (j + 1) ls₀) = jstep i (joinL i (List.take j ls₀)) l := by
      rw [joinL, take_next hl1, List.foldl_append]; rfl
    have hac := joinL_len i (List.take j ls₀)
    generalize joinL i (List.take j ls₀) = acc at hnext hac hys
    obtain ⟨hl1, hl2⟩ := lit_len l
    have hyl := hys.len
    rw [List.length_map] at hyl
    have hyl2 : ys.length ≤ 10 := by omega
    have hlast := lit_last l i
    rw [← hq] at hlast
    replace hlast : (Txt.lower (Txt.item (litS l) (-1)) != Txt.item (Str.ofString "abc") (B.fdiv 2)) = (l.1 != i) := congrArg (fun b => !b) hlast
    walk_at "go"
    · rename Sd _ _ _ _ _ => S₆
      have hne : (l.1 != i) = true := hlast.symm.trans (by assumption)
      dsimp only [at'] at S₆ ⊢
      refine iter_list S₆ (S₆.get (x := .lst ys) (by walk_at "mm")) rfl ?_
      intro I' o' h' T' hst' S₇
      clear S₆
      refine ⟨I', _, _, _, _, _, _, _, o', rfl, T', by rw [sizeLine_eq]; omega, hst', S₇, fun D C => ⟨fun i ys' r' sl' => r' = s.heap ∧ sl' = [(_, .ns _), (I, .ob oI), (c, .lst (vs ++ us)), (_, .lst us), (_, .lst vs), (q, .lst ys)] ∧ Strs ys' ((acc.map fun m => Txt.lower (litS m)).take i), ⟨rfl, rfl, by trivial⟩, ?_, ?_, ?_⟩⟩
      · rintro i ys r' sl' sl₁ h' ⟨_, rfl, _⟩ S₃ hs
        exact Heap.PlainList.isList (S₃.get (x := .lst _) (hs _ (by walk_at "mm")))
      · rintro k v oI ys' m r' sl' h₂ tk₂ Post hP hi hv ⟨rfl, rfl, hys'⟩ S₈
        clear S₇
        obtain ⟨l', hl', t₅, rfl⟩ := getMap hys hv
        have hl3 := (lit_len l').2
        walk_at "go"
        walk_at "tests"
        walk_at "go"
        rename Sd _ _ _ _ _ => S₉
        refine hP _ _ <| block_end S₉ (by walk_at "pm") ?_
        (try dsimp only)
        refine ⟨rfl, rfl, ?_⟩
        rw [take_next (e := Txt.lower (litS l')) (by simp [hl'])]
        exact hys'.snoc ⟨_, rfl⟩
      · rintro ys' m r' sl' h₂ tk₂ ⟨rfl, rfl, hys'⟩ S₃ h₃ S₄
        clear S₃ S₇
        rw [List.take_of_length_le (by rw [List.length_map]; omega)] at hys'
        refine notin_list_strs (Heap.PlainList.isList (S₄.get (x := .lst ys') (.head _))) (Strs.are hys') ?_
        rw [lit_has]
        walk_at "go"
        · have hac' : jstep i acc l = acc := if_pos (.inr (by assumption))
          rename Sd _ _ _ _ _ => S₆
          refine hP .next _ <| turn_end S₆.drop (sl' := [(c, .lst _), (_, .lst us), (_, .lst vs), (_, .ns _), (q, .lst _)]) (by walk_at "pp") ?_
          (try dsimp only)
          exact ⟨rfl, _, _, _, rfl, by walk_at "lk", by walk_at "lk", by rw [hnext, hac']; exact hys⟩
        · have hf : has acc l.1 l.2.1 = false := by assumption
          have hac' : jstep i acc l = acc ++ [l] := if_neg (by rw [hf]; simpa using hne)
          rename Sd _ _ _ _ _ => S₆
          refine hP .next _ <| turn_end (S₆.perm pm1).drop (sl' := [(c, .lst _), (_, .lst us), (_, .lst vs), (_, .ns _), (q, .lst _)]) (by walk_at "pp") ?_
          (try dsimp only)
          exact ⟨rfl, _, _, _, rfl, by walk_at "lk", by walk_at "lk", by rw [hnext, hac', List.map_append]; exact hys.snoc ⟨_, rfl⟩⟩
    · have hne : (l.1 != i) = false := hlast.symm.trans (by assumption)
      have hac' : jstep i acc l = acc := if_pos (.inl (by simpa using hne))
      rename Sd _ _ _ _ _ => S₆
      refine hP .next _ <| turn_end S₆ (sl' := [(c, .lst _), (_, .lst us), (_, .lst vs), (_, .ns _), (q, .lst _)]) (by walk_at "pp") ?_
      (try dsimp only)
      exact ⟨rfl, _, _, _, rfl, by walk_at "lk", by walk_at "lk", by rw [hnext, hac']; exact hys⟩
  · rintro r' sl' h₂ tk₂ ⟨rfl, m, q, ys, rfl, hm1, hm2, hys⟩ S₅
    clear S₄
    have hac := joinL_len i (List.take ls₀.length ls₀)
    rw [show (vs ++ us).length = ls₀.length by rw [hws.len, List.length_map], List.take_length] at hys
    walk_at "go"
    rename Sd _ _ _ _ _ => S₆
    refine join_list (ys := List.map litS (joinL i ls₀)) (Heap.PlainList.isList (S₆.get (x := .lst _) (by walk_at "mm"))) (Strs.are hys) ?_ ?_
    · have e2 : (Str.ofString "&").length = 1 := rfl
      have := lits_sum (joinL i ls₀)
      have := joinL_len i ls₀
      rw [e2, List.length_map]; omega
    intro t₆ k₆
    have e3 : Txt.join (Str.ofString "&") (List.map litS (joinL i ls₀)) = rend (joinL i ls₀) := (StrLaws.glued_eq_join _ _).trans (join_rend _)
    rw [e3]
    walk_at "go"
    exact h _ _ _ (stays S₆ hb)
end
end Mine
namespace Mine
section
variable {h : Heap}
theorem reads_strs : ∀ {ks : List Value} {xs : List Str}, Strs ks xs → ∃ as, ReadsAll h ks (xs.map PyData.str) as
  | [], [], _ => ⟨_, .nil⟩
  | _ :: _, x :: _, e => by
    obtain ⟨⟨t, rfl⟩, e2⟩ := e
    obtain ⟨as, r⟩ := reads_strs e2
    exact ⟨_, .cons (.str x t) r⟩
noncomputable def pd (p : Nat × Nat) : PyData := .tuple [.int (p.1 : Int), .int (p.2 : Int)]
theorem reads_pair {v : Value} {p : Nat × Nat} (e : Pair h v p) : ∃ as, Reads h v (pd p) as := by
  obtain ⟨a, t, t', rfl, o, ho, hc, n, hd⟩ := e
  exact ⟨_, .tuple ho hc hd (.cons (.int _ _) (.cons (.int _ _) .nil))⟩
theorem reads_pairs : ∀ {ks : List Value} {ps : List (Nat × Nat)}, All2 (Pair h) ks ps → ∃ as, ReadsAll h ks (ps.map pd) as
  | [], [], _ => ⟨_, .nil⟩
  | _ :: _, p :: _, e => by
    obtain ⟨as, r⟩ := reads_pair e.1
    obtain ⟨bs, r'⟩ := reads_pairs e.2
    exact ⟨_, .cons r r'⟩
theorem reads_list {a : Addr} {ks : List Value} {ds : List PyData} {as : List Addr} (hl : h.PlainList a ks.toArray) (r : ReadsAll h ks ds as) : ∃ bs, Reads h (.ref a) (.list ds) bs := by
  obtain ⟨o, ho, hc, n, hd⟩ := hl.isList
  exact ⟨_, .list ho hc hd (by simpa using r)⟩
end
theorem lay_strs : ∀ {xs : List Str}, (∀ x ∈ xs, PyData.strOk x = true) → PyData.canLayAll0 (xs.map PyData.str) = true
  | [], _ => rfl
  | x :: r, k => by
    show (PyData.canLay0 (.str x) && PyData.canLayAll0 (r.map PyData.str)) = true
    rw [lay_strs fun y hy => k y (.tail _ hy)]
    simpa [PyData.canLay0] using k x (.head _)
theorem lay_pairs : ∀ ps : List (Nat × Nat), PyData.canLayAll0 (ps.map pd) = true
  | [] => rfl
  | p :: r => by
    show (PyData.canLay0 (pd p) && PyData.canLayAll0 (r.map pd)) = true
    rw [lay_pairs r]
    simp [pd, PyData.canLay0, PyData.canLayAll0]
theorem depth_strs : ∀ xs : List Str, PyData.depthAll (xs.map PyData.str) = 0
  | [] => by simp [PyData.depthAll]
  | x :: r => by
    have ih := depth_strs r
    rw [List.map_cons, PyData.depthAll, ih]; simp [PyData.depth]
theorem depth_pairs : ∀ ps : List (Nat × Nat), PyData.depthAll (ps.map pd) ≤ 1
  | [] => by simp [PyData.depthAll]
  | p :: r => by
    have ih := depth_pairs r
    rw [List.map_cons, PyData.depthAll]
    have : (pd p).depth = 1 := by simp [pd, PyData.depth, PyData.depthAll]
    omega
theorem eqv_strs : ∀ xs ys : List Str, PyData.eqvAll (xs.map PyData.str) (ys.map PyData.str) = decide (xs = ys)
  | [], [] => by simp [PyData.eqvAll]
  | [], _ :: _ => by simp [PyData.eqvAll]
  | _ :: _, [] => by simp [PyData.eqvAll]
  | x :: r, y :: q => by
    simp only [List.map_cons, PyData.eqvAll, PyData.eqv, eqv_strs r q]
    by_cases e : x = y <;> by_cases e' : r = q <;> simp [e, e']
theorem eqv_pair (p q : Nat × Nat) : PyData.eqv (pd p) (pd q) = decide (p = q) := by
  obtain ⟨a, b⟩ := p
  obtain ⟨c, d⟩ := q
  have e1 : ((a : Int) == (c : Int)) = decide (a = c) := by
    by_cases e : a = c
    · simp [e]
    · simp [e]; omega
  have e2 : ((b : Int) == (d : Int)) = decide (b = d) := by
    by_cases e : b = d
    · simp [e]
    · simp [e]; omega
  simp only [pd, PyData.eqv, PyData.eqvAll, e1, e2]
  by_cases e : a = c <;> by_cases e' : b = d <;> simp [e, e']
theorem eqv_pairs : ∀ xs ys : List (Nat × Nat), PyData.eqvAll (xs.map pd) (ys.map pd) = decide (xs = ys)
  | [], [] => by simp [PyData.eqvAll]
  | [], _ :: _ => by simp [PyData.eqvAll]
  | _ :: _, [] => by simp [PyData.eqvAll]
  | x :: r, y :: q => by
    simp only [List.map_cons, PyData.eqvAll, eqv_pair, eqv_pairs r q]
    by_cases e : x = y <;> by_cases e' : r = q <;> simp [e, e']
section
variable {prog : Program} {w : World} {A : Around} {E : Value → Shared → Prop} {s : Shared} {g r : Heap} {sl : List (Addr × Sp)} {a b : Addr} {Q : Value → Shared → Prop}
theorem r_neStrs {ks us : List Value} {xs ys : List Str} (ha : s.heap.PlainList a ks.toArray) (hb : s.heap.PlainList b us.toArray) (h1 : Strs ks xs) (h2 : Strs us ys) (o1 : ∀ x ∈ xs, PyData.strOk x = true) (o2 : ∀ x ∈ ys, PyData.strOk x = true) (hu : A.units + 10 < cLine)
    (h : Q (.bool (!decide (xs = ys))) s) : wpAny (model prog w) A (compareOp .NotEq (.ref a) (.ref b)) Q E s := by
  obtain ⟨_, r1⟩ := reads_strs (h := s.heap) h1
  obtain ⟨_, r2⟩ := reads_strs (h := s.heap) h2
  obtain ⟨_, q1⟩ := reads_list ha r1
  obtain ⟨_, q2⟩ := reads_list hb r2
  refine SeqAt.compareNe_reads q1 q2 (by simpa [PyData.canLay0] using lay_strs o1) (by simpa [PyData.canLay0] using lay_strs o2) ?_ ?_
  · simp only [PyData.depth, depth_strs]; omega
  · simp only [PyData.eqv, eqv_strs]; exact h
theorem r_eqStrs {ks us : List Value} {xs ys : List Str} (ha : s.heap.PlainList a ks.toArray) (hb : s.heap.PlainList b us.toArray) (h1 : Strs ks xs) (h2 : Strs us ys) (o1 : ∀ x ∈ xs, PyData.strOk x = true) (o2 : ∀ x ∈ ys, PyData.strOk x = true) (hu : A.units + 10 < cLine)
    (h : Q (.bool (decide (xs = ys))) s) : wpAny (model prog w) A (compareOp .Eq (.ref a) (.ref b)) Q E s := by
  obtain ⟨_, r1⟩ := reads_strs (h := s.heap) h1
  obtain ⟨_, r2⟩ := reads_strs (h := s.heap) h2
  obtain ⟨_, q1⟩ := reads_list ha r1
  obtain ⟨_, q2⟩ := reads_list hb r2
  refine SeqAt.compareEq_reads q1 q2 (by simpa [PyData.canLay0] using lay_strs o1) (by simpa [PyData.canLay0] using lay_strs o2) ?_ ?_
  · simp only [PyData.depth, depth_strs]; omega
  · simp only [PyData.eqv, eqv_strs]; exact h
theorem r_eqPairs {ks us : List Value} {xs ys : List (Nat × Nat)} (ha : s.heap.PlainList a ks.toArray) (hb : s.heap.PlainList b us.toArray) (h1 : All2 (Pair s.heap) ks xs) (h2 : All2 (Pair s.heap) us ys) (hu : A.units + 10 < cLine)
    (h : Q (.bool (decide (xs = ys))) s) : wpAny (model prog w) A (compareOp .Eq (.ref a) (.ref b)) Q E s := by
  obtain ⟨_, r1⟩ := reads_pairs h1
  obtain ⟨_, r2⟩ := reads_pairs h2
  obtain ⟨_, q1⟩ := reads_list ha r1
  obtain ⟨_, q2⟩ := reads_list hb r2
  have d1 := depth_pairs xs
  have d2 := depth_pairs ys
  refine SeqAt.compareEq_reads q1 q2 (by simpa [PyData.canLay0] using lay_pairs xs) (by simpa [PyData.canLay0] using lay_pairs ys) ?_ ?_
  · simp only [PyData.depth]; omega
  · simp only [PyData.eqv, eqv_pairs]; exact h
theorem r_inPairs {ks : List Value} {xs : List (Nat × Nat)} {v : Value} {p : Nat × Nat} (ha : s.heap.PlainList a ks.toArray) (h1 : All2 (Pair s.heap) ks xs) (h2 : Pair s.heap v p) (hu : A.units + 10 < cLine)
    (h : Q (.bool (decide (p ∈ xs))) s) : wpAny (model prog w) A (compareOp .In v (.ref a)) Q E s := by
  obtain ⟨_, r1⟩ := reads_pairs h1
  obtain ⟨_, q1⟩ := reads_list ha r1
  obtain ⟨_, q2⟩ := reads_pair h2
  have d1 := depth_pairs xs
  refine SeqAt.in_list_reads q1 q2 (lay_pairs xs) (by simp [pd, PyData.canLay0, PyData.canLayAll0]) (by omega) ?_
  have e : ((xs.map pd).any fun y => PyData.eqv y (pd p)) = decide (p ∈ xs) := by
    rw [List.any_map]
    clear h1 h ha q1 q2 d1 r1
    induction xs with
    | nil => rfl
    | cons x r ih =>
      rw [List.any_cons, ih]
      simp only [Function.comp, eqv_pair, List.mem_cons]
      by_cases e : x = p
      · simp [e]
      · by_cases e' : p ∈ r <;> simp [e, e', Ne.symm e]
  rw [e]; exact h
theorem r_in3 {x : Int} {t t1 t2 t3 : Tok} (ht : s.heap.IsTuple a [.int 1 t1, .int 2 t2, .int 4 t3].toArray) (hu : A.units + 10 < cLine)
    (h : Q (.bool (x == 1 || (x == 2 || x == 4))) s) : wpAny (model prog w) A (compareOp .In (.int x t) (.ref a)) Q E s := by
  obtain ⟨o, ho, hc, n, hd⟩ := ht
  refine SeqAt.in_tuple_reads (xs := [.int 1, .int 2, .int 4]) (d := .int x) (.tuple ho hc hd (.cons (.int _ _) (.cons (.int _ _) (.cons (.int _ _) .nil)))) (.int x t) (by simp [PyData.canLayAll0, PyData.canLay0]) (by simp [PyData.canLay0]) (by simp [PyData.depth]; omega) ?_
  have e : ([PyData.int 1, .int 2, .int 4].any fun y => PyData.eqv y (.int x)) = (x == 1 || (x == 2 || x == 4)) := by
    simp only [List.any_cons, List.any_nil, PyData.eqv, Bool.or_false]
    rw [Bool.beq_comm (a := (1 : Int)), Bool.beq_comm (a := (2 : Int)), Bool.beq_comm (a := (4 : Int))]
  rw [e]; exact h
theorem r_tadd {xs ys : List Value} (S : Sd w g r sl s.heap) (hx : s.heap.IsTuple a xs.toArray) (hy : s.heap.IsTuple b ys.toArray) (h0 : xs ≠ []) (h1 : ys ≠ []) (hz : xs.length + ys.length ≤ 100)
    (h : ∀ c h', Sd w g r ((c, .tup (xs ++ ys)) :: sl) h' → Q (.ref c) (at' s h' s.toks)) : wpAny (model prog w) A (binaryOp .Add (.ref a) (.ref b)) Q E s := by
  obtain ⟨⟨cls, dd, data, sl₁⟩, ho, hc, n, hd⟩ := id hx
  obtain ⟨⟨cls2, dd2, data2, sl2⟩, ho2, hc2, n2, hd2⟩ := id hy
  simp only at hc hd hc2 hd2
  subst hc hd hc2 hd2
  have e' : ∀ zs : Array Value, zs = (xs ++ ys).toArray → Sp.At (s.heap.push { cls := .type "tuple", data := .seq zs }) s.heap.objs.size (.tup (xs ++ ys)) := by
    rintro zs rfl
    exact ⟨_, Heap.get?_push_size _ rfl, rfl, _, rfl⟩
  exact concat_meets ⟨_, ho, rfl⟩ ⟨_, ho2, rfl⟩ noFill_tuple_add seq_tuple_add PySem.F.slot_tuple_add PySem.F.entry_tuple_add (PySem.F.args_tuple_add_2 _ _)
    (tuple_addW2 a b xs.toArray ys.toArray n n2 dd dd2 sl₁ sl2 (by simpa using h0) (by simpa using h1) (by rw [List.size_toArray, List.size_toArray, sizeLine_eq]; omega)) ⟨ho, ho2, h _ _ (S.add (push_stays _ _) (fresh_none _) (e' _ (by simp)))⟩
theorem r_sublstH {value slice : PySem.Expr} {its : List Value} {i : Int} {u : Tok} {v : Value} {ops : List Value} (hl : s.heap.PlainList a its.toArray) (h0 : 0 ≤ i) (h1 : i < 1000000) (hv : its[i.toNat]? = some v) (h : Q v s)
    (hs : subscripted slice false (.ref a) (.int i u) = operate ops (getItem (.ref a) (.int i u)) := by with_unfolding_all rfl) :
    wpAny (model prog w) A (subscriptTail value slice (.ref a) (.int i u)) Q E s := by
  refine kba_turn (value' := PySem.Expr.Name "_" ⟨0, 0, 0, 0⟩) (fun _ => rfl) ?_
  exact subscriptTail_ops (Heap.IsList.typeIs (s := s) hl.isList) list_getitem_lookup (wpAny_getItem_list hl.isList h0 (by omega) (by simpa using hv) h) hs (fun _ => rfl)
end
end Mine
namespace Mine
section
variable {w : World} {dp un : Nat} {fr : Option (List Env)} {gs : Option (List Code)} {s : Shared} {g r : Heap} {Q : Value → Shared → Prop} {E : Value → Shared → Prop}
theorem c_headersF (S : Sd w g r [] s.heap) (hd : dp + 15 < recursionLimit) (hun : un + 100 < cLine)
    (h : ∀ h' tk x l, s.heap.StaysIn h' → s.heap.get? l = none → h'.PlainList l #[] → HdAt h' x l → s.heap.get? x = none → (∀ dx, h'.get? x = some (instObj 208 dx) → s.heap.get? dx = none) → Q (.ref x) (at' s h' tk)) :
    wpAny (MD w) (AR dp un fr gs) (call (.ref 208) []) Q E s := by
  obtain ⟨hh, gg, d, t, os⟩ := s
  have X := S.gd.X.keeps S.keep
  refine wpAny_call (make_core (makes_of X kf_mk) (looks_findIn X kf_in) (fun self => bind_fn X self kf_in') (.inl rfl) ?_)
  have e1 : (Code.builtin "type.__call__" ⟨[.ref 208], []⟩).weight = 1 := by decide +kernel
  have e2 : (Code.builtin "type.__call__" ⟨[.ref 208], []⟩).cUnits = 1 := by decide +kernel
  have S₁ := (S.add (x := .ob emptyDict) (push_stays hh emptyDict) (fresh_none _) ⟨Heap.get?_push_size _ rfl, by simp⟩).ext (push_stays _ (instObj 208 hh.objs.size))
  have hx : ((hh.push emptyDict).push (instObj 208 hh.objs.size)).get? (hh.objs.size + 1) = some (instObj 208 hh.objs.size) := by heap_get
  refine codeAny_mono (c_init (hh.objs.size + 1) hh.objs.size S₁ (Q := fun v s' => v = .none ∧ Q (.ref (hh.objs.size + 1)) s') (E := E) ?_ ?_ hx fun h' tk l hb hl hL hH => ⟨rfl, ?_⟩) fun r s' q => ?_
  · have : dp + 1 + 5 < recursionLimit := by omega
    rw [← e1] at this; exact this
  · have : un + 1 + 60 < cLine := by omega
    rw [← e2] at this; exact this
  · have none' : ∀ b, hh.objs.size ≤ b → hh.get? b = none := fun b q => by
      cases e : hh.get? b with
      | none => rfl
      | some o => exact absurd (Heap.lt_size e) (Nat.not_lt.mpr q)
    refine h _ _ _ l (fun b o e => hb b o ((push_stays _ _) _ _ (push_stays _ _ _ _ e)) fun hm => ?_) ?_ hL hH (none' _ (Nat.le_succ _)) fun dx e => ?_
    · rw [List.mem_singleton] at hm; subst hm; exact absurd (Heap.lt_size e) (Nat.lt_irrefl _)
    · refine Option.eq_none_iff_forall_ne_some.mpr fun o' e => ?_
      have : ((hh.push emptyDict).push (instObj 208 hh.objs.size)).get? l = some o' := push_stays _ _ _ _ (push_stays _ _ _ _ e)
      rw [hl] at this; cases this
    · have := hb _ _ hx (by simp)
      rw [e] at this
      have e3 : dx = hh.objs.size := by
        have := Option.some.inj this
        simpa [instObj] using this
      rw [e3]; exact none' _ (Nat.le_refl _)
  · rcases r with e | (v | _ | _ | _) <;> first | exact q | exact q.elim
end
theorem Sd.adoptH {w : World} {g r h h' : Heap} {sl : List (Addr × Sp)} {x l : Addr} (S : Sd w g r sl h) (kk : h.StaysIn h') (hnl : h.get? l = none) (hpl : h'.PlainList l #[]) (hH : HdAt h' x l) (fx : h.get? x = none) (fd : ∀ dx, h'.get? x = some (instObj 208 dx) → h.get? dx = none) :
    ∃ g₁, Sd w g₁ h' ((l, .lst []) :: sl) h' ∧ g.StaysIn g₁ ∧ HdAt g₁ x l := by
  have S' := S.add kk hnl (x := .lst []) hpl
  obtain ⟨g₁, S₂, a, b⟩ := S'.ground
  obtain ⟨dx, hs, t, n, e1, e2⟩ := hH
  obtain ⟨n', ho⟩ := hpl
  have off : ∀ c o, h'.get? c = some o → h.get? c = none → o.cls ≠ .type "list" → c ∉ ((l, Sp.lst []) :: sl).map (·.1) := fun c o e f nl hm => by
    rcases List.mem_cons.mp hm with q | q
    · rw [q, ho] at e; cases e; exact nl rfl
    · obtain ⟨p, hp, rfl⟩ := List.mem_map.mp q
      obtain ⟨o', e', _⟩ := Sp.at_obj (S.at_ p hp)
      rw [f] at e'; cases e'
  exact ⟨g₁, S₂, a, dx, hs, t, n, b _ _ e1 (off _ _ e1 fx (by simp [instObj])), b _ _ e2 (off _ _ e2 (fd _ e1) (by simp))⟩
theorem Sd.mutL {w : World} {g r h h' : Heap} {sl : List (Addr × Sp)} {l : Addr} {xs ys : List Value} (S : Sd w g r ((l, .lst xs) :: sl) h) (k : But [l] h h') (hy : h'.PlainList l ys.toArray) : Sd w g r ((l, .lst ys) :: sl) h' :=
  S.put₀ (fun b o hne e => k b o e (by simpa using hne)) hy
end Mine
namespace Mine
/-- a header and its product -/
noncomputable def Good (e : Str × Str) (p : Pr) : Prop := ∃ b ls, e.1 = nm b (kOf (yOf p) (nOf p)) ∧ e.2 = rend ls ∧ LP ls p
theorem texts_sum (lss : List (List Lit)) (hlen : lss.length = 4) (hz : ∀ ls ∈ lss, ls.length ≤ 6) : ((lss.map rend).map (·.length)).sum + (lss.map rend).length * (Str.ofString " | ").length ≤ 16777216 := by
  have e2 : (Str.ofString " | ").length = 3 := rfl
  have : ∀ lss : List (List Lit), (∀ ls ∈ lss, ls.length ≤ 6) → ((lss.map rend).map (·.length)).sum ≤ 18 * lss.length := by
    intro lss
    induction lss with
    | nil => intro _; exact Nat.le_refl _
    | cons l r ih =>
      intro k
      have h1 := rend_len l
      have h2 := k l (.head _)
      have h3 := ih fun x hx => k x (.tail _ hx)
      simp only [List.map_cons, List.sum_cons, List.length_cons]
      omega
  have := this lss hz
  rw [e2, List.length_map, hlen]
  omega
theorem yn_lt : ∀ p : Pr, yOf p < 8 ∧ nOf p < 8 := by decide +kernel
noncomputable abbrev nmP (b : Bool) (p : Pr) : Str := nm b (kOf (yOf p) (nOf p))
theorem nmP_facts : ∀ b : Bool, ∀ p : Pr, ((nmP b p).length ≤ 2 ∧ (Txt.lower (nmP b p)).length ≤ 2) ∧ Txt.upper (nmP b p) = apS (kOf (yOf p) (nOf p)) ∧ oth (nmP b p) = nmP (!b) p ∧ (Txt.upper (nmP b p)).cps.all (· < 128) = true := by decide +kernel
theorem nmP_plain (b : Bool) (p : Pr) : Plain (nmP b p) ∧ Plain (Txt.lower (nmP b p)) := by
  have : ∀ b : Bool, ∀ p : Pr, (∀ c ∈ (nmP b p).cps.toList, 32 ≤ c ∧ c < 127) ∧ (∀ c ∈ (Txt.lower (nmP b p)).cps.toList, 32 ≤ c ∧ c < 127) := by decide +kernel
  exact this b p
theorem nmP_val : ∀ b : Bool, ∀ p : Pr, Int.fdiv (val16 (Txt.upper (nmP b p)).cps.toList) 16 = (yOf p : Int) ∧ Int.fmod (val16 (Txt.upper (nmP b p)).cps.toList) 16 = (nOf p : Int) := by decide +kernel
theorem nmP_eq : ∀ b b' : Bool, ∀ p q : Pr, (Txt.lower (nmP b p) == Txt.lower (nmP b' q)) = (p == q) := by decide +kernel
noncomputable abbrev yn (p : Pr) : Nat × Nat := (yOf p, nOf p)
theorem LP.prods : ∀ {lss : List (List Lit)} {O : List Pr}, All2 LP lss O → lss.map prodL = O.map yn
  | [], [], _ => rfl
  | _ :: _, _ :: _, h => by rw [List.map_cons, List.map_cons, LP.prods h.2, h.1.prod]
theorem prods_of (lss : List (List Lit)) (O : List Pr) (h : All2 LP lss O) (hne : 0 < lss.length) : (parse (syms (bar (lss.map rend)))).1 = O.map yn := by
  match lss, hne with
  | t :: ts, _ => rw [bar_parse, LP.prods h]
theorem nmP_ok : ∀ b : Bool, ∀ p : Pr, PyData.strOk (nmP b p) = true := by decide +kernel
theorem goods_ok {es : List (Str × Str)} {K : List Pr} (h : All2 Good es K) : ∀ x ∈ es.map (·.1), PyData.strOk x = true := by
  intro x hx
  obtain ⟨e, he, rfl⟩ := List.mem_map.mp hx
  obtain ⟨i, hi, rfl⟩ := List.mem_iff_getElem.mp he
  obtain ⟨p, _, b, ls, h1, _⟩ := h.get (List.getElem?_eq_getElem hi)
  rw [h1]; exact nmP_ok b p
theorem All2.cons_inv {α β : Type} {P : α → β → Prop} {vs : List α} {e : β} {es : List β} (h : All2 P vs (e :: es)) : ∃ v vs', vs = v :: vs' ∧ P v e ∧ All2 P vs' es := by
  match vs, h with
  | v :: vs', h => exact ⟨v, vs', rfl, h.1, h.2⟩
theorem goods_filter (b : Bool) (p : Pr) : ∀ {es : List (Str × Str)} {W : List Pr}, All2 Good es W → All2 Good (es.filter fun e => Txt.lower e.1 != Txt.lower (nmP b p)) (W.filter (· != p))
  | [], [], _ => trivial
  | e :: es, q :: W, h => by
    have ih := goods_filter b p h.2
    obtain ⟨b', ls, h1, h2, h3⟩ := h.1
    have k : (Txt.lower e.1 != Txt.lower (nmP b p)) = (q != p) := by
      rw [h1]
      exact congrArg (fun b => !b) (nmP_eq b' b q p)
    rw [List.filter_cons, List.filter_cons, k]
    cases q != p with
    | false => exact ih
    | true => exact ⟨h.1, ih⟩
/-- a kept header's name and numbers, as a value -/
noncomputable def Trip (h : Heap) (v : Value) (p : Pr) : Prop := ∃ a b t t' t'', v = .ref a ∧ h.IsTuple a [.str (nmP b p) t, .int (yOf p : Int) t', .int (nOf p : Int) t''].toArray
theorem Trip.keep {h h' : Heap} (k : TK h h') {v : Value} {e : Pr} (E : Trip h v e) : Trip h' v e := let ⟨a, b, t, t', t'', q, i⟩ := E; ⟨a, b, t, t', t'', q, k.tuple i⟩
theorem key_le {es : List (Str × Str)} {K : List Pr} (h : All2 Good es K) : ∀ e ∈ es, e.1.length ≤ 10 := by
  intro e he
  obtain ⟨i, hi, rfl⟩ := List.mem_iff_getElem.mp he
  obtain ⟨p, _, b, ls, h1, _⟩ := h.get (List.getElem?_eq_getElem hi)
  rw [h1]; exact Nat.le_trans (nmP_facts b p).1.1 (by decide)
/-- what the law asks of the numbers, and what it is of the products -/
theorem sub_int : ∀ p q : Pr, ((Builtin.bitAnd (yOf p : Int) (yOf q : Int) == (yOf p : Int)) && (Builtin.bitAnd (nOf p : Int) (nOf q : Int) == (nOf p : Int))) = sub p q := by decide +kernel
theorem sub_of (p q : Pr) (h1 : Builtin.bitAnd (yOf p : Int) (yOf q : Int) = (yOf p : Int)) (h2 : Builtin.bitAnd (nOf p : Int) (nOf q : Int) = (nOf p : Int)) : sub p q = true := by
  rw [← sub_int, h1, h2]; simp
theorem sub_not1 (p q : Pr) (h1 : ¬ Builtin.bitAnd (yOf p : Int) (yOf q : Int) = (yOf p : Int)) : sub p q = false := by
  rw [← sub_int, beq_eq_false_iff_ne.mpr h1]; rfl
theorem sub_not2 (p q : Pr) (h1 : ¬ Builtin.bitAnd (nOf p : Int) (nOf q : Int) = (nOf p : Int)) : sub p q = false := by
  rw [← sub_int, beq_eq_false_iff_ne.mpr h1, Bool.and_false]
theorem sub_int' : ∀ p q : Pr, ((Builtin.bitAnd (yOf q : Int) (yOf p : Int) == (yOf p : Int)) && (Builtin.bitAnd (nOf q : Int) (nOf p : Int) == (nOf p : Int))) = sub p q := by decide +kernel
theorem cl_int : ∀ p q : Pr, Builtin.bitOr (Builtin.bitAnd (yOf p : Int) (nOf q : Int)) (Builtin.bitAnd (nOf p : Int) (yOf q : Int)) = (cl p q : Int) := by decide +kernel
theorem cn_int : ∀ p q : Pr, one (cl p q) = true → Builtin.bitOr (yOf p : Int) (yOf q : Int) - (cl p q : Int) = (yOf (cn p q) : Int) ∧ Builtin.bitOr (nOf p : Int) (nOf q : Int) - (cl p q : Int) = (nOf (cn p q) : Int) := by decide +kernel
end Mine
namespace Mine
section
variable {w : World} {dp un : Nat} {fr : Option (List Env)} {gs : Option (List Code)} {s : Shared} {g r : Heap} {Q : Value → Shared → Prop} {E : Value → Shared → Prop}
theorem c_wordP (S : Sd w g r [] s.heap) (hd : dp + 10 < recursionLimit) (hun : un + 80 < cLine) (x y z : Int) (t t1 t2 : Tok) (p : Pr) (hx : x = (yOf p : Int)) (hy : y = (nOf p : Int)) (h : ∀ h' tk b t', s.heap.StaysIn h' → Q (.str (nmP b p) t') (at' s h' tk)) :
    wpAny (MD w) (AR dp un fr gs) (call (.ref 250) [.int x t, .int y t1, .int z t2]) Q E s := by
  subst hx hy
  have := yn_lt p
  exact c_word S hd hun _ _ _ _ _ _ (by omega) (by omega) (by omega) (by omega) fun h' tk t' k => h h' tk _ t' k
theorem c_joinedP (S : Sd w g r [] s.heap) (hd : dp + 15 < recursionLimit) (hun : un + 100 < cLine) (a b : List Lit) (p q : Pr) (B : Int) (t1 t2 t3 : Tok) (ha : LP a p) (hb0 : LP b q) (h1 : one (cl p q) = true) (hB : B = (cl p q : Int)) (h : ∀ h' tk ls t', s.heap.StaysIn h' → LP ls (cn p q) → Q (.str (rend ls) t') (at' s h' tk)) :
    wpAny (MD w) (AR dp un fr gs) (call (.ref 269) [.str (rend a) t1, .str (rend b) t2, .int B t3]) Q E s := by
  obtain ⟨i, hi⟩ : ∃ i : Fin 3, cl p q = 2 ^ i.val := by
    have : ∀ p q : Pr, one (cl p q) = true → ∃ i : Fin 3, cl p q = 2 ^ i.val := by decide +kernel
    exact this p q h1
  obtain ⟨n1, n2⟩ := cl_ne p q h1
  subst hB
  rw [hi]
  exact c_joined S hd hun a b i _ _ _ (ha.ne n1) (hb0.ne n2) ha.1 hb0.1 fun h' tk t' k => h h' tk _ t' k (ha.join hb0 i h1 hi)
end
theorem goods_find (b : Bool) (q : Pr) : ∀ {es : List (Str × Str)} {K : List Pr}, All2 Good es K → q ∈ K → ∃ v, es.find? (fun e => Txt.lower e.1 == Txt.lower (nmP b q)) = some v ∧ Good v q
  | [], [], _, h => absurd h List.not_mem_nil
  | e :: es, k :: K, h, hm => by
    obtain ⟨b', ls, h1, h2, h3⟩ := h.1
    have e' : (Txt.lower e.1 == Txt.lower (nmP b q)) = (k == q) := by
      rw [h1]; exact nmP_eq b' b k q
    rw [List.find?_cons, e']
    cases hkq : (k == q) with
    | true =>
      have : k = q := by simpa using hkq
      exact ⟨e, rfl, this ▸ h.1⟩
    | false =>
      rcases List.mem_cons.mp hm with r | r
      · rw [r] at hkq; simp at hkq
      · exact goods_find b q h.2 r
theorem del_step {K : List Pr} {p q : Pr} {i : Nat} (hn : K.Nodup) (hq : K[i]? = some q) (hs : sub p q = true) :
    ((K.take i).filter (fun k => !sub p k) ++ K.drop i).filter (· != q) = (K.take (i + 1)).filter (fun k => !sub p k) ++ K.drop (i + 1) := by
  have e : K = K.take i ++ q :: K.drop (i + 1) := by rw [← drop_get hq, List.take_append_drop]
  have hn' := hn
  rw [e] at hn'
  have h1 := (List.nodup_append.mp hn').2.2
  have h2 := (List.nodup_cons.mp (List.nodup_append.mp hn').2.1).1
  rw [drop_get hq, filter_next_neg hq (by simp [hs]), List.filter_append]
  congr 1
  · rw [List.filter_eq_self]
    intro a ha
    have := h1 a (List.mem_filter.mp ha).1 q (.head _)
    simpa using this
  · rw [List.filter_cons_of_neg (by simp), List.filter_eq_self]
    intro a ha
    have : a ≠ q := fun c => h2 (c ▸ ha)
    simpa using this
theorem keep_step {K : List Pr} {p q : Pr} {i : Nat} (hq : K[i]? = some q) (hs : sub p q = false) :
    (K.take i).filter (fun k => !sub p k) ++ K.drop i = (K.take (i + 1)).filter (fun k => !sub p k) ++ K.drop (i + 1) := by
  rw [drop_get hq, filter_next_pos hq (by simp [hs]), List.append_assoc]; rfl
theorem one_step {K : List Pr} {p q : Pr} {i : Nat} (hq : K[i]? = some q) (h1 : one (cl p q) = true) :
    ((K.take (i + 1)).filter fun k => one (cl p k)).map (cn p) = ((K.take i).filter fun k => one (cl p k)).map (cn p) ++ [cn p q] := by
  rw [filter_next_pos hq h1, List.map_append]; rfl
theorem none_step {K : List Pr} {p q : Pr} {i : Nat} (hq : K[i]? = some q) (h1 : one (cl p q) = false) :
    ((K.take (i + 1)).filter fun k => one (cl p k)).map (cn p) = ((K.take i).filter fun k => one (cl p k)).map (cn p) := by
  rw [filter_next_neg hq h1]
theorem r_in3b {prog : Program} {w : World} {A : Around} {E : Value → Shared → Prop} {s : Shared} {a : Addr} {Q : Value → Shared → Prop} {x : Int} {c : Nat} {b : Bool} {t t1 t2 t3 : Tok} (ht : s.heap.IsTuple a [.int 1 t1, .int 2 t2, .int 4 t3].toArray) (hu : A.units + 10 < cLine) (hx : x = (c : Int)) (hb : one c = b)
    (h : Q (.bool b) s) : wpAny (model prog w) A (compareOp .In (.int x t) (.ref a)) Q E s := by
  refine r_in3 ht hu ?_
  have e : (x == 1 || (x == 2 || x == 4)) = one c := by
    subst hx
    unfold one
    have k : ∀ n : Nat, ((c : Int) == (n : Int)) = (c == n) := fun n => by
      by_cases q : c = n
      · simp [q]
      · rw [beq_eq_false_iff_ne.mpr q, beq_eq_false_iff_ne]; omega
    rw [← k 1, ← k 2, ← k 4]; rfl
  rw [e, hb]; exact h
end Mine
local macro_rules | `(tactic| walk_at "subscriptTail") => `(tactic| ((with_reducible show wpAny _ _ (subscriptTail _ _ (Value.ref _) (Value.int _ _)) _ _ _); k_dflt
  (refine' Mine.r_sublstH ?zzt ?zza ?zzb ?zzv ?_; (case zzt => exact stays_plain (Sd.keep (by assumption)) (by assumption)); (case zza | zzb => walk_at "zn"); (case zzv => first | exact rfl | assumption); k_whole)))
namespace Mine
/-- what holds between the turns: of the first for, of the while, and of the for in it -/
inductive IvA (a L lw b1 b2 tx xw : Addr) (ks : List Value) (O : List Pr) (i : Nat) (r' : Heap) (sl' : List (Addr × Sp)) : Prop
  | mk (m : Str → Option Value) (us : List Value) (es : List (Str × Str)) (c1 c2 : Option Value) (e : sl' = [(a, .lst ks), (L, Sp.ns m), (lw, .lst us), (b1, .cell c1), (b2, .cell c2)]) (h1 : All2 (Pair r') ks (O.map yn)) (h2 : Ents r' us es) (h3 : All2 Good es (O.take i))
    (h4 : ∃ t, m "turn" = some (.int (i : Int) t)) (h5 : m "waiting" = some (.ref xw)) (h6 : m "texts" = some (.ref tx))
inductive IvW (L lw lk b1 b2 xw xk : Addr) (O : List Pr) (n : Nat) (r' : Heap) (sl' : List (Addr × Sp)) : Prop
  | mk (m : Str → Option Value) (uw : List Value) (ew : List (Str × Str)) (uk : List Value) (ek : List (Str × Str)) (W K : List Pr) (c1 c2 : Option Value) (tn : Int)
    (e : sl' = [(L, .ns m), (lw, .lst uw), (lk, .lst uk), (b1, .cell c1), (b2, .cell c2)]) (h1 : m "waiting" = some (.ref xw)) (h2 : m "kept" = some (.ref xk)) (h3 : ∃ t, m "turn" = some (.int tn t)) (h4 : Ents r' uw ew) (h5 : Ents r' uk ek)
    (h6 : All2 Good ew W) (h7 : All2 Good ek K) (h8 : Inv O W K) (h9 : W.length + 27 * bare K ≤ 733) (h10 : n = 28 * bare K + W.length)
inductive IvF (D L lw lk b1 b2 xw xk : Addr) (ys : List Value) (K W' : List Pr) (p : Pr) (ls0 : List Lit) (b0 : Bool) (t0 t1 : Tok) (c1 c2 : Option Value) (i : Nat) (r' : Heap) (sl' : List (Addr × Sp)) : Prop
  | mk (m : Str → Option Value) (uw₃ : List Value) (ew₃ : List (Str × Str)) (uk₃ : List Value) (ek₃ : List (Str × Str)) (tn' : Int)
    (e : sl' = [(D, .lst ys), (L, .ns m), (lw, .lst uw₃), (lk, .lst uk₃), (b1, .cell c1), (b2, .cell c2)]) (h1 : m "waiting" = some (.ref xw)) (h2 : m "kept" = some (.ref xk)) (h3 : m "name" = some (.str (nmP b0 p) t0)) (h4 : m "text" = some (.str (rend ls0) t1))
    (h5 : ∃ t, m "turn" = some (.int tn' t)) (h6 : Ents r' uw₃ ew₃) (h7 : Ents r' uk₃ ek₃) (h8 : All2 (Trip r') ys K) (h9 : All2 Good ew₃ (W'.filter (· != p) ++ ((K.take i).filter fun k => one (cl p k)).map (cn p)))
    (h10 : All2 Good ek₃ ((K.take i).filter (fun k => !sub p k) ++ K.drop i))
section
variable {w : World} {dp un : Nat} {fr : Option (List Env)} {gs : Option (List Code)} {s : Shared} {g r : Heap} {Q : Value → Shared → Prop} {E : Value → Shared → Prop}
theorem c_settled (S : Sd w g r [] s.heap) (hd : dp + 40 < recursionLimit) (hun : un + 200 < cLine) (tx : Addr) (vs : List Value) (lss : List (List Lit)) (O : List Pr) (hl : s.heap.PlainList tx vs.toArray) (hvs : Strs vs (lss.map rend)) (hO : All2 LP lss O) (hlen : lss.length = 4)
    (h : ∀ h' tk a vs' es K, s.heap.StaysIn h' → s.heap.get? a = none → h'.PlainList a vs'.toArray → Ents h' vs' es → All2 Good es K → Inv O [] K → Q (.ref a) (at' s h' tk)) :
    wpAny (MD w) (AR dp un fr gs) (call (.ref 274) [.ref tx]) Q E s := by
  refine' enterG S [("texts", .ref tx)] (fun y => if y = "texts" then some (.ref tx) else none) (fun L => [(L + 1 + 1, .cell none), (L + 1, .cell none)]) ?k6 ?k7 ?k8 ?k9 ?kB ?kD ?km ?kc ?_ ?c2 ?c3 ?c4
  walk_at "enter"
  rename_i g₀ L h₁ tk₁ hb S₁
  have hl' := stays_plain hb.nil hl
  walk_at "go"
  rename Sd _ _ _ _ _ => S₁
  refine' c_headersF S₁.nil ?_ ?_ ?_
  any_goals walk_at "om"
  intro h' tk' xw lw kk hnl hpl hH fx fd
  obtain ⟨g₁, S₂, hg1, hH₁⟩ := S₁.adoptH kk hnl hpl hH fx fd
  have hl₁ := stays_plain hg1 hl'
  clear S₁
  walk_at "go"
  refine for_rule (fun _ => rfl) ?_
  walk_at "go"
  rename Sd _ _ _ _ _ => S₁
  have hz6 : ∀ ls ∈ lss, ls.length ≤ 6 := fun ls hm => by
    obtain ⟨i, hi, rfl⟩ := List.mem_iff_getElem.mp hm
    obtain ⟨p, _, hp⟩ := hO.get (List.getElem?_eq_getElem hi)
    exact hp.1
  have hzb := bar_len lss hz6
  refine join_list (ys := lss.map rend) (Heap.PlainList.isList (stays_plain S₁.keep hl₁)) (Strs.are hvs) (texts_sum lss hlen hz6) ?_
  intro t₁ k₁
  rw [show Txt.join (Str.ofString " | ") (lss.map rend) = bar (lss.map rend) from StrLaws.glued_eq_join _ _]
  walk_at "go"
  refine' c_products S₁.nil ?_ ?_ _ _ (by omega) (bar_Al lss) ?_
  any_goals walk_at "om"
  rw [prods_of lss O hO (by rw [hlen]; decide)]
  intro h' tk' a ks kk hn hp hks
  have S₂ := (S₁.add kk hn (x := .lst ks) hp).anchor
  clear S₁
  refine iter_list S₂ (S₂.get (x := .lst ks) (.head _)) rfl ?_
  intro I o h' T hst S₃
  clear S₂
  have hOl : O.length = 4 := by rw [← hO.len]; exact hlen
  have hvl : vs.length = 4 := by rw [hvs.len, List.length_map]; exact hlen
  refine ⟨I, _, _, _, _, _, _, _, o, fun i r' sl' => IvA a _ lw _ _ tx xw ks O i r' sl', rfl, T, hst, S₃, ⟨_, _, [], _, _, rfl, hks, by trivial, by trivial, ⟨_, by walk_at "lk"⟩, by walk_at "lk", by walk_at "lk"⟩, ?_, ?_, ?_⟩
  · rintro i r' sl' h' o' ⟨m, us, es, c1, c2, rfl, _⟩ S₄
    exact Heap.PlainList.isList (S₄.get (x := .lst ks) (by walk_at "mm"))
  · rintro i v oI r' sl' h₂ tk₂ Post hP hi hv ⟨m, us, es, c1, c2, rfl, hks', hus, hes, ⟨t2, hm1⟩, hm2, hm3⟩ S₄
    clear S₃
    obtain ⟨p, hp1, a', t3, t4, rfl, ht⟩ := getMap hks' hv
    have hi4 : i < 4 := by have := hks'.len; rw [List.length_map] at this; omega
    have hyn := yn_lt p
    obtain ⟨v', hv'⟩ : ∃ v', vs[i]? = some v' := ⟨_, List.getElem?_eq_getElem (by omega)⟩
    obtain ⟨ls, hls, t5, rfl⟩ := getMap hvs hv'
    obtain ⟨p', hp2, hLP⟩ := hO.get hls
    obtain rfl : p' = p := by rw [hp1] at hp2; exact (Option.some.inj hp2).symm
    have hv'' : vs[(i : Int).toNat]? = some (.str (rend ls) t5) := by rw [Int.toNat_natCast]; exact hv'
    walk_at "go"
    rename Sd _ _ _ _ _ => S₅
    dsimp only [at'] at S₅ ⊢
    refine' c_word S₅.nil ?_ ?_ (yOf p' : Int) (nOf p' : Int) (i : Int) _ _ _ (by omega) (by omega) (by omega) (by omega) ?_
    any_goals walk_at "om"
    intro h' tk' t₆ kk
    walk_at "pure"
    rw [show (16 * (yOf p' : Int).toNat + (nOf p' : Int).toNat) = kOf (yOf p') (nOf p') from rfl]
    generalize hb1 : (Int.fmod (i : Int) 2 == 1) = b1
    walk_at "go"
    rename Sd _ _ _ _ _ => S₅
    dsimp only [at'] at S₅ ⊢
    have S₆ := S₅.perm (sl' := [(lw, .lst us), (_, .cell _), (_, .cell _), (I, .ob oI), (a, .lst ks), (_, .ns _)]) (by walk_at "pp")
    clear S₅
    obtain ⟨⟨n1, n2⟩, _, n4, _⟩ := nmP_facts b1 p'
    obtain ⟨n5, n6⟩ := nmP_plain b1 p'
    have hul : us.length = i := by
      have h1 := hus.len
      have h2 := hes.len
      rw [List.length_take, hOl] at h2
      omega
    refine' c_addh xw lw us (nmP b1 p') (rend ls) _ _ S₆.one ?_ ?_ (hH₁.keeps S₆.keep) (by omega) (by omega) (by have := hLP.len; omega) n5 (Plain_rend ls) ?_
    any_goals walk_at "om"
    intro h' tk' v6 k6 hp6 he6
    have S₇ := (S₆.mutL k6 hp6).anchor
    have tk6 : TK r' h' := (S₆.mutL k6 hp6).tk
    clear S₆
    walk_at "go"
    rename Sd _ _ _ _ _ => S₈
    refine hP .next _ <| turn_end S₈ (sl' := [(a, .lst ks), (_, .ns _), (lw, .lst _), (_, .cell _), (_, .cell _)]) (by walk_at "pp") ?_
    (try dsimp only)
    refine ⟨_, _, es ++ [(nmP b1 p', rend ls)], _, _, rfl, All2.imp (fun _ _ => Pair.keep tk6) hks', (Ents.keep tk6 hus).snoc he6, ?_, mkI (by walk_at "lk") (by omega), by walk_at "lk", by walk_at "lk"⟩
    rw [take_next hp1]
    exact hes.snoc ⟨b1, ls, rfl, rfl, hLP⟩
  · rintro r' sl' h₂ tk₂ ⟨m, us, es, c1, c2, rfl, hks', hus, hes, ⟨t2, hm1⟩, hm2, hm3⟩ S₄
    clear S₃
    rw [show ks.length = O.length by rw [hks'.len, List.length_map], List.take_length] at hes
    walk_at "go"
    rename Sd _ _ _ _ _ => S₅
    dsimp only [at'] at S₅ ⊢
    refine' c_headersF S₅.nil ?_ ?_ ?_
    any_goals walk_at "om"
    intro h' tk' xk lk kk hnl hpl hH fx fd
    obtain ⟨g₂, S₆, hg2, hH₂⟩ := S₅.adoptH kk hnl hpl hH fx fd
    replace hH₁ := hH₁.keeps hg2
    have hk0 : s.heap.StaysIn g₂ := fun b o e => hg2 b o (hg1 b o (hb.nil b o e))
    have hus₆ : Ents h' us es := Ents.keep (S₅.tk.trans (TK.of kk)) hus
    clear S₅
    walk_at "go"
    rename Sd _ _ _ _ _ => S₇
    have I₀ : Inv O O [] := Inv.start
    have hb0 := bare_le []
    refine while_rule (fun n r' sl' => IvW _ lw lk _ _ xw xk O n r' sl') (28 * bare [] + O.length) (sl := [(_, .ns _), (lw, .lst us), (lk, .lst []), (_, .cell _), (_, .cell _)]) ((S₇.perm (sl' := [(a, .lst ks), (_, .ns _), (lw, .lst us), (lk, .lst []), (_, .cell _), (_, .cell _)]) (by walk_at "pp")).drop) ⟨_, us, es, [], [], O, [], _, _, _, rfl, by walk_at "lk", by walk_at "lk", ⟨_, by walk_at "lk"⟩, hus₆, by trivial, hes, by trivial, I₀, by omega, rfl⟩ ?_
    clear S₇
    rintro n r' sl' h₃ tk₃ Post hP ⟨m, uw, ew, uk, ek, W, K, c1, c2, tn, rfl, hm1, hm2, ⟨t₈, hm3⟩, huw, huk, hew, hek, hI, hbd, rfl⟩ S₈
    have hel := hew.len
    have hul := huw.len
    have hKl := nodup_le (anti_nodup hI.anti)
    have hekl := hek.len
    have hukl := huk.len
    walk_at "go"
    rename Sd _ _ _ _ _ => S₉
    refine' c_keys xw lw uw ew S₉.nil ?_ ?_ (S₉.get (x := .lst uw) (by walk_at "mm")) (hH₁.keeps S₉.keep) (Ents.keep S₉.tk huw) (by omega) ?_
    any_goals walk_at "om"
    intro h' tk' a₁ ks₁ kk hn hp hks
    have S₁₀ := S₉.add kk hn (x := .lst ks₁) hp
    clear S₉
    walk_at "go"
    rename Sd _ _ _ _ _ => S₁₁
    refine r_neStrs (us := []) (ys := []) (S₁₁.get (x := .lst ks₁) (by walk_at "mm")) (S₁₁.get (x := .lst []) (by walk_at "mm")) hks (by trivial) (goods_ok hew) (by simp) (by walk_at "om") ?_
    walk_at "go"
    · have hnil : ew.map (·.1) = [] := of_decide_eq_true (by assumption)
      obtain rfl : ew = [] := by simpa using hnil
      obtain rfl : W = [] := List.eq_nil_of_length_eq_zero hel.symm
      refine' c_items xk lk uk S₁₁.nil ?_ ?_ (S₁₁.get (x := .lst uk) (by walk_at "mm")) (hH₂.keeps S₁₁.keep) (by omega) ?_
      any_goals walk_at "om"
      intro h' tk' a₂ kk hn hp
      have kall : s.heap.StaysIn h' := fun b o e => kk b o (S₁₁.keep b o (hk0 b o e))
      walk_at "go"
      exact h _ _ a₂ uk ek K kall (none_of (fun b o e => S₁₁.keep b o (hk0 b o e)) hn) hp (Ents.keep (S₁₁.tk.trans (TK.of kk)) huk) hek hI
    · have hcons : ew.map (·.1) ≠ [] := of_decide_eq_false (by assumption)
      obtain ⟨p, W', rfl⟩ : ∃ p W', W = p :: W' := by
        cases W with
        | nil => exact absurd (by simpa using hel) hcons
        | cons p W' => exact ⟨p, W', rfl⟩
      obtain ⟨⟨n0, x0⟩, ew', rfl, ⟨b0, ls0, h1, h2, hLP⟩, hew'⟩ := hew.cons_inv
      dsimp only at h1 h2
      subst h1 h2
      obtain ⟨v0, uw', rfl, ⟨a0, t0, t1, rfl, ht0⟩, huw'⟩ := huw.cons_inv
      have S₁₂ := S₁₁.drop.drop
      clear S₁₁
      refine' c_items xw lw _ S₁₂.nil ?_ ?_ (S₁₂.get (x := .lst _) (by walk_at "mm")) (hH₁.keeps S₁₂.keep) (by omega) ?_
      any_goals walk_at "om"
      intro h' tk' a₂ kk hn hp
      have S₁₃ := S₁₂.add kk hn (x := .lst _) hp
      clear S₁₂
      walk_at "go"
      rename Sd _ _ _ _ _ => S₁₄
      dsimp only [at'] at S₁₄ ⊢
      obtain ⟨⟨n1, n2⟩, n3, n4, n5⟩ := nmP_facts b0 p
      obtain ⟨⟨m1, m2⟩, m3, m4, m5⟩ := nmP_facts (!b0) p
      refine' c_other S₁₄.nil ?_ (nmP b0 p) _ (by omega) ?_
      any_goals walk_at "om"
      rw [n4]
      intro h' tk' t₉ kk
      walk_at "pure"
      walk_at "go"
      rename Sd _ _ _ _ _ => S₁₅
      have S₁₆ := (S₁₅.perm (sl' := [(lw, .lst (.ref a0 :: uw')), (a₂, .lst _), (_, .ns _), (lk, .lst uk), (_, .cell _), (_, .cell _)]) (by walk_at "pp")).anchor
      have tkA : TK r' _ := S₁₅.tk
      clear S₁₅
      replace huk := Ents.keep tkA huk
      replace huw' := Ents.keep tkA huw'
      have hewAll : All2 Good ((nmP b0 p, rend ls0) :: ew') (p :: W') := ⟨⟨b0, ls0, rfl, rfl, hLP⟩, hew'⟩
      refine' c_del xw lw _ ((nmP b0 p, rend ls0) :: ew') (nmP (!b0) p) _ S₁₆.one ?_ ?_ (hH₁.keeps S₁₆.keep) ⟨⟨a0, t0, t1, rfl, tkA.tuple ht0⟩, huw'⟩ (by omega) (key_le hewAll) (by omega) (by omega) (nmP_plain (!b0) p).2 ?_
      any_goals walk_at "om"
      intro h' tk' uw₂ k₂ hp₂ he₂ hle₂
      have S₁₇ := S₁₆.mutL k₂ hp₂
      have tkB := S₁₇.tk
      replace S₁₇ := S₁₇.anchor
      clear S₁₆
      replace huk := Ents.keep tkB huk
      replace he₂ := Ents.keep tkB he₂
      have hew₂ := goods_filter (!b0) p hewAll
      rw [show (p :: W').filter (· != p) = W'.filter (· != p) by simp] at hew₂
      generalize ((nmP b0 p, rend ls0) :: ew').filter (fun e => Txt.lower e.1 != Txt.lower (nmP (!b0) p)) = ew₂ at he₂ hew₂
      have hWl : (W'.filter (· != p)).length ≤ W'.length := List.length_filter_le _ _
      have hel₂ := hew₂.len
      have hul₂ := he₂.len
      clear huw' hewAll
      walk_at "go"
      rename Sd _ _ _ _ _ => S₁₈
      dsimp only [at'] at S₁₈ ⊢
      have S₁₉ := (S₁₈.perm pm1).drop
      clear S₁₈
      refine' c_bits S₁₉.nil ?_ ?_ (nmP b0 p) _ (by omega) n5 ?_
      any_goals walk_at "om"
      rw [(nmP_val b0 p).1, (nmP_val b0 p).2]
      intro h' tk' a₃ t₁₀ t₁₁ kk hn hp
      have S₂₀ := S₁₉.add kk hn (x := .tup [.int (yOf p : Int) t₁₀, .int (nOf p : Int) t₁₁]) hp
      clear S₁₉
      walk_at "go"
      rename Sd _ _ _ _ _ => S₂₁
      have tkC := S₂₁.tk
      replace S₂₁ := S₂₁.anchor
      replace huk := Ents.keep tkC huk
      replace he₂ := Ents.keep tkC he₂
      refine' c_keys xk lk uk ek S₂₁.nil ?_ ?_ (S₂₁.get (x := .lst uk) (by walk_at "mm")) (hH₂.keeps S₂₁.keep) huk (by omega) ?_
      any_goals walk_at "om"
      intro h' tk' a₄ ks₄ kk hn hp hks₄
      have S₂₂ := S₂₁.add kk hn (x := .lst ks₄) hp
      clear S₂₁
      have hks₄l := hks₄.len
      rw [List.length_map] at hks₄l
      dsimp only [at'] at S₂₂ ⊢
      refine iter_list S₂₂ (S₂₂.get (x := .lst ks₄) (by walk_at "mm")) rfl ?_
      intro I' o' h' T' hst' S₂₃
      clear S₂₂
      refine ⟨I', _, _, _, _, _, _, _, o', rfl, T', by rw [sizeLine_eq]; omega, hst', S₂₃, fun D C => ⟨fun i ys r' sl' => sl' = [(a₄, .lst ks₄), (_, .cell _), (_, .cell _), (a₃, .tup _), (lw, .lst uw₂), (_, .ns _), (lk, .lst uk)] ∧ Ents r' uw₂ ew₂ ∧ Ents r' uk ek ∧ All2 (Trip r') ys (K.take i), ⟨rfl, he₂, huk, by trivial⟩, ?_, ?_, ?_⟩⟩
      · rintro i ys r' sl' sl₁ h' ⟨rfl, _⟩ S₃ hs
        exact Heap.PlainList.isList (S₃.get (x := .lst _) (hs _ (by walk_at "mm")))
      · rintro i v oI ys m r' sl' h₂ tk₂ Post hP hi hv ⟨rfl, hu1, hu2, hys⟩ S₂₄
        clear S₂₃
        have hiK : i < K.length := by omega
        obtain ⟨e, he, t₁₂, rfl⟩ := getMap hks₄ hv
        obtain ⟨q, hq, b1, ls1, h1, h2, hLPq⟩ := hek.get he
        rw [h1]
        obtain ⟨⟨q1, q2⟩, q3, q4, q5⟩ := nmP_facts b1 q
        walk_at "go"
        walk_at "tests"
        walk_at "go"
        rename Sd _ _ _ _ _ => S₂₅
        dsimp only [at'] at S₂₅ ⊢
        refine' c_bits S₂₅.nil ?_ ?_ (nmP b1 q) _ (by omega) q5 ?_
        any_goals walk_at "om"
        rw [(nmP_val b1 q).1, (nmP_val b1 q).2]
        intro h' tk' a₅ t₁₃ t₁₄ kk hn hp
        have S₂₆ := S₂₅.add kk hn (x := .tup [.int (yOf q : Int) t₁₃, .int (nOf q : Int) t₁₄]) hp
        clear S₂₅
        refine r_tadd S₂₆ (S₂₆.get (x := .tup _) (.tail _ (.head _))) (S₂₆.get (x := .tup _) (.head _)) (by simp) (by simp) (by simp) ?_
        intro c₆ h₆ S₂₇
        clear S₂₆
        have htr := S₂₇.get (x := .tup _) (.head _)
        refine hP _ _ <| block_end (S₂₇.anchor.drop.drop.drop) (sl' := [(a₄, .lst ks₄), (_, .cell _), (_, .cell _), (a₃, .tup _), (lw, .lst uw₂), (_, .ns _), (lk, .lst uk)]) (by walk_at "pp") ?_
        (try dsimp only)
        refine ⟨rfl, Ents.keep S₂₇.tk hu1, Ents.keep S₂₇.tk hu2, ?_⟩
        rw [take_next hq]
        exact (All2.imp (fun _ _ => Trip.keep S₂₇.tk) hys).snoc ⟨_, b1, _, _, _, rfl, htr⟩
      · rintro ys m r' sl' h₂ tk₂ ⟨rfl, hu1, hu2, hys⟩ S₂₄
        clear S₂₃
        rw [show ks₄.length = K.length by omega, List.take_length] at hys
        refine ⟨_, _, pm5, ?_⟩
        intro h₇ tk₇ S₂₅
        have S₂₆ := S₂₅.perm (sl' := [(a₄, .lst ks₄), (a₃, .tup _), (L, .ns _), (D, .lst ys), (lw, .lst uw₂), (lk, .lst uk), (_, .cell _), (_, .cell _)]) (by walk_at "pp")
        replace S₂₆ := S₂₆.drop.drop
        clear S₂₄ S₂₅
        dsimp only [at'] at S₂₆ ⊢
        walk_at "go"
        rename Sd _ _ _ _ _ => S₂₇
        have hys₁ := hys.len
        refine iter_list S₂₇ (S₂₇.get (x := .lst ys) (by walk_at "mm")) rfl ?_
        intro I' o' h' T' hst' S₂₈
        clear S₂₇
        refine ⟨I', _, _, _, _, _, _, _, o', rfl, T', by rw [sizeLine_eq]; omega, hst', S₂₈, fun D' C => ⟨fun i zs r'' sl' => r'' = r' ∧ sl' = [(L, .ns _), (D, .lst ys), (lw, .lst uw₂), (lk, .lst uk), (_, .cell (some (.int (nOf p : Int) t₁₁))), (_, .cell (some (.int (yOf p : Int) t₁₀)))] ∧ ∃ xs, Strs zs xs ∧ (∀ x ∈ xs, PyData.strOk x = true) ∧ xs.length = ((K.take i).filter fun k => sub k p).length, ⟨rfl, rfl, [], by trivial, by simp, rfl⟩, ?_, ?_, ?_⟩⟩
        · rintro i zs r' sl' sl₁ h' ⟨_, rfl, _⟩ S₃ hs
          exact Heap.PlainList.isList (S₃.get (x := .lst _) (hs _ (by walk_at "mm")))
        · rintro i v oI zs m r'' sl' h₂ tk₂ Post hP hi hv ⟨rfl, rfl, xs, hzs, hok, hxl⟩ S₂₉
          clear S₂₈
          obtain ⟨q, hq, a₈, b2, t₁₅, t₁₆, t₁₇, rfl, htr⟩ := hys.get hv
          have hsubI := sub_int q p
          walk_at "go"
          walk_at "tests"
          walk_at "go"
          · have hsq : sub q p = true := sub_of _ _ (by assumption) (by assumption)
            rename Sd _ _ _ _ _ => S₃₀
            refine hP _ _ <| block_end S₃₀ (sl' := [(L, .ns _), (D, .lst ys), (lw, .lst uw₂), (lk, .lst uk), (_, .cell _), (_, .cell _)]) (by walk_at "pp") ?_
            (try dsimp only)
            refine ⟨rfl, rfl, xs ++ [nmP b2 q], hzs.snoc (isStr _ _), ?_, ?_⟩
            · intro x hx
              rcases List.mem_append.mp hx with hx | hx
              · exact hok x hx
              · rw [List.mem_singleton] at hx; rw [hx]; exact nmP_ok b2 q
            · rw [filter_next_pos hq hsq, List.length_append, List.length_append, hxl]; rfl
          · have hsq : sub q p = false := sub_not2 _ _ (by assumption)
            rename Sd _ _ _ _ _ => S₃₀
            refine hP _ _ <| block_end S₃₀ (sl' := [(L, .ns _), (D, .lst ys), (lw, .lst uw₂), (lk, .lst uk), (_, .cell _), (_, .cell _)]) (by walk_at "pp") ?_
            (try dsimp only)
            exact ⟨rfl, rfl, xs, hzs, hok, by rw [filter_next_neg hq hsq, hxl]⟩
          · have hsq : sub q p = false := sub_not1 _ _ (by assumption)
            rename Sd _ _ _ _ _ => S₃₀
            refine hP _ _ <| block_end S₃₀ (sl' := [(L, .ns _), (D, .lst ys), (lw, .lst uw₂), (lk, .lst uk), (_, .cell _), (_, .cell _)]) (by walk_at "pp") ?_
            (try dsimp only)
            exact ⟨rfl, rfl, xs, hzs, hok, by rw [filter_next_neg hq hsq, hxl]⟩
        · rintro zs m r'' sl' h₂ tk₂ ⟨rfl, rfl, xs, hzs, hok, hxl⟩ S₂₉ h₈ S₃₀
          clear S₂₈ S₂₉
          rw [show ys.length = K.length by omega, List.take_length] at hxl
          walk_at "go"
          rename Sd _ _ _ _ _ => S₃₁
          refine r_eqStrs (us := []) (ys := []) (S₃₁.get (x := .lst zs) (by walk_at "mm")) (S₃₁.get (x := .lst []) (by walk_at "mm")) hzs (by trivial) hok (by simp) (by walk_at "om") ?_
          have S₃₂ := (S₃₁.drop.drop.perm (sl' := [(D, .lst ys), (L, .ns _), (lw, .lst uw₂), (lk, .lst uk), (_, .cell _), (_, .cell _)]) (by walk_at "pp"))
          clear S₃₁
          walk_at "go"
          · -- <<B
            have hxs : xs = [] := of_decide_eq_true (by assumption)
            have hs : ∀ k ∈ K, sub k p = false := fun k hk => by
              cases e : sub k p with
              | false => rfl
              | true =>
                have : k ∈ K.filter fun k => sub k p := List.mem_filter.mpr ⟨hk, e⟩
                rw [List.eq_nil_of_length_eq_zero (hxl.symm.trans (by rw [hxs]; rfl))] at this
                cases this
            have hKn := anti_nodup hI.anti
            refine for_rule (fun _ => rfl) ?_
            walk_at "go"
            rename Sd _ _ _ _ _ => S₃₃
            dsimp only [at'] at S₃₃ ⊢
            refine iter_list S₃₃ (S₃₃.get (x := .lst ys) (by walk_at "mm")) rfl ?_
            intro I' o' h' T' hst' S₃₄
            clear S₃₃
            refine ⟨I', _, _, _, _, _, _, _, o', fun i r' sl' => IvF D L lw lk _ _ xw xk ys K W' p ls0 b0 t0 t1 (some (.int (nOf p : Int) t₁₁)) (some (.int (yOf p : Int) t₁₀)) i r' sl', rfl, T', hst', S₃₄, ⟨_, uw₂, ew₂, uk, ek, tn, rfl, by walk_at "lk", by walk_at "lk", by walk_at "lk", by walk_at "lk", ⟨_, by walk_at "lk"⟩, hu1, hu2, hys, by simpa using hew₂, by simpa using hek⟩, ?_, ?_, ?_⟩
            · rintro i r' sl' h' o' ⟨m, uw₃, ew₃, uk₃, ek₃, tn', rfl, _⟩ S₃
              exact Heap.PlainList.isList (S₃.get (x := .lst ys) (by walk_at "mm"))
            · -- <<C
              rintro i v oI r' sl' h₂ tk₂ Post hP hi hv ⟨m, uw₃, ew₃, uk₃, ek₃, tn', rfl, hm1, hm2, hm4, hm5, ⟨t₂₀, hm3⟩, hu1, hu2, hys, hew₃, hek₃⟩ S₃₅
              clear S₃₄
              obtain ⟨q, hq, a₈, b2, t₁₅, t₁₆, t₁₇, rfl, htr⟩ := hys.get hv
              have hyn := yn_lt q
              have hlk : ek₃.length ≤ K.length := by
                have := List.length_filter_le (fun k => !sub p k) (K.take i)
                rw [List.length_take] at this
                rw [hek₃.len, List.length_append, List.length_drop]; omega
              have hlw : ew₃.length ≤ (W'.filter (· != p)).length + 27 := by
                have := List.length_filter_le (fun k => one (cl p k)) (K.take i)
                rw [List.length_take] at this
                rw [hew₃.len, List.length_append, List.length_map]; omega
              have hlk' := hu2.len
              have hlw' := hu1.len
              simp only [List.length_cons] at hbd
              walk_at "go"
              all_goals (rename Sd _ _ _ _ _ => S₃₆)
              all_goals (dsimp only [at'] at S₃₆ ⊢)
              · -- <<D
                have hsq : sub p q = true := sub_of p q (by assumption) (by assumption)
                obtain ⟨⟨q1, q2⟩, q3, q4, q5⟩ := nmP_facts b2 q
                obtain ⟨⟨q6, q7⟩, q8, q9, q10⟩ := nmP_facts (!b2) q
                refine' c_other S₃₆.nil ?_ (nmP b2 q) _ (by omega) ?_
                any_goals walk_at "om"
                rw [q4]
                intro h' tk' t₂₁ kk
                walk_at "pure"
                walk_at "go"
                rename Sd _ _ _ _ _ => S₃₇
                have S₃₈ := (S₃₇.perm (sl' := [(lk, .lst uk₃), (I', .ob oI), (D, .lst ys), (L, .ns _), (lw, .lst uw₃), (_, .cell _), (_, .cell _)]) (by walk_at "pp")).anchor
                have tkA := S₃₇.tk
                clear S₃₇
                replace hu1 := Ents.keep tkA hu1
                replace hu2 := Ents.keep tkA hu2
                replace hys := All2.imp (fun _ _ => Trip.keep tkA) hys
                refine' c_del xk lk _ ek₃ (nmP (!b2) q) _ S₃₈.one ?_ ?_ (hH₂.keeps S₃₈.keep) hu2 (by omega) (key_le hek₃) (by omega) (by omega) (nmP_plain (!b2) q).2 ?_
                any_goals walk_at "om"
                intro h' tk' uk₄ k₂ hp₂ he₂ hle₂
                have S₃₉ := S₃₈.mutL k₂ hp₂
                have tkB := S₃₉.tk
                replace S₃₉ := S₃₉.anchor
                clear S₃₈
                replace hu1 := Ents.keep tkB hu1
                replace he₂ := Ents.keep tkB he₂
                replace hys := All2.imp (fun _ _ => Trip.keep tkB) hys
                have hek₄ := goods_filter (!b2) q hek₃
                rw [del_step hKn hq hsq] at hek₄
                walk_at "go"
                rename Sd _ _ _ _ _ => S₄₀
                refine hP .next _ <| turn_end S₄₀ (sl' := [(D, .lst ys), (L, .ns _), (lw, .lst uw₃), (lk, .lst uk₄), (_, .cell _), (_, .cell _)]) (by walk_at "pp") ?_
                (try dsimp only)
                exact ⟨_, uw₃, ew₃, uk₄, _, tn', rfl, by walk_at "lk", by walk_at "lk", by walk_at "lk", by walk_at "lk", ⟨_, by walk_at "lk"⟩, hu1, he₂, hys, by rw [none_step hq (by rw [cl_sub _ _ hsq]; rfl)]; exact hew₃, hek₄⟩
              all_goals (have hsq : sub p q = false := by first | exact sub_not1 p q (by assumption) | exact sub_not2 p q (by assumption))
              all_goals (have hek₃' := hek₃; rw [keep_step hq hsq] at hek₃)
              all_goals (refine r_in3b (S₃₆.get (x := .tup _) (.head _)) (by walk_at "om") (cl_int p q) (b := one (cl p q)) rfl ?_)
              all_goals (replace S₃₆ := S₃₆.drop)
              all_goals (cases h1 : one (cl p q))
              all_goals walk_at "go"
              all_goals (rename Sd _ _ _ _ _ => S₃₇)
              any_goals
                (refine hP .next _ <| turn_end S₃₇ (sl' := [(D, .lst ys), (L, .ns _), (lw, .lst uw₃), (lk, .lst uk₃), (_, .cell _), (_, .cell _)]) (by walk_at "pp") ?_
                 (try dsimp only)
                 exact ⟨_, uw₃, ew₃, uk₃, ek₃, tn', rfl, by walk_at "lk", by walk_at "lk", by walk_at "lk", by walk_at "lk", ⟨_, by walk_at "lk"⟩, hu1, hu2, hys, by rw [none_step hq h1]; exact hew₃, hek₃⟩)
              all_goals (obtain ⟨⟨q1, q2⟩, q3, q4, q5⟩ := nmP_facts b2 q)
              all_goals (obtain ⟨⟨q6, q7⟩, q8, q9, q10⟩ := nmP_facts (!b2) q)
              all_goals (refine' c_wordP S₃₇.nil ?_ ?_ _ _ _ _ _ _ (cn p q) (by rw [cl_int]; exact (cn_int p q h1).1) (by rw [cl_int]; exact (cn_int p q h1).2) ?_)
              any_goals walk_at "om"
              all_goals (intro h' tk' b3 t₂₂ kk)
              all_goals walk_at "pure"
              all_goals walk_at "go"
              all_goals (rename Sd _ _ _ _ _ => S₃₈)
              all_goals (refine' c_other S₃₈.nil ?_ (nmP b2 q) _ (by omega) ?_)
              any_goals walk_at "om"
              all_goals (rw [q4]; intro h' tk' t₂₃ kk)
              all_goals walk_at "pure"
              all_goals walk_at "go"
              all_goals (rename Sd _ _ _ _ _ => S₃₉)
              all_goals (dsimp only [at'] at S₃₉ ⊢)
              all_goals (obtain ⟨vf, hvf, bf, lsf, hf1, hf2, hLPf⟩ := goods_find (!b2) q hek₃' (List.mem_append_right _ (by rw [drop_get hq]; exact .head _)))
              all_goals (refine' c_get xk lk uk₃ ek₃ (nmP (!b2) q) _ S₃₉.nil ?_ ?_ (S₃₉.get (x := .lst uk₃) (by walk_at "mm")) (hH₂.keeps S₃₉.keep) (Ents.keep S₃₉.tk hu2) (by omega) (key_le hek₃) (by omega) (by omega) (nmP_plain (!b2) q).2 vf hvf ?_)
              any_goals walk_at "om"
              all_goals (rw [hf2]; intro h' tk' t₂₄ kk)
              all_goals walk_at "pure"
              all_goals walk_at "go"
              all_goals (rename Sd _ _ _ _ _ => S₄₀)
              all_goals (dsimp only [at'] at S₄₀ ⊢)
              all_goals (refine' c_joinedP S₄₀.nil ?_ ?_ ls0 lsf p q _ _ _ _ hLP hLPf h1 (cl_int p q) ?_)
              any_goals walk_at "om"
              all_goals (intro h' tk' ls₅ t₂₅ kk hLP₅)
              all_goals walk_at "pure"
              all_goals walk_at "go"
              all_goals (rename Sd _ _ _ _ _ => S₄₁)
              all_goals (dsimp only [at'] at S₄₁ ⊢)
              all_goals (have S₄₂ := S₄₁.perm (sl' := [(lw, .lst uw₃), (I', .ob oI), (D, .lst ys), (L, .ns _), (lk, .lst uk₃), (_, .cell _), (_, .cell _)]) (by walk_at "pp"))
              all_goals clear S₄₁
              all_goals (have n9 := (nmP_facts b3 (cn p q)).1.1)
              all_goals (have n10 := hLP₅.len)
              all_goals (refine' c_addh xw lw uw₃ (nmP b3 (cn p q)) (rend ls₅) _ _ S₄₂.one ?_ ?_ (hH₁.keeps S₄₂.keep) (by omega) (by omega) (by omega) (nmP_plain b3 (cn p q)).1 (Plain_rend ls₅) ?_)
              any_goals walk_at "om"
              all_goals (intro h' tk' v6 k6 hp6 he6)
              all_goals (have S₄₃ := (S₄₂.mutL k6 hp6).anchor; have tk6 := (S₄₂.mutL k6 hp6).tk; clear S₄₂)
              all_goals walk_at "go"
              all_goals (rename Sd _ _ _ _ _ => S₄₄)
              all_goals (refine hP .next _ <| turn_end S₄₄ (sl' := [(D, .lst ys), (L, .ns _), (lw, .lst (uw₃ ++ [v6])), (lk, .lst uk₃), (_, .cell _), (_, .cell _)]) (by walk_at "pp") ?_)
              all_goals (try dsimp only)
              all_goals (refine ⟨_, _, ew₃ ++ [(nmP b3 (cn p q), rend ls₅)], uk₃, ek₃, _, rfl, by walk_at "lk", by walk_at "lk", by walk_at "lk", by walk_at "lk", ⟨_, by walk_at "lk"⟩, (Ents.keep tk6 hu1).snoc he6, Ents.keep tk6 hu2, All2.imp (fun _ _ => Trip.keep tk6) hys, ?_, hek₃⟩)
              all_goals (rw [one_step hq h1, ← List.append_assoc]; exact hew₃.snoc ⟨b3, ls₅, rfl, rfl, hLP₅⟩)
            · rintro r' sl' h₂ tk₂ ⟨m, uw₃, ew₃, uk₃, ek₃, tn', rfl, hm1, hm2, hm4, hm5, ⟨t₂₀, hm3⟩, hu1, hu2, hys, hew₃, hek₃⟩ S₃₅
              clear S₃₄
              rw [show ys.length = K.length by omega, List.take_length, List.drop_length, List.append_nil] at hek₃
              rw [show ys.length = K.length by omega, List.take_length] at hew₃
              have hlk : ek₃.length ≤ K.length := by
                have := List.length_filter_le (fun k => !sub p k) K
                rw [hek₃.len]; omega
              have hlw : ew₃.length ≤ (W'.filter (· != p)).length + K.length := by
                have := List.length_filter_le (fun k => one (cl p k)) K
                rw [hew₃.len, List.length_append, List.length_map]; omega
              have hlk' := hu2.len
              have hlw' := hu1.len
              have hbl := bare_lt (K := K) (p := p) hs
              simp only [List.length_cons] at hbd
              walk_at "go"
              rename Sd _ _ _ _ _ => S₃₆
              have S₃₇ := S₃₆.perm (sl' := [(lk, .lst uk₃), (D, .lst ys), (L, .ns _), (lw, .lst uw₃), (_, .cell _), (_, .cell _)]) (by walk_at "pp")
              clear S₃₆
              have n10 := hLP.len
              refine' c_addh xk lk uk₃ (nmP b0 p) (rend ls0) _ _ S₃₇.one ?_ ?_ (hH₂.keeps S₃₇.keep) (by omega) (by omega) (by omega) (nmP_plain b0 p).1 (Plain_rend ls0) ?_
              any_goals walk_at "om"
              intro h' tk' v7 k7 hp7 he7
              have S₃₈ := (S₃₇.mutL k7 hp7).anchor
              have tk7 := (S₃₇.mutL k7 hp7).tk
              clear S₃₇
              walk_at "go"
              rename Sd _ _ _ _ _ => S₃₉
              refine hP .next _ <| while_end ((S₃₉.perm pm1).drop) (sl' := [(L, .ns _), (lw, .lst uw₃), (lk, .lst (uk₃ ++ [v7])), (_, .cell _), (_, .cell _)]) (by walk_at "pp") (n' := 28 * bare (K.filter (fun k => !sub p k) ++ [p]) + (W'.filter (· != p) ++ (K.filter fun k => one (cl p k)).map (cn p)).length) ?_ ?_
              (try dsimp only)
              · have := hew₃.len
                simp only [List.length_cons]
                omega
              · refine ⟨_, uw₃, ew₃, _, ek₃ ++ [(nmP b0 p, rend ls0)], _, _, _, _, tn', rfl, by walk_at "lk", by walk_at "lk", ⟨_, by walk_at "lk"⟩, Ents.keep tk7 hu1, (Ents.keep tk7 hu2).snoc he7, hew₃, hek₃.snoc ⟨b0, ls0, rfl, rfl, hLP⟩, hI.keep hs, ?_, rfl⟩
                have := hew₃.len
                omega
          · have hxs : xs ≠ [] := of_decide_eq_false (by assumption)
            obtain ⟨k, hk⟩ : ∃ k, k ∈ K.filter fun k => sub k p := by
              cases hf : K.filter fun k => sub k p with
              | nil => rw [hf] at hxl; exact absurd (List.eq_nil_of_length_eq_zero hxl) hxs
              | cons k r => exact ⟨k, .head _⟩
            obtain ⟨hkK, hks'⟩ := List.mem_filter.mp hk
            rename Sd _ _ _ _ _ => S₃₃
            refine hP .next _ <| while_end S₃₃.drop (sl' := [(L, .ns _), (lw, .lst uw₂), (lk, .lst uk), (_, .cell _), (_, .cell _)]) (by walk_at "pp") (n' := 28 * bare K + (W'.filter (· != p)).length) (by simp only [List.length_cons]; omega) ?_
            (try dsimp only)
            exact ⟨_, uw₂, ew₂, uk, ek, _, K, _, _, tn, rfl, by walk_at "lk", by walk_at "lk", ⟨_, by walk_at "lk"⟩, hu1, hu2, hew₂, hek, hI.drop hkK hks', by simp only [List.length_cons] at hbd; omega, rfl⟩
end
end Mine
namespace Mine
theorem ints_are : ∀ {vs : List Value} {ns : List Int}, All2 IsInt vs ns → IntsAre vs ns
  | [], [], _ => .nil
  | _ :: _, n :: _, h => by
    obtain ⟨⟨t, rfl⟩, h2⟩ := h
    exact .cons n t (ints_are h2)
section
variable {prog : Program} {w : World} {A : Around} {E : Value → Shared → Prop} {s : Shared} {g r : Heap} {sl : List (Addr × Sp)} {a b l : Addr} {Q : Value → Shared → Prop}
theorem r_sum {vs : List Value} {ns : List Int} (S : Sd w g r sl s.heap) (hh : A.handled = none) (hl : s.heap.PlainList l vs.toArray) (hi : All2 IsInt vs ns) (h : ∀ h' tk t', Sd w g r sl h' → Q (.int ns.sum t') (at' s h' tk)) :
    wpAny (model prog w) A (call (.builtin "sum") [.ref l]) Q E s := by
  have hI := ints_are hi
  obtain ⟨xs, e⟩ := hI.allInts.items
  have hn := hI.numsOf
  have hn2 := nums_intItems (xs := xs)
  rw [← e] at hn2
  refine sum_intListG (xs := xs) hh (e ▸ hl.isList) fun h' tk t' hk => ?_
  have := h h' tk t' (S.ext hk)
  rw [preSum_eq, List.take_of_length_le (by simp)]
  rw [show vs.toArray.toList = vs from rfl, hn] at hn2
  rw [hn2] at this
  exact this
theorem r_eqInts {ks us : List Value} {xs ys : List Int} (ha : s.heap.PlainList a ks.toArray) (hb : s.heap.PlainList b us.toArray) (h1 : All2 IsInt ks xs) (h2 : All2 IsInt us ys) (hu : A.units + 64 < cLine)
    (h : Q (.bool (decide (xs = ys))) s) : wpAny (model prog w) A (compareOp .Eq (.ref a) (.ref b)) Q E s := ke_eq_ints ha.isList hb.isList (ints_are h1) (ints_are h2) hu h
theorem r_neInts {ks us : List Value} {xs ys : List Int} (ha : s.heap.PlainList a ks.toArray) (hb : s.heap.PlainList b us.toArray) (h1 : All2 IsInt ks xs) (h2 : All2 IsInt us ys) (hu : A.units + 64 < cLine)
    (h : Q (.bool (!decide (xs = ys))) s) : wpAny (model prog w) A (compareOp .NotEq (.ref a) (.ref b)) Q E s := ke_ne_ints ha.isList hb.isList (ints_are h1) (ints_are h2) hu h
theorem r_notinInts {ks : List Value} {xs : List Int} {x : Int} {t : Tok} (ha : s.heap.PlainList a ks.toArray) (h1 : All2 IsInt ks xs)
    (h : Q (.bool (!(xs.any (· == x)))) s) : wpAny (model prog w) A (compareOp .NotIn (.int x t) (.ref a)) Q E s := notin_list_ints ha.isList (ints_are h1) h
end
end Mine
local macro_rules | `(tactic| walk_at "ss") => `(tactic| ((repeat (first | apply List.Sublist.cons_cons | apply List.Sublist.cons)); exact List.Sublist.slnil))
local macro_rules | `(tactic| walk_at "pp") => `(tactic| ((repeat (refine List.Perm.trans (by walk_at "pm") (List.Perm.cons _ ?_))); exact List.Perm.nil))
namespace Mine
theorem pm9 {α : Type} {x a b c d e f g h i : α} {z : List α} : (a :: b :: c :: d :: e :: f :: g :: h :: i :: x :: z).Perm (x :: a :: b :: c :: d :: e :: f :: g :: h :: i :: z) := (List.Perm.cons a pm8).trans pm1
theorem pm10 {α : Type} {x a b c d e f g h i j : α} {z : List α} : (a :: b :: c :: d :: e :: f :: g :: h :: i :: j :: x :: z).Perm (x :: a :: b :: c :: d :: e :: f :: g :: h :: i :: j :: z) := (List.Perm.cons a pm9).trans pm1
theorem pm11 {α : Type} {x a b c d e f g h i j k : α} {z : List α} : (a :: b :: c :: d :: e :: f :: g :: h :: i :: j :: k :: x :: z).Perm (x :: a :: b :: c :: d :: e :: f :: g :: h :: i :: j :: k :: z) := (List.Perm.cons a pm10).trans pm1
theorem pm12 {α : Type} {x a b c d e f g h i j k l : α} {z : List α} : (a :: b :: c :: d :: e :: f :: g :: h :: i :: j :: k :: l :: x :: z).Perm (x :: a :: b :: c :: d :: e :: f :: g :: h :: i :: j :: k :: l :: z) := (List.Perm.cons a pm11).trans pm1
theorem pm13 {α : Type} {x a b c d e f g h i j k l m : α} {z : List α} : (a :: b :: c :: d :: e :: f :: g :: h :: i :: j :: k :: l :: m :: x :: z).Perm (x :: a :: b :: c :: d :: e :: f :: g :: h :: i :: j :: k :: l :: m :: z) := (List.Perm.cons a pm12).trans pm1
end Mine
local macro_rules | `(tactic| walk_at "subscriptTail") => `(tactic| ((with_reducible show wpAny _ _ (subscriptTail _ _ (Value.str _ _) (Value.int _ _)) _ _ _); k_dflt (refine' KXi.item ?zzk ?zza ?zzb ?zzc ?_; (case zzk => exact (rfl : _ = 8)); (case zza | zzb => walk_at "zn"); (case zzc => first | decide | omega); k_whole; intro hlen1)))
namespace Mine
theorem pm14 {α : Type} {x a b c d e f g h i j k l m n : α} {z : List α} : (a :: b :: c :: d :: e :: f :: g :: h :: i :: j :: k :: l :: m :: n :: x :: z).Perm (x :: a :: b :: c :: d :: e :: f :: g :: h :: i :: j :: k :: l :: m :: n :: z) := (List.Perm.cons a pm13).trans pm1
theorem pm15 {α : Type} {x a b c d e f g h i j k l m n o : α} {z : List α} : (a :: b :: c :: d :: e :: f :: g :: h :: i :: j :: k :: l :: m :: n :: o :: x :: z).Perm (x :: a :: b :: c :: d :: e :: f :: g :: h :: i :: j :: k :: l :: m :: n :: o :: z) := (List.Perm.cons a pm14).trans pm1
theorem pm16 {α : Type} {x a b c d e f g h i j k l m n o p : α} {z : List α} : (a :: b :: c :: d :: e :: f :: g :: h :: i :: j :: k :: l :: m :: n :: o :: p :: x :: z).Perm (x :: a :: b :: c :: d :: e :: f :: g :: h :: i :: j :: k :: l :: m :: n :: o :: p :: z) := (List.Perm.cons a pm15).trans pm1
theorem pm17 {α : Type} {x a b c d e f g h i j k l m n o p q : α} {z : List α} : (a :: b :: c :: d :: e :: f :: g :: h :: i :: j :: k :: l :: m :: n :: o :: p :: q :: x :: z).Perm (x :: a :: b :: c :: d :: e :: f :: g :: h :: i :: j :: k :: l :: m :: n :: o :: p :: q :: z) := (List.Perm.cons a pm16).trans pm1
theorem pm18 {α : Type} {x a b c d e f g h i j k l m n o p q s : α} {z : List α} : (a :: b :: c :: d :: e :: f :: g :: h :: i :: j :: k :: l :: m :: n :: o :: p :: q :: s :: x :: z).Perm (x :: a :: b :: c :: d :: e :: f :: g :: h :: i :: j :: k :: l :: m :: n :: o :: p :: q :: s :: z) := (List.Perm.cons a pm17).trans pm1
theorem pm19 {α : Type} {x a b c d e f g h i j k l m n o p q s t : α} {z : List α} : (a :: b :: c :: d :: e :: f :: g :: h :: i :: j :: k :: l :: m :: n :: o :: p :: q :: s :: t :: x :: z).Perm (x :: a :: b :: c :: d :: e :: f :: g :: h :: i :: j :: k :: l :: m :: n :: o :: p :: q :: s :: t :: z) := (List.Perm.cons a pm18).trans pm1
theorem pm20 {α : Type} {x a b c d e f g h i j k l m n o p q s t u : α} {z : List α} : (a :: b :: c :: d :: e :: f :: g :: h :: i :: j :: k :: l :: m :: n :: o :: p :: q :: s :: t :: u :: x :: z).Perm (x :: a :: b :: c :: d :: e :: f :: g :: h :: i :: j :: k :: l :: m :: n :: o :: p :: q :: s :: t :: u :: z) := (List.Perm.cons a pm19).trans pm1
end Mine
local macro_rules | `(tactic| walk_at "pm") => `(tactic| first | exact Mine.pm0 | exact Mine.pm1 | exact Mine.pm2 | exact Mine.pm3 | exact Mine.pm4 | exact Mine.pm5 | exact Mine.pm6 | exact Mine.pm7 | exact Mine.pm8 | exact Mine.pm9 | exact Mine.pm10 | exact Mine.pm11 | exact Mine.pm12 | exact Mine.pm13 | exact Mine.pm14 | exact Mine.pm15 | exact Mine.pm16 | exact Mine.pm17 | exact Mine.pm18 | exact Mine.pm19 | exact Mine.pm20)
namespace Mine
/-- the figures that are d, as powers -/
noncomputable def pows (p : Pr) (d : Nat) (i : Nat) : List Int := ((List.range i).filter fun j => fg p j == d).map fun j => (2 : Int) ^ j
theorem pows_sum : ∀ p : Pr, (pows p 1 3).sum = (yOf p : Int) ∧ (pows p 2 3).sum = (nOf p : Int) := by decide +kernel
theorem pows_pos {p : Pr} {d i : Nat} (h : fg p i = d) : pows p d (i + 1) = pows p d i ++ [(2 : Int) ^ i] := by
  unfold pows
  rw [List.range_succ, List.filter_append, List.map_append]
  simp [h]
theorem pows_neg {p : Pr} {d i : Nat} (h : ¬ fg p i = d) : pows p d (i + 1) = pows p d i := by
  unfold pows
  rw [List.range_succ, List.filter_append, List.map_append]
  simp [h]
/-- place by place -/
noncomputable def atYN (y n x : Nat) : Bool := (y &&& x) == y && (n &&& x) == 0
noncomputable def ptN (O : List Pr) (x : Nat) : Bool := O.any fun p => atYN (yOf p) (nOf p) x
noncomputable def ptsN (O : List Pr) (i : Nat) : List Int := ((List.range i).filter (ptN O)).map Int.ofNat
theorem ptsN_pos {O : List Pr} {i : Nat} (h : ptN O i = true) : ptsN O (i + 1) = ptsN O i ++ [(i : Int)] := by
  unfold ptsN
  rw [List.range_succ, List.filter_append, List.map_append]
  simp [h]
theorem ptsN_neg {O : List Pr} {i : Nat} (h : ptN O i = false) : ptsN O (i + 1) = ptsN O i := by
  unfold ptsN
  rw [List.range_succ, List.filter_append, List.map_append]
  simp [h]
theorem at_yes {y n x : Nat} (h1 : Builtin.bitAnd (y : Int) (x : Int) = (y : Int)) (h2 : Builtin.bitAnd (n : Int) (x : Int) = 0) : atYN y n x = true := by
  rw [bitAnd_nat] at h1 h2
  have e1 : y &&& x = y := by omega
  have e2 : n &&& x = 0 := by omega
  simp [atYN, e1, e2]
theorem at_no1 {y n x : Nat} (h1 : ¬ Builtin.bitAnd (y : Int) (x : Int) = (y : Int)) : atYN y n x = false := by
  rw [bitAnd_nat] at h1
  have e1 : ¬ (y &&& x) = y := by omega
  simp [atYN, e1]
theorem at_no2 {y n x : Nat} (h1 : ¬ Builtin.bitAnd (n : Int) (x : Int) = 0) : atYN y n x = false := by
  rw [bitAnd_nat] at h1
  have e1 : ¬ (n &&& x) = 0 := by omega
  simp [atYN, e1]
/-- the pairs that are implied, among the first k of the sixty-four -/
noncomputable def impB (O : List Pr) (k : Nat) : Bool := (k / 8 &&& k % 8) == 0 && (List.range 8).all fun x => !(atYN (k / 8) (k % 8) x && !ptN O x)
noncomputable def impK (O : List Pr) (k : Nat) : List (Nat × Nat) := ((List.range k).filter (impB O)).map fun k => (k / 8, k % 8)
theorem impK_pos {O : List Pr} {k : Nat} (h : impB O k = true) : impK O (k + 1) = impK O k ++ [(k / 8, k % 8)] := by
  unfold impK
  rw [List.range_succ, List.filter_append, List.map_append]
  simp [h]
theorem impK_neg {O : List Pr} {k : Nat} (h : impB O k = false) : impK O (k + 1) = impK O k := by
  unfold impK
  rw [List.range_succ, List.filter_append, List.map_append]
  simp [h]
theorem ptsN_any {O : List Pr} {x : Nat} (hx : x < 8) : (ptsN O 8).any (· == (x : Int)) = ptN O x := by
  cases e : ptN O x with
  | true =>
    rw [List.any_eq_true]
    exact ⟨(x : Int), List.mem_map.mpr ⟨x, List.mem_filter.mpr ⟨List.mem_range.mpr hx, e⟩, rfl⟩, by simp⟩
  | false =>
    rw [List.any_eq_false]
    intro z hz
    obtain ⟨y, hy, rfl⟩ := List.mem_map.mp hz
    obtain ⟨_, h2⟩ := List.mem_filter.mp hy
    intro c
    have c' : (y : Int) = (x : Int) := by simpa using c
    have : y = x := by omega
    rw [this, e] at h2; cases h2
theorem range_next {f : Nat → Bool} {i : Nat} : ((List.range (i + 1)).filter f).length = ((List.range i).filter f).length + (if f i = true then 1 else 0) := by
  rw [List.range_succ, List.filter_append, List.length_append]
  cases h : f i <;> simp [h]
theorem impK_lt {O : List Pr} {k : Nat} (hk : k ≤ 64) : ∀ q ∈ impK O k, q.1 < 8 ∧ q.2 < 8 := by
  intro q hq
  obtain ⟨j, hj, rfl⟩ := List.mem_map.mp hq
  have := List.mem_range.mp (List.mem_filter.mp hj).1
  dsimp only
  omega
/-- a name left out of an implied pair leaves one that is not implied -/
noncomputable def cutB (I : List (Nat × Nat)) (y n b : Nat) : Bool := decide (0 < ((y ||| n) &&& b)) && decide ((y - (y &&& b), n - (n &&& b)) ∈ I)
noncomputable def dueB (I : List (Nat × Nat)) (q : Nat × Nat) : Bool := ([1, 2, 4].filter (cutB I q.1 q.2)).isEmpty
noncomputable def dueS (q : Nat × Nat) : Str := apS (kOf q.1 q.2)
noncomputable def dueL (O : List Pr) : List Str := ((impK O 64).filter (dueB (impK O 64))).map dueS
theorem bitAnd_not (y b : Nat) : Builtin.bitAnd (y : Int) (Builtin.bitNot (b : Int)) = ((y - (y &&& b) : Nat) : Int) := by
  have e : Builtin.bitNot (b : Int) = -(b : Int) - 1 := rfl
  have f : Builtin.bitNot (-(b : Int) - 1) = b := by show -(-(b : Int) - 1) - 1 = b; omega
  unfold Builtin.bitAnd
  rw [e, decide_eq_true (Int.natCast_nonneg y), decide_eq_false (by omega)]
  dsimp only
  rw [f]
  have : y &&& b ≤ y := Nat.and_le_left
  simp only [Int.toNat_natCast]
  omega
theorem item_facts : ∀ y n : Fin 8, (0 < y.val → Txt.item (Str.ofString "ABCDEFGH") (y.val : Int) ++ Txt.item (Str.ofString "ABCDEFGH") (n.val : Int) = apS (kOf y.val n.val)) ∧ (y.val = 0 → 0 < n.val → Str.ofString "" ++ Txt.item (Str.ofString "ABCDEFGH") (n.val : Int) = apS (kOf y.val n.val)) ∧ (y.val = 0 → n.val = 0 → Str.ofString "" ++ Str.ofString "" = apS (kOf y.val n.val)) := by decide +kernel
inductive IvD1 (L : Addr) (xs : List Int) (i : Nat) (r' : Heap) (sl' : List (Addr × Sp)) : Prop
  | mk (m : Str → Option Value) (c1 c2 c3 : Option Value) (p : Addr) (us : List Value) (e : sl' = [(L, .ns m), (L + 1 + 1 + 1 + 1 + 1 + 1, .cell none), (L + 1 + 1 + 1 + 1 + 1, .cell none), (L + 1 + 1 + 1 + 1, .cell c1), (L + 1 + 1 + 1, .cell c2), (L + 1 + 1, .cell c3), (L + 1, .cell (some (.ref p))), (p, .lst us)])
    (h : All2 (Pair r') us ((xs.take i).map fun x => yn (prX x)))
inductive IvD2 (X : Addr) (oX : Obj) (L D p : Addr) (zs us : List Value) (O : List Pr) (y : Nat) (r' : Heap) (sl' : List (Addr × Sp)) : Prop
  | mk (m : Str → Option Value) (c1 c2 c3 : Option Value) (q : Addr) (us2 : List Value) (e : sl' = [(X, .ob oX), (L + 1 + 1 + 1 + 1 + 1 + 1, .cell (some (.ref q))), (q, .lst us2), (L + 1 + 1 + 1 + 1 + 1, .cell (some (.ref D))), (D, .lst zs), (L, .ns m), (L + 1 + 1 + 1 + 1, .cell c1), (L + 1 + 1 + 1, .cell c2), (L + 1 + 1, .cell c3), (L + 1, .cell (some (.ref p))), (p, .lst us)])
    (h1 : All2 (Pair r') us (O.map yn)) (h2 : All2 (Pair r') us2 (impK O (8 * y)))
inductive IvD3 (X : Addr) (oX : Obj) (I₁ : Addr) (oI₁ : Obj) (Y : Addr) (oY : Obj) (L D p q : Addr) (zs us : List Value) (O : List Pr) (y : Nat) (t₂ : Tok) (c3 : Option Value) (n : Nat) (r' : Heap) (sl' : List (Addr × Sp)) : Prop
  | mk (m : Str → Option Value) (c1 : Option Value) (us2 : List Value) (e : sl' = [(X, .ob oX), (I₁, .ob oI₁), (Y, .ob oY), (L + 1 + 1 + 1 + 1 + 1 + 1, .cell (some (.ref q))), (q, .lst us2), (L + 1 + 1 + 1 + 1 + 1, .cell (some (.ref D))), (D, .lst zs), (L, .ns m), (L + 1 + 1 + 1 + 1, .cell c1), (L + 1 + 1 + 1, .cell (some (.int (y : Int) t₂))), (L + 1 + 1, .cell c3), (L + 1, .cell (some (.ref p))), (p, .lst us)])
    (h1 : All2 (Pair r') us (O.map yn)) (h2 : All2 (Pair r') us2 (impK O (8 * y + n)))
inductive IvD4 (g₀ : Heap) (L q : Addr) (us2 : List Value) (J : List (Nat × Nat)) (i : Nat) (r₅ : Heap) (sl' : List (Addr × Sp)) : Prop
  | mk (h0 : r₅ = g₀) (m : Str → Option Value) (d : Addr) (ds : List Value) (c1 c2 : Option Value) (e : sl' = [(L, .ns m), (d, .lst ds), (L + 1 + 1 + 1 + 1 + 1 + 1, .cell (some (.ref q))), (q, .lst us2), (L + 1 + 1 + 1 + 1, .cell c1), (L + 1 + 1 + 1, .cell c2)]) (h1 : m "due" = some (.ref d))
    (h2 : Strs ds (((J.take i).filter (dueB J)).map dueS))
section
variable {w : World} {dp un : Nat} {fr : Option (List Env)} {gs : Option (List Code)} {s : Shared} {g r : Heap} {Q : Value → Shared → Prop} {E : Value → Shared → Prop}
theorem c_due (S : Sd w g r [] s.heap) (hd : dp + 40 < recursionLimit) (hun : un + 200 < cLine) (dx : Addr) (vs : List Value) (xs : List Int) (hl : s.heap.PlainList dx vs.toArray) (hvs : All2 IsInt vs xs) (hlen : xs.length = 4)
    (h : ∀ h' tk a ks, s.heap.StaysIn h' → s.heap.get? a = none → h'.PlainList a (List.toArray ks) → Strs ks (dueL (xs.map prX)) → Q (.ref a) (at' s h' tk)) :
    wpAny (MD w) (AR dp un fr gs) (call (.ref 279) [.ref dx]) Q E s := by
  refine' enterG S [("draws", .ref dx)] (fun y => if y = "draws" then some (.ref dx) else none) (fun L => [(L + 1 + 1 + 1 + 1 + 1 + 1, .cell none), (L + 1 + 1 + 1 + 1 + 1, .cell none), (L + 1 + 1 + 1 + 1, .cell none), (L + 1 + 1 + 1, .cell none), (L + 1 + 1, .cell none), (L + 1, .cell none)]) ?k6 ?k7 ?k8 ?k9 ?kB ?kD ?km ?kc ?_ ?c2 ?c3 ?c4
  walk_at "enter"
  rename_i g₀ L h₁ tk₁ hb S₁
  have hl' := stays_plain hb.nil hl
  have hvl : vs.length = 4 := by rw [hvs.len, hlen]
  walk_at "go"
  refine for_rule (fun _ => rfl) ?_
  walk_at "go"
  rename Sd _ _ _ _ _ => S₁
  refine iter_list S₁ (stays_plain S₁.keep hl') rfl ?_
  intro I o h' T hst S₂
  clear S₁
  refine ⟨I, _, _, _, _, _, _, _, o, fun i r' sl' => IvD1 L xs i r' sl', rfl, T, hst, S₂.perm (by walk_at "pp"), ⟨_, _, _, _, _, [], rfl, by trivial⟩, ?_, ?_, ?_⟩
  · rintro i r' sl' h' o' _ S₃
    exact (stays_plain S₃.keep hl').isList
  · -- <<A
    rintro i v oI r' sl' h₂ tk₂ Post hP hi hv ⟨m, c1, c2, c3, p, us, rfl, hus⟩ S₃
    clear S₂
    obtain ⟨x, hx, t₁, rfl⟩ := hvs.get hv
    have hul : us.length = i := by rw [hus.len, List.length_map, List.length_take]; omega
    have hul2 : us.length ≤ 10 := by omega
    walk_at "go"
    rename Sd _ _ _ _ _ => S₄
    refine' c_figures S₄.nil ?_ ?_ x _ ?_
    any_goals walk_at "om"
    obtain ⟨e0, e1, e2⟩ := figs_of x
    rw [e0, e1, e2]
    clear e0 e1 e2
    intro h' tk' a ks kk hn hp hks
    have S₅ := S₄.add kk hn (x := .lst ks) hp
    clear S₄
    obtain ⟨t3, t4, t5, rfl⟩ := ints3 hks
    clear hks
    generalize hPx : prX x = P at *
    walk_at "go"
    rename Sd _ _ _ _ _ => S₄
    dsimp only [at'] at S₄ ⊢
    refine it_rangeS (n := 3) S₄ (by walk_at "mm") (by decide) rfl ?_
    intro I' o' h' T' hst' S₅
    clear S₄
    refine ⟨I', _, _, _, _, _, _, _, o', rfl, T', by decide, hst', S₅, fun D C => ⟨fun i zs r'' sl' => r'' = r' ∧ sl' = [(_, .ob _), (L + 1 + 1, .cell (some (.ref a))), (a, .lst [.int (fg P 0 : Nat) t3, .int (fg P 1 : Nat) t4, .int (fg P 2 : Nat) t5]), (L, .ns _), (I, .ob oI), (L + 1 + 1 + 1 + 1 + 1 + 1, .cell none), (L + 1 + 1 + 1 + 1 + 1, .cell none), (L + 1 + 1 + 1 + 1, .cell _), (L + 1 + 1 + 1, .cell _), (L + 1, .cell (some (.ref p))), (p, .lst us)] ∧ All2 IsInt zs (pows P 1 i), ⟨rfl, rfl, by trivial⟩, fun _ _ _ _ _ _ _ _ _ => trivial, ?_, ?_⟩⟩
    · rintro i v oI zs m r'' sl' h₂ tk₂ Post hP hi hv ⟨rfl, rfl, hzs⟩ S₆
      clear S₅
      obtain ⟨t₈, rfl⟩ := hv
      obtain rfl | rfl | rfl : i = 0 ∨ i = 1 ∨ i = 2 := by omega
      · walk_at "go"
        walk_at "tests"
        walk_at "go"
        · have hf : fg P 0 = 1 := by omega
          rename Sd _ _ _ _ _ => S₇
          refine hP _ _ <| block_end S₇ (by walk_at "pp") (inv := fun zs r'' sl' => _ ∧ _ ∧ _) ⟨rfl, rfl, ?_⟩
          rw [pows_pos hf]
          exact hzs.snoc ⟨_, rfl⟩
        · have hf : ¬ fg P 0 = 1 := by omega
          rename Sd _ _ _ _ _ => S₇
          refine hP _ _ <| block_end S₇ (by walk_at "pp") (inv := fun zs r'' sl' => _ ∧ _ ∧ _) ⟨rfl, rfl, ?_⟩
          rw [pows_neg hf]
          exact hzs
      · walk_at "go"
        walk_at "tests"
        walk_at "go"
        · have hf : fg P 1 = 1 := by omega
          rename Sd _ _ _ _ _ => S₇
          refine hP _ _ <| block_end S₇ (by walk_at "pp") (inv := fun zs r'' sl' => _ ∧ _ ∧ _) ⟨rfl, rfl, ?_⟩
          rw [pows_pos hf]
          exact hzs.snoc ⟨_, rfl⟩
        · have hf : ¬ fg P 1 = 1 := by omega
          rename Sd _ _ _ _ _ => S₇
          refine hP _ _ <| block_end S₇ (by walk_at "pp") (inv := fun zs r'' sl' => _ ∧ _ ∧ _) ⟨rfl, rfl, ?_⟩
          rw [pows_neg hf]
          exact hzs
      · walk_at "go"
        walk_at "tests"
        walk_at "go"
        · have hf : fg P 2 = 1 := by omega
          rename Sd _ _ _ _ _ => S₇
          refine hP _ _ <| block_end S₇ (by walk_at "pp") (inv := fun zs r'' sl' => _ ∧ _ ∧ _) ⟨rfl, rfl, ?_⟩
          rw [pows_pos hf]
          exact hzs.snoc ⟨_, rfl⟩
        · have hf : ¬ fg P 2 = 1 := by omega
          rename Sd _ _ _ _ _ => S₇
          refine hP _ _ <| block_end S₇ (by walk_at "pp") (inv := fun zs r'' sl' => _ ∧ _ ∧ _) ⟨rfl, rfl, ?_⟩
          rw [pows_neg hf]
          exact hzs
    rintro zs m r'' sl' h₂ tk₂ ⟨rfl, rfl, hzs⟩ S₃ h₃ S₄
    clear S₅ S₃
    walk_at "go"
    rename Sd _ _ _ _ _ => S₄
    (try dsimp only [at'] at S₄ ⊢)
    refine r_sum S₄ rfl (S₄.get (x := .lst zs) (.head _)) hzs ?_
    intro h₄ tk₄ t₉ S₆
    clear S₄
    rw [(pows_sum P).1]
    replace S₆ := S₆.drop
    walk_at "go"
    rename Sd _ _ _ _ _ => S₄
    (try dsimp only [at'] at S₄ ⊢)
    refine it_rangeS (n := 3) S₄ (by walk_at "mm") (by decide) rfl ?_
    intro I' o' h' T' hst' S₅
    clear S₄
    refine ⟨I', _, _, _, _, _, _, _, o', rfl, T', by decide, hst', S₅, fun D C => ⟨fun i zs r9 sl' => r9 = r'' ∧ sl' = [(_, .ob _), (L + 1 + 1 + 1, .cell (some (.int (yOf P : Int) t₉))), (_, .ob _), (L + 1 + 1, .cell (some (.ref a))), (a, .lst [.int (fg P 0 : Nat) t3, .int (fg P 1 : Nat) t4, .int (fg P 2 : Nat) t5]), (L, .ns _), (I, .ob oI), (L + 1 + 1 + 1 + 1 + 1 + 1, .cell none), (L + 1 + 1 + 1 + 1 + 1, .cell none), (L + 1 + 1 + 1 + 1, .cell _), (L + 1, .cell (some (.ref p))), (p, .lst us)] ∧ All2 IsInt zs (pows P 2 i), ⟨rfl, rfl, by trivial⟩, fun _ _ _ _ _ _ _ _ _ => trivial, ?_, ?_⟩⟩
    · rintro i v oI zs m r9 sl' h₂ tk₂ Post hP hi hv ⟨rfl, rfl, hzs⟩ S₆
      clear S₅
      obtain ⟨t₈, rfl⟩ := hv
      obtain rfl | rfl | rfl : i = 0 ∨ i = 1 ∨ i = 2 := by omega
      · walk_at "go"
        walk_at "tests"
        walk_at "go"
        · have hf : fg P 0 = 2 := by omega
          rename Sd _ _ _ _ _ => S₇
          refine hP _ _ <| block_end S₇ (by walk_at "pp") (inv := fun zs r9 sl' => _ ∧ _ ∧ _) ⟨rfl, rfl, ?_⟩
          rw [pows_pos hf]
          exact hzs.snoc ⟨_, rfl⟩
        · have hf : ¬ fg P 0 = 2 := by omega
          rename Sd _ _ _ _ _ => S₇
          refine hP _ _ <| block_end S₇ (by walk_at "pp") (inv := fun zs r9 sl' => _ ∧ _ ∧ _) ⟨rfl, rfl, ?_⟩
          rw [pows_neg hf]
          exact hzs
      · walk_at "go"
        walk_at "tests"
        walk_at "go"
        · have hf : fg P 1 = 2 := by omega
          rename Sd _ _ _ _ _ => S₇
          refine hP _ _ <| block_end S₇ (by walk_at "pp") (inv := fun zs r9 sl' => _ ∧ _ ∧ _) ⟨rfl, rfl, ?_⟩
          rw [pows_pos hf]
          exact hzs.snoc ⟨_, rfl⟩
        · have hf : ¬ fg P 1 = 2 := by omega
          rename Sd _ _ _ _ _ => S₇
          refine hP _ _ <| block_end S₇ (by walk_at "pp") (inv := fun zs r9 sl' => _ ∧ _ ∧ _) ⟨rfl, rfl, ?_⟩
          rw [pows_neg hf]
          exact hzs
      · walk_at "go"
        walk_at "tests"
        walk_at "go"
        · have hf : fg P 2 = 2 := by omega
          rename Sd _ _ _ _ _ => S₇
          refine hP _ _ <| block_end S₇ (by walk_at "pp") (inv := fun zs r9 sl' => _ ∧ _ ∧ _) ⟨rfl, rfl, ?_⟩
          rw [pows_pos hf]
          exact hzs.snoc ⟨_, rfl⟩
        · have hf : ¬ fg P 2 = 2 := by omega
          rename Sd _ _ _ _ _ => S₇
          refine hP _ _ <| block_end S₇ (by walk_at "pp") (inv := fun zs r9 sl' => _ ∧ _ ∧ _) ⟨rfl, rfl, ?_⟩
          rw [pows_neg hf]
          exact hzs
    rintro zs m r9 sl' h₂ tk₂ ⟨rfl, rfl, hzs⟩ S₃ h₃ S₄
    clear S₅ S₃
    walk_at "go"
    rename Sd _ _ _ _ _ => S₄
    (try dsimp only [at'] at S₄ ⊢)
    refine r_sum S₄ rfl (S₄.get (x := .lst zs) (.head _)) hzs ?_
    intro h₄ tk₄ t₁₀ S₆
    clear S₄
    rw [(pows_sum P).2]
    replace S₆ := S₆.drop
    walk_at "go"
    rename Sd _ _ _ _ _ => S₄
    (try dsimp only [at'] at S₄ ⊢)
    have htu := S₄.get (x := .tup _) (.tail _ (.head _))
    have S₉ := S₄.anchor.sub (sl' := [(p, .lst _), (L + 1 + 1 + 1 + 1, .cell _), (L + 1 + 1 + 1, .cell _), (L + 1 + 1, .cell _), (L, .ns _), (I, .ob oI), (L + 1 + 1 + 1 + 1 + 1 + 1, .cell none), (L + 1 + 1 + 1 + 1 + 1, .cell none), (L + 1, .cell _)]) (by walk_at "ss")
    refine hP .next _ <| turn_end S₉ (sl' := [(L, .ns _), (L + 1 + 1 + 1 + 1 + 1 + 1, .cell none), (L + 1 + 1 + 1 + 1 + 1, .cell none), (L + 1 + 1 + 1 + 1, .cell _), (L + 1 + 1 + 1, .cell _), (L + 1 + 1, .cell _), (L + 1, .cell (some (.ref p))), (p, .lst _)]) (by walk_at "pp") ?_
    (try dsimp only)
    refine ⟨_, _, _, _, _, _, rfl, ?_⟩
    rw [take_next hx, List.map_append]
    refine (All2.imp (fun _ _ => Pair.keep S₄.tk) hus).snoc ?_
    show Pair _ _ (yn (prX x))
    rw [hPx]
    exact ⟨_, _, _, rfl, htu⟩
  · rintro r' sl' h₂ tk₂ ⟨m, c1, c2, c3, p, us, rfl, hus⟩ S₃
    clear S₂
    rw [show vs.length = xs.length by omega, List.take_length] at hus
    walk_at "go"
    rename Sd _ _ _ _ _ => S₄
    dsimp only [at'] at S₄ ⊢
    have hOx : xs.map (fun x => yn (prX x)) = (xs.map prX).map yn := by rw [List.map_map]; rfl
    rw [hOx] at hus
    have hOl : (xs.map prX).length = 4 := by rw [List.length_map, hlen]
    generalize hO : xs.map prX = O at *
    have hul : us.length = 4 := by rw [hus.len, List.length_map, hOl]
    refine it_rangeS (n := 8) S₄ (by walk_at "mm") (by decide) rfl ?_
    intro I' o' h' T' hst' S₅
    clear S₄
    refine ⟨I', _, _, _, _, _, _, _, o', rfl, T', by decide, hst', S₅, fun D C => ⟨fun i zs r'' sl' => r'' = r' ∧ (∃ cp, sl' = [(C + 1, .cell cp), (_, .ob _), (L, .ns _), (L + 1 + 1 + 1 + 1 + 1 + 1, .cell none), (L + 1 + 1 + 1 + 1 + 1, .cell none), (L + 1 + 1 + 1 + 1, .cell _), (L + 1 + 1 + 1, .cell _), (L + 1 + 1, .cell _), (L + 1, .cell (some (.ref p))), (p, .lst us)]) ∧ All2 IsInt zs (ptsN O i), ⟨rfl, ⟨_, rfl⟩, by trivial⟩, fun _ _ _ _ _ _ _ _ _ => trivial, ?_, ?_⟩⟩
    · -- <<E
      rintro i v oI zs m r'' sl' h₂ tk₂ Post hP hi hv ⟨rfl, ⟨cp, rfl⟩, hzs⟩ S₆
      clear S₅
      obtain ⟨t₈, rfl⟩ := hv
      walk_at "go"
      walk_at "tests"
      walk_at "go"
      rename Sd _ _ _ _ _ => S₇
      dsimp only [at'] at S₇ ⊢
      refine iter_list S₇ (S₇.get (x := .lst us) (by walk_at "mm")) rfl ?_
      intro I'' o'' h' T'' hst'' S₈
      clear S₇
      refine ⟨I'', _, _, _, _, _, _, _, o'', rfl, T'', by rw [sizeLine_eq]; omega, hst'', S₈, fun D2 C2 => ⟨fun j zs2 r3 sl' => r3 = r'' ∧ sl' = _ ∧ ∃ ns, All2 IsInt zs2 ns ∧ ns.length = ((O.take j).filter fun q => atYN (yOf q) (nOf q) i).length, ⟨rfl, rfl, [], by trivial, rfl⟩, ?_, ?_, ?_⟩⟩
      · rintro j zs2 r3 sl' sl₁ h' ⟨_, rfl, _⟩ S₃ hs
        exact Heap.PlainList.isList (S₃.get (x := .lst us) (hs _ (by walk_at "mm")))
      · rintro j v oI' zs2 m r3 sl' h₂ tk₂ Post hP hj hv ⟨rfl, rfl, ns, hns, hnl⟩ S₉
        clear S₈
        obtain ⟨q, hq, a', t3, t4, rfl, ht⟩ := getMap hus hv
        walk_at "go"
        walk_at "tests"
        walk_at "go"
        · have hat := at_yes (y := yOf q) (n := nOf q) (x := i) (by assumption) (by assumption)
          rename Sd _ _ _ _ _ => S₁₀
          refine hP _ _ <| block_end S₁₀ (by walk_at "pp") (inv := fun zs r'' sl' => _ ∧ _ ∧ _) ⟨rfl, rfl, ns ++ [1], hns.snoc ⟨_, rfl⟩, ?_⟩
          rw [filter_next_pos hq hat, List.length_append, List.length_append, hnl]; rfl
        · have hat := at_no2 (y := yOf q) (n := nOf q) (x := i) (by assumption)
          rename Sd _ _ _ _ _ => S₁₀
          refine hP _ _ <| block_end S₁₀ (by walk_at "pp") (inv := fun zs r'' sl' => _ ∧ _ ∧ _) ⟨rfl, rfl, ns, hns, ?_⟩
          rw [filter_next_neg hq hat, hnl]
        · have hat := at_no1 (y := yOf q) (n := nOf q) (x := i) (by assumption)
          rename Sd _ _ _ _ _ => S₁₀
          refine hP _ _ <| block_end S₁₀ (by walk_at "pp") (inv := fun zs r'' sl' => _ ∧ _ ∧ _) ⟨rfl, rfl, ns, hns, ?_⟩
          rw [filter_next_neg hq hat, hnl]
      · rintro zs2 m r3 sl' h₂ tk₂ ⟨rfl, rfl, ns, hns, hnl⟩ S₉ h₈ S₁₀
        clear S₈ S₉
        rw [show us.length = O.length by omega, List.take_length] at hnl
        walk_at "go"
        rename Sd _ _ _ _ _ => S₁₁
        refine r_neInts (us := []) (ys := []) (S₁₁.get (x := .lst zs2) (by walk_at "mm")) (S₁₁.get (x := .lst []) (.head _)) hns (by trivial) (by walk_at "om") ?_
        have S₁₂ := S₁₁.drop.drop.sub (sl' := [(C + 1, .cell _), (C, .ns _), (I', .ob oI), (D, .lst zs), (_, .ob _), (L, .ns _), (L + 1 + 1 + 1 + 1 + 1 + 1, .cell none), (L + 1 + 1 + 1 + 1 + 1, .cell none), (L + 1 + 1 + 1 + 1, .cell _), (L + 1 + 1 + 1, .cell _), (L + 1 + 1, .cell _), (L + 1, .cell (some (.ref p))), (p, .lst us)]) (List.Sublist.refl _)
        clear S₁₁
        have hany : ns = [] ↔ ptN O i = false := by
          rw [← List.length_eq_zero_iff, hnl, List.length_eq_zero_iff, List.filter_eq_nil_iff, ptN, List.any_eq_false]
        walk_at "go"
        · have hpt : ptN O i = false := hany.mp (of_decide_eq_true (by assumption))
          rename Sd _ _ _ _ _ => S₁₃
          refine hP _ _ <| block_end S₁₃ (by walk_at "pp") (inv := fun zs r'' sl' => _ ∧ (∃ cp, _) ∧ _) ⟨rfl, ⟨_, rfl⟩, ?_⟩
          rw [ptsN_neg hpt]; exact hzs
        · have hpt : ptN O i = true := by
            have := of_decide_eq_false (by assumption : decide (ns = []) = false)
            cases e : ptN O i with
            | true => rfl
            | false => exact absurd (hany.mpr e) this
          rename Sd _ _ _ _ _ => S₁₃
          refine hP _ _ <| block_end S₁₃ (by walk_at "pp") (inv := fun zs r'' sl' => _ ∧ (∃ cp, _) ∧ _) ⟨rfl, ⟨_, rfl⟩, ?_⟩
          rw [ptsN_pos hpt]; exact hzs.snoc ⟨_, rfl⟩
    rintro zs m r'' sl' h₂ tk₂ ⟨rfl, ⟨cp, rfl⟩, hzs⟩ S₆
    clear S₅
    intro h₅ S₇
    have S₈ := S₇.sub (sl' := [(D, .lst zs), (L, .ns _), (L + 1 + 1 + 1 + 1 + 1 + 1, .cell none), (L + 1 + 1 + 1 + 1 + 1, .cell none), (L + 1 + 1 + 1 + 1, .cell _), (L + 1 + 1 + 1, .cell _), (L + 1 + 1, .cell _), (L + 1, .cell (some (.ref p))), (p, .lst us)]) (by walk_at "ss")
    clear S₆ S₇
    walk_at "go"
    refine for_rule (fun _ => rfl) ?_
    walk_at "go"
    rename Sd _ _ _ _ _ => S₉
    (try dsimp only [at'] at S₉ ⊢)
    refine it_rangeS (n := 8) S₉ (by walk_at "mm") (by decide) rfl ?_
    intro I₁ o₁ h' T₁ hst₁ S₁₀
    clear S₉
    refine ⟨I₁, _, _, _, _, _, _, _, o₁, fun y r' sl' => IvD2 _ _ L D p zs us O y r' sl', rfl, T₁, hst₁, S₁₀.perm (by walk_at "pp"), ⟨_, _, _, _, _, [], rfl, hus, by trivial⟩, fun _ _ _ _ _ _ _ => trivial, ?_, ?_⟩
    · -- <<F
      rintro y v oI₁ r' sl' h₂ tk₂ Post hP hy8 hv ⟨m, c1, c2, c3, q, us2, rfl, hus, hus2⟩ S₁₁
      clear S₁₀
      obtain ⟨t₂, rfl⟩ := hv
      walk_at "go"
      refine for_rule (fun _ => rfl) ?_
      walk_at "go"
      rename Sd _ _ _ _ _ => S₁₂
      (try dsimp only [at'] at S₁₂ ⊢)
      refine it_rangeS (n := 8) S₁₂ (by walk_at "mm") (by decide) rfl ?_
      intro I₂ o₂ h' T₂ hst₂ S₁₃
      clear S₁₂
      refine ⟨I₂, _, _, _, _, _, _, _, o₂, fun n r' sl' => IvD3 _ _ I₁ oI₁ _ _ L D p q zs us O y t₂ _ n r' sl', rfl, T₂, hst₂, S₁₃.perm (sl' := [(I₂, .ob o₂), (_, .ob _), (I₁, .ob oI₁), (_, .ob _), (L + 1 + 1 + 1 + 1 + 1 + 1, .cell (some (.ref q))), (q, .lst us2), (L + 1 + 1 + 1 + 1 + 1, .cell (some (.ref D))), (D, .lst zs), (L, .ns _), (L + 1 + 1 + 1 + 1, .cell _), (L + 1 + 1 + 1, .cell (some (.int (y : Int) t₂))), (L + 1 + 1, .cell _), (L + 1, .cell (some (.ref p))), (p, .lst us)]) (by walk_at "pp"), ⟨_, _, us2, rfl, hus, hus2⟩, fun _ _ _ _ _ _ _ => trivial, ?_, ?_⟩
      · -- <<G
        rintro n v oI₂ r' sl' h₂ tk₂ Post hP hn8 hv ⟨m, c1, us2, rfl, hus, hus2⟩ S₁₄
        clear S₁₃
        obtain ⟨t₃, rfl⟩ := hv
        walk_at "go"
        all_goals (rename Sd _ _ _ _ _ => S₁₅)
        all_goals (have hk1 : (8 * y + n) / 8 = y := by omega)
        all_goals (have hk2 : (8 * y + n) % 8 = n := by omega)
        · have hyn0 : (y &&& n) = 0 := by
            have := (by assumption : Builtin.bitAnd (y : Int) (n : Int) = 0)
            rw [bitAnd_nat] at this; omega
          (try dsimp only [at'] at S₁₅ ⊢)
          refine it_rangeS (n := 8) S₁₅ (by walk_at "mm") (by decide) rfl ?_
          intro I₃ o₃ h' T₃ hst₃ S₁₆
          clear S₁₅
          refine ⟨I₃, _, _, _, _, _, _, _, o₃, rfl, T₃, by decide, hst₃, S₁₆, fun D2 C2 => ⟨fun x zs2 r3 sl' => r3 = r' ∧ sl' = _ ∧ ∃ ns, All2 IsInt zs2 ns ∧ ns.length = ((List.range x).filter fun x => atYN y n x && !ptN O x).length, ⟨rfl, rfl, [], by trivial, rfl⟩, fun _ _ _ _ _ _ _ _ _ => trivial, ?_, ?_⟩⟩
          · rintro x v oI₃ zs2 m r3 sl' h₂ tk₂ Post hP hx8 hv ⟨rfl, rfl, ns, hns, hnl⟩ S₁₇
            clear S₁₆
            obtain ⟨t₄, rfl⟩ := hv
            walk_at "go"
            walk_at "tests"
            walk_at "go"
            all_goals (rename Sd _ _ _ _ _ => S₁₈)
            · have hat := at_yes (y := y) (n := n) (x := x) (by assumption) (by assumption)
              refine r_notinInts (S₁₈.get (x := .lst zs) (by walk_at "mm")) hzs ?_
              rw [ptsN_any hx8]
              walk_at "go"
              · have hpt : ptN O x = true := by assumption
                refine hP _ _ <| block_end S₁₈ (by walk_at "pp") (inv := fun zs r'' sl' => _ ∧ _ ∧ _) ⟨rfl, rfl, ns, hns, ?_⟩
                rw [range_next, hnl, hat, hpt]; rfl
              · have hpt : ptN O x = false := by assumption
                refine hP _ _ <| block_end S₁₈ (by walk_at "pp") (inv := fun zs r'' sl' => _ ∧ _ ∧ _) ⟨rfl, rfl, ns ++ [1], hns.snoc ⟨_, rfl⟩, ?_⟩
                rw [range_next, List.length_append, hnl, hat, hpt]; rfl
            · have hat := at_no2 (y := y) (n := n) (x := x) (by assumption)
              refine hP _ _ <| block_end S₁₈ (by walk_at "pp") (inv := fun zs r'' sl' => _ ∧ _ ∧ _) ⟨rfl, rfl, ns, hns, ?_⟩
              rw [range_next, hnl, hat]; rfl
            · have hat := at_no1 (y := y) (n := n) (x := x) (by assumption)
              refine hP _ _ <| block_end S₁₈ (by walk_at "pp") (inv := fun zs r'' sl' => _ ∧ _ ∧ _) ⟨rfl, rfl, ns, hns, ?_⟩
              rw [range_next, hnl, hat]; rfl
          · rintro zs2 m r3 sl' h₂ tk₂ ⟨rfl, rfl, ns, hns, hnl⟩ S₁₇ h₈ S₁₈
            clear S₁₆ S₁₇
            walk_at "go"
            rename Sd _ _ _ _ _ => S₁₉
            refine r_eqInts (us := []) (ys := []) (S₁₉.get (x := .lst zs2) (by walk_at "mm")) (S₁₉.get (x := .lst []) (.head _)) hns (by trivial) (by walk_at "om") ?_
            have S₂₀ := (S₁₉.drop.drop.sub (sl' := [(_, .ob _), (L + 1 + 1 + 1 + 1, .cell _), (I₂, .ob oI₂), (_, .ob _), (I₁, .ob oI₁), (_, .ob _), (L + 1 + 1 + 1 + 1 + 1 + 1, .cell (some (.ref q))), (q, .lst us2), (L + 1 + 1 + 1 + 1 + 1, .cell (some (.ref D))), (D, .lst zs), (L, .ns _), (L + 1 + 1 + 1, .cell _), (L + 1 + 1, .cell _), (L + 1, .cell (some (.ref p))), (p, .lst us)]) (List.Sublist.refl _)).drop
            clear S₁₉
            have hany : ns = [] ↔ impB O (8 * y + n) = true := by
              rw [← List.length_eq_zero_iff, hnl, List.length_eq_zero_iff, List.filter_eq_nil_iff]
              unfold impB
              rw [hk1, hk2, hyn0]
              simp only [beq_self_eq_true, Bool.true_and, List.all_eq_true, Bool.not_eq_true']
              exact ⟨fun k x hx => by simpa using k x hx, fun k x hx => by simpa using k x hx⟩
            have hul2 : us2.length ≤ 64 := by
              rw [hus2.len]; unfold impK
              rw [List.length_map]
              refine Nat.le_trans (List.length_filter_le _ _) ?_
              rw [List.length_range]; omega
            walk_at "go"
            · have himp : impB O (8 * y + n) = true := hany.mp (of_decide_eq_true (by assumption))
              rename Sd _ _ _ _ _ => S₂₁
              have htu := S₂₁.get (x := .tup _) (.tail _ (.head _))
              have S₂₂ := (S₂₁.anchor.perm pm1).drop
              refine hP .next _ <| turn_end S₂₂ (sl' := [(_, .ob _), (I₁, .ob oI₁), (_, .ob _), (L + 1 + 1 + 1 + 1 + 1 + 1, .cell (some (.ref q))), (q, .lst _), (L + 1 + 1 + 1 + 1 + 1, .cell (some (.ref D))), (D, .lst zs), (L, .ns _), (L + 1 + 1 + 1 + 1, .cell _), (L + 1 + 1 + 1, .cell (some (.int (y : Int) t₂))), (L + 1 + 1, .cell _), (L + 1, .cell (some (.ref p))), (p, .lst us)]) (by walk_at "pp") ?_
              (try dsimp only)
              exact ⟨_, _, us2 ++ [.ref _], rfl, All2.imp (fun _ _ => Pair.keep S₂₁.tk) hus, by rw [← Nat.add_assoc, impK_pos himp, hk1, hk2]; exact (All2.imp (fun _ _ => Pair.keep S₂₁.tk) hus2).snoc ⟨_, _, _, rfl, htu⟩⟩
            · have himp : impB O (8 * y + n) = false := by
                have := of_decide_eq_false (by assumption : decide (ns = []) = false)
                cases e : impB O (8 * y + n) with
                | false => rfl
                | true => exact absurd (hany.mpr e) this
              rename Sd _ _ _ _ _ => S₂₁
              refine hP .next _ <| turn_end S₂₁ (sl' := [(_, .ob _), (I₁, .ob oI₁), (_, .ob _), (L + 1 + 1 + 1 + 1 + 1 + 1, .cell (some (.ref q))), (q, .lst _), (L + 1 + 1 + 1 + 1 + 1, .cell (some (.ref D))), (D, .lst zs), (L, .ns _), (L + 1 + 1 + 1 + 1, .cell _), (L + 1 + 1 + 1, .cell (some (.int (y : Int) t₂))), (L + 1 + 1, .cell _), (L + 1, .cell (some (.ref p))), (p, .lst us)]) (by walk_at "pp") ?_
              (try dsimp only)
              exact ⟨_, _, us2, rfl, hus, by rw [← Nat.add_assoc, impK_neg himp]; exact hus2⟩
        · have himp : impB O (8 * y + n) = false := by
            have hne : ¬ (y &&& n) = 0 := by
              intro e
              have := (by assumption : ¬ Builtin.bitAnd (y : Int) (n : Int) = 0)
              rw [bitAnd_nat, e] at this; exact this rfl
            unfold impB
            rw [hk1, hk2, beq_eq_false_iff_ne.mpr hne]; rfl
          refine hP .next _ <| turn_end S₁₅ (sl' := [(_, .ob _), (I₁, .ob oI₁), (_, .ob _), (L + 1 + 1 + 1 + 1 + 1 + 1, .cell (some (.ref q))), (q, .lst _), (L + 1 + 1 + 1 + 1 + 1, .cell (some (.ref D))), (D, .lst zs), (L, .ns _), (L + 1 + 1 + 1 + 1, .cell _), (L + 1 + 1 + 1, .cell (some (.int (y : Int) t₂))), (L + 1 + 1, .cell _), (L + 1, .cell (some (.ref p))), (p, .lst us)]) (by walk_at "pp") ?_
          (try dsimp only)
          exact ⟨_, _, us2, rfl, hus, by rw [← Nat.add_assoc, impK_neg himp]; exact hus2⟩
      · rintro r' sl' h₂ tk₂ ⟨m, c1, us2, rfl, hus, hus2⟩ S₁₄
        clear S₁₃
        walk_at "go"
        rename Sd _ _ _ _ _ => S₁₅
        refine hP .next _ <| turn_end S₁₅.drop (sl' := [(_, .ob _), (L + 1 + 1 + 1 + 1 + 1 + 1, .cell (some (.ref q))), (q, .lst _), (L + 1 + 1 + 1 + 1 + 1, .cell (some (.ref D))), (D, .lst zs), (L, .ns _), (L + 1 + 1 + 1 + 1, .cell _), (L + 1 + 1 + 1, .cell _), (L + 1 + 1, .cell _), (L + 1, .cell (some (.ref p))), (p, .lst us)]) (by walk_at "pp") ?_
        (try dsimp only)
        exact ⟨_, _, _, _, q, us2, rfl, hus, hus2⟩
    · rintro r' sl' h₂ tk₂ ⟨m, c1, c2, c3, q, us2, rfl, hus, hus2⟩ S₁₁
      clear S₁₀
      walk_at "go"
      rename Sd _ _ _ _ _ => S₁₂
      (try dsimp only [at'] at S₁₂ ⊢)
      have S₁₃ := (S₁₂.perm (sl' := [(L, .ns _), (_, .lst []), (L + 1 + 1 + 1 + 1 + 1 + 1, .cell (some (.ref q))), (q, .lst us2), (L + 1 + 1 + 1 + 1, .cell _), (L + 1 + 1 + 1, .cell _), (_, .ob _), (L + 1 + 1 + 1 + 1 + 1, .cell _), (D, .lst zs), (L + 1 + 1, .cell _), (L + 1, .cell _), (p, .lst us)]) (by walk_at "pp")).sub (sl' := [(L, .ns _), (_, .lst []), (L + 1 + 1 + 1 + 1 + 1 + 1, .cell (some (.ref q))), (q, .lst us2), (L + 1 + 1 + 1 + 1, .cell _), (L + 1 + 1 + 1, .cell _)]) (by walk_at "ss")
      clear S₁₂
      refine for_rule (fun _ => rfl) ?_
      walk_at "go"
      rename Sd _ _ _ _ _ => S₁₄
      refine iter_list S₁₄ (S₁₄.get (x := .lst us2) (by walk_at "mm")) rfl ?_
      intro I₄ o₄ h' T₄ hst₄ S₁₅
      clear S₁₄
      rw [show (8 * 8 : Nat) = 64 from rfl] at hus2
      have hIl : (impK O 64).length ≤ 64 := by
        unfold impK
        rw [List.length_map]
        exact Nat.le_trans (List.length_filter_le _ _) (by rw [List.length_range]; omega)
      have hIlt := impK_lt (O := O) (k := 64) (Nat.le_refl _)
      unfold dueL at h
      generalize impK O 64 = J at hus2 hIl hIlt h
      have hu2l := hus2.len
      refine ⟨I₄, _, _, _, _, _, _, _, o₄, fun i r₅ sl' => IvD4 r' L q us2 J i r₅ sl', rfl, T₄, hst₄, S₁₅, ⟨rfl, _, _, [], _, _, rfl, by walk_at "lk", by trivial⟩, ?_, ?_, ?_⟩
      · rintro i r' sl' h' o' ⟨rfl, m, d, ds, c1, c2, rfl, _⟩ S₃
        exact Heap.PlainList.isList (S₃.get (x := .lst us2) (by walk_at "mm"))
      · -- <<H
        rintro i v oI₄ r₅ sl' h₂ tk₂ Post hP hi hv ⟨rfl, m, d, ds, c1, c2, rfl, hm1, hds⟩ S₁₆
        clear S₁₅
        obtain ⟨⟨y, n⟩, hq, a₅, t₅, t₆, rfl, ht⟩ := hus2.get hv
        obtain ⟨hy8, hn8⟩ := hIlt (y, n) (List.mem_of_getElem? hq)
        dsimp only at hy8 hn8 ht
        have hdl := hds.len
        have hdl2 : ds.length ≤ 64 := by
          rw [hdl, List.length_map]
          exact Nat.le_trans (List.length_filter_le _ _) (by rw [List.length_take]; omega)
        walk_at "go"
        rename Sd _ _ _ _ _ => S₁₇
        (try dsimp only [at'] at S₁₇ ⊢)
        refine iter_tuple S₁₇ (S₁₇.get (x := .tup _) (.head _)) rfl ?_
        intro I₅ o₅ h' T₅ hst₅ S₁₈
        clear S₁₇
        refine ⟨I₅, _, _, _, _, _, _, _, o₅, rfl, T₅, by rw [sizeLine_eq]; exact (by decide : 3 ≤ 16777216), hst₅, S₁₈, fun D2 C2 => ⟨fun j zs2 r3 sl' => r3 = r₅ ∧ sl' = _ ∧ ∃ ns, All2 IsInt zs2 ns ∧ ns.length = ((List.take j [1, 2, 4]).filter (cutB J y n)).length, ⟨rfl, rfl, [], by trivial, rfl⟩, ?_, ?_, ?_⟩⟩
        · rintro j zs2 r3 sl' sl₁ h' ⟨_, rfl, _⟩ S₃ hs
          exact S₃.get (x := .tup _) (hs _ (.head _))
        · rintro j v oI₅ zs2 m r3 sl' h₂ tk₂ Post hP hj hv ⟨rfl, rfl, ns, hns, hnl⟩ S₁₉
          clear S₁₈
          have ho := bitOr_nat y n
          obtain rfl | rfl | rfl : j = 0 ∨ j = 1 ∨ j = 2 := by simp only [List.length_cons, List.length_nil] at hj; omega
          · cases hv
            have e1 : Builtin.bitAnd (y : Int) (Builtin.bitNot 1) = ((y - (y &&& 1) : Nat) : Int) := bitAnd_not y 1
            have e2 : Builtin.bitAnd (n : Int) (Builtin.bitNot 1) = ((n - (n &&& 1) : Nat) : Int) := bitAnd_not n 1
            have e3 : Builtin.bitAnd (Builtin.bitOr (y : Int) (n : Int)) 1 = (((y ||| n) &&& 1 : Nat) : Int) := by rw [ho]; exact bitAnd_nat (y ||| n) 1
            walk_at "go"
            walk_at "tests"
            walk_at "go"
            all_goals (rename Sd _ _ _ _ _ => S₂₀)
            · have hpos : decide (0 < ((y ||| n) &&& 1)) = true := decide_eq_true (by rw [e3] at *; omega)
              have htu := S₂₀.get (x := .tup _) (.head _)
              rw [e1, e2] at htu
              refine r_inPairs (p := (y - (y &&& 1), n - (n &&& 1))) (S₂₀.get (x := .lst us2) (by walk_at "mm")) (All2.imp (fun _ _ => Pair.keep S₂₀.tk) hus2) ⟨_, _, _, rfl, htu⟩ (by walk_at "om") ?_
              walk_at "go"
              · have hc : cutB J y n 1 = true := by unfold cutB; rw [hpos, Bool.true_and]; first | exact decide_eq_true (by assumption) | exact decide_eq_false (by assumption)
                refine hP _ _ <| block_end S₂₀.drop (by walk_at "pp") (inv := fun zs r'' sl' => _ ∧ _ ∧ _) ⟨rfl, rfl, ns ++ [1], hns.snoc ⟨_, rfl⟩, ?_⟩
                rw [filter_next_pos (i := 0) rfl hc, List.length_append, List.length_append, hnl]; rfl
              · have hc : cutB J y n 1 = false := by unfold cutB; rw [hpos, Bool.true_and]; first | exact decide_eq_true (by assumption) | exact decide_eq_false (by assumption)
                refine hP _ _ <| block_end S₂₀.drop (by walk_at "pp") (inv := fun zs r'' sl' => _ ∧ _ ∧ _) ⟨rfl, rfl, ns, hns, ?_⟩
                rw [filter_next_neg (i := 0) rfl hc, hnl]
            · have hpos : decide (0 < ((y ||| n) &&& 1)) = false := decide_eq_false (by rw [e3] at *; omega)
              have hc : cutB J y n 1 = false := by unfold cutB; rw [hpos]; rfl
              refine hP _ _ <| block_end S₂₀ (by walk_at "pp") (inv := fun zs r'' sl' => _ ∧ _ ∧ _) ⟨rfl, rfl, ns, hns, ?_⟩
              rw [filter_next_neg (i := 0) rfl hc, hnl]
          · cases hv
            have e1 : Builtin.bitAnd (y : Int) (Builtin.bitNot 2) = ((y - (y &&& 2) : Nat) : Int) := bitAnd_not y 2
            have e2 : Builtin.bitAnd (n : Int) (Builtin.bitNot 2) = ((n - (n &&& 2) : Nat) : Int) := bitAnd_not n 2
            have e3 : Builtin.bitAnd (Builtin.bitOr (y : Int) (n : Int)) 2 = (((y ||| n) &&& 2 : Nat) : Int) := by rw [ho]; exact bitAnd_nat (y ||| n) 2
            walk_at "go"
            walk_at "tests"
            walk_at "go"
            all_goals (rename Sd _ _ _ _ _ => S₂₀)
            · have hpos : decide (0 < ((y ||| n) &&& 2)) = true := decide_eq_true (by rw [e3] at *; omega)
              have htu := S₂₀.get (x := .tup _) (.head _)
              rw [e1, e2] at htu
              refine r_inPairs (p := (y - (y &&& 2), n - (n &&& 2))) (S₂₀.get (x := .lst us2) (by walk_at "mm")) (All2.imp (fun _ _ => Pair.keep S₂₀.tk) hus2) ⟨_, _, _, rfl, htu⟩ (by walk_at "om") ?_
              walk_at "go"
              · have hc : cutB J y n 2 = true := by unfold cutB; rw [hpos, Bool.true_and]; first | exact decide_eq_true (by assumption) | exact decide_eq_false (by assumption)
                refine hP _ _ <| block_end S₂₀.drop (by walk_at "pp") (inv := fun zs r'' sl' => _ ∧ _ ∧ _) ⟨rfl, rfl, ns ++ [1], hns.snoc ⟨_, rfl⟩, ?_⟩
                rw [filter_next_pos (i := 1) rfl hc, List.length_append, List.length_append, hnl]; rfl
              · have hc : cutB J y n 2 = false := by unfold cutB; rw [hpos, Bool.true_and]; first | exact decide_eq_true (by assumption) | exact decide_eq_false (by assumption)
                refine hP _ _ <| block_end S₂₀.drop (by walk_at "pp") (inv := fun zs r'' sl' => _ ∧ _ ∧ _) ⟨rfl, rfl, ns, hns, ?_⟩
                rw [filter_next_neg (i := 1) rfl hc, hnl]
            · have hpos : decide (0 < ((y ||| n) &&& 2)) = false := decide_eq_false (by rw [e3] at *; omega)
              have hc : cutB J y n 2 = false := by unfold cutB; rw [hpos]; rfl
              refine hP _ _ <| block_end S₂₀ (by walk_at "pp") (inv := fun zs r'' sl' => _ ∧ _ ∧ _) ⟨rfl, rfl, ns, hns, ?_⟩
              rw [filter_next_neg (i := 1) rfl hc, hnl]
          · cases hv
            have e1 : Builtin.bitAnd (y : Int) (Builtin.bitNot 4) = ((y - (y &&& 4) : Nat) : Int) := bitAnd_not y 4
            have e2 : Builtin.bitAnd (n : Int) (Builtin.bitNot 4) = ((n - (n &&& 4) : Nat) : Int) := bitAnd_not n 4
            have e3 : Builtin.bitAnd (Builtin.bitOr (y : Int) (n : Int)) 4 = (((y ||| n) &&& 4 : Nat) : Int) := by rw [ho]; exact bitAnd_nat (y ||| n) 4
            walk_at "go"
            walk_at "tests"
            walk_at "go"
            all_goals (rename Sd _ _ _ _ _ => S₂₀)
            · have hpos : decide (0 < ((y ||| n) &&& 4)) = true := decide_eq_true (by rw [e3] at *; omega)
              have htu := S₂₀.get (x := .tup _) (.head _)
              rw [e1, e2] at htu
              refine r_inPairs (p := (y - (y &&& 4), n - (n &&& 4))) (S₂₀.get (x := .lst us2) (by walk_at "mm")) (All2.imp (fun _ _ => Pair.keep S₂₀.tk) hus2) ⟨_, _, _, rfl, htu⟩ (by walk_at "om") ?_
              walk_at "go"
              · have hc : cutB J y n 4 = true := by unfold cutB; rw [hpos, Bool.true_and]; first | exact decide_eq_true (by assumption) | exact decide_eq_false (by assumption)
                refine hP _ _ <| block_end S₂₀.drop (by walk_at "pp") (inv := fun zs r'' sl' => _ ∧ _ ∧ _) ⟨rfl, rfl, ns ++ [1], hns.snoc ⟨_, rfl⟩, ?_⟩
                rw [filter_next_pos (i := 2) rfl hc, List.length_append, List.length_append, hnl]; rfl
              · have hc : cutB J y n 4 = false := by unfold cutB; rw [hpos, Bool.true_and]; first | exact decide_eq_true (by assumption) | exact decide_eq_false (by assumption)
                refine hP _ _ <| block_end S₂₀.drop (by walk_at "pp") (inv := fun zs r'' sl' => _ ∧ _ ∧ _) ⟨rfl, rfl, ns, hns, ?_⟩
                rw [filter_next_neg (i := 2) rfl hc, hnl]
            · have hpos : decide (0 < ((y ||| n) &&& 4)) = false := decide_eq_false (by rw [e3] at *; omega)
              have hc : cutB J y n 4 = false := by unfold cutB; rw [hpos]; rfl
              refine hP _ _ <| block_end S₂₀ (by walk_at "pp") (inv := fun zs r'' sl' => _ ∧ _ ∧ _) ⟨rfl, rfl, ns, hns, ?_⟩
              rw [filter_next_neg (i := 2) rfl hc, hnl]
        · rintro zs2 m r3 sl' h₂ tk₂ ⟨rfl, rfl, ns, hns, hnl⟩ S₁₉ h₈ S₂₀
          clear S₁₈ S₁₉
          walk_at "go"
          rename Sd _ _ _ _ _ => S₂₁
          refine r_eqInts (us := []) (ys := []) (S₂₁.get (x := .lst zs2) (by walk_at "mm")) (S₂₁.get (x := .lst []) (.head _)) hns (by trivial) (by walk_at "om") ?_
          have S₂₂ := (S₂₁.drop.drop.sub (sl' := [(_, .tup _), (L + 1 + 1 + 1 + 1, .cell _), (L + 1 + 1 + 1, .cell _), (I₄, .ob oI₄), (L, .ns _), (d, .lst ds), (L + 1 + 1 + 1 + 1 + 1 + 1, .cell (some (.ref q))), (q, .lst us2)]) (List.Sublist.refl _)).drop
          clear S₂₁
          have hany : ns = [] ↔ dueB J (y, n) = true := by
            unfold dueB
            rw [List.isEmpty_iff, ← List.length_eq_zero_iff, hnl, List.length_eq_zero_iff]; rfl
          walk_at "go"
          all_goals (rename Sd _ _ _ _ _ => S₂₃)
          · have e := (item_facts ⟨y, hy8⟩ ⟨n, hn8⟩).1 (by show 0 < y; omega)
            have hD : dueB J (y, n) = true := hany.mp (of_decide_eq_true (by assumption))
            refine hP .next _ <| turn_end S₂₃ (sl' := [(L, .ns _), (d, .lst _), (L + 1 + 1 + 1 + 1 + 1 + 1, .cell (some (.ref q))), (q, .lst us2), (L + 1 + 1 + 1 + 1, .cell _), (L + 1 + 1 + 1, .cell _)]) (by walk_at "pp") ?_
            (try dsimp only)
            refine ⟨rfl, _, _, _, _, _, rfl, by walk_at "lk", ?_⟩
            rw [filter_next_pos hq hD, List.map_append]
            exact hds.snoc (isStr' e)
          · exfalso; omega
          · have e := (item_facts ⟨y, hy8⟩ ⟨n, hn8⟩).2.1 (by show y = 0; omega) (by show 0 < n; omega)
            have hD : dueB J (y, n) = true := hany.mp (of_decide_eq_true (by assumption))
            refine hP .next _ <| turn_end S₂₃ (sl' := [(L, .ns _), (d, .lst _), (L + 1 + 1 + 1 + 1 + 1 + 1, .cell (some (.ref q))), (q, .lst us2), (L + 1 + 1 + 1 + 1, .cell _), (L + 1 + 1 + 1, .cell _)]) (by walk_at "pp") ?_
            (try dsimp only)
            refine ⟨rfl, _, _, _, _, _, rfl, by walk_at "lk", ?_⟩
            rw [filter_next_pos hq hD, List.map_append]
            exact hds.snoc (isStr' e)
          · have e := (item_facts ⟨y, hy8⟩ ⟨n, hn8⟩).2.2 (by show y = 0; omega) (by show n = 0; omega)
            have hD : dueB J (y, n) = true := hany.mp (of_decide_eq_true (by assumption))
            refine hP .next _ <| turn_end S₂₃ (sl' := [(L, .ns _), (d, .lst _), (L + 1 + 1 + 1 + 1 + 1 + 1, .cell (some (.ref q))), (q, .lst us2), (L + 1 + 1 + 1 + 1, .cell _), (L + 1 + 1 + 1, .cell _)]) (by walk_at "pp") ?_
            (try dsimp only)
            refine ⟨rfl, _, _, _, _, _, rfl, by walk_at "lk", ?_⟩
            rw [filter_next_pos hq hD, List.map_append]
            exact hds.snoc (isStr' e)
          · have hD : dueB J (y, n) = false := by
              have := of_decide_eq_false (by assumption : decide (ns = []) = false)
              cases e : dueB J (y, n) with
              | false => rfl
              | true => exact absurd (hany.mpr e) this
            refine hP .next _ <| turn_end S₂₃ (sl' := [(L, .ns _), (d, .lst _), (L + 1 + 1 + 1 + 1 + 1 + 1, .cell (some (.ref q))), (q, .lst us2), (L + 1 + 1 + 1 + 1, .cell _), (L + 1 + 1 + 1, .cell _)]) (by walk_at "pp") ?_
            (try dsimp only)
            exact ⟨rfl, _, _, _, _, _, rfl, by walk_at "lk", by rw [filter_next_neg hq hD]; exact hds⟩
      · rintro r₅ sl' h₂ tk₂ ⟨rfl, m, d, ds, c1, c2, rfl, hm1, hds⟩ S₁₆
        clear S₁₅
        rw [hu2l, List.take_length] at hds
        walk_at "go"
        exact h _ _ d ds (fun b o e => S₁₆.keep b o (hb.nil b o e)) (none_of hb.nil (S₁₆.nw (d, .lst ds) (.tail _ (.head _)))) (S₁₆.get (x := .lst ds) (.tail _ (.head _))) hds
end
end Mine
namespace Mine
section
variable {prog : Program} {w : World} {A : Around} {E : Value → Shared → Prop} {s : Shared} {g r : Heap} {sl : List (Addr × Sp)} {value slice : PySem.Expr} {l : Addr} {its : List Value} {vl vu vk : Value} {lo hi st : Option Int} {ops : List Value} {Q : Value → Shared → Prop}
theorem r_lsliceL (S : Sd w g r sl s.heap) (hl : s.heap.IsList l its.toArray) (pl : IsPart vl lo) (pu : IsPart vu hi) (pk : IsPart vk st) (h0 : st ≠ some 0)
    (h : ∀ D h', Sd w g r ((D, .lst (slicePick its.toArray lo hi st).toList) :: sl) h' → s.heap.get? D = none → Q (.ref D) (at' s h' s.toks))
    (hs : subscripted slice false (.ref l) (.ref s.heap.objs.size) = operate ops (getItem (.ref l) (.ref s.heap.objs.size)) := by with_unfolding_all rfl)
    (hsz : its.toArray.size ≤ sizeLine) :
    wpAny (model prog w) A (subscriptTail value slice (.ref l) (.ref s.heap.objs.size)) Q E { s with heap := s.heap.push { cls := .type "slice", data := .fields #[vl, vu, vk] } } := by
  refine kba_turn (value' := PySem.Expr.Name "_" ⟨0, 0, 0, 0⟩) (fun _ => rfl) ?_
  refine subscriptTail_ops (Heap.IsList.typeIs (s := { s with heap := s.heap.push { cls := .type "slice", data := .fields #[vl, vu, vk] } }) (hl.push _)) list_getitem_lookup
    (wpAny_getItem_list_slice (hl.push _) (Heap.IsSliceOf.new ..) pl pu pk h0 ?_ hsz) hs (fun _ => rfl)
  have S₁ := S.ext (push_stays s.heap { cls := .type "slice", data := .fields #[vl, vu, vk] })
  refine h _ _ (S₁.add (push_stays _ _) (fresh_none _) ⟨_, by rw [Array.toArray_toList]; exact Heap.get?_push_size _ rfl⟩) ?_
  exact none_of (push_stays _ _) (fresh_none _)
end
theorem pick_mem {items : Array Value} {lo hi st : Option Int} : ∀ v ∈ (slicePick items lo hi st).toList, v ∈ items.toList := by
  intro v hv
  unfold slicePick at hv
  rw [List.toList_toArray] at hv
  obtain ⟨i, _, e⟩ := List.mem_filterMap.mp hv
  have := Array.mem_of_getElem? e
  simpa using this
theorem ints_ex : ∀ {l : List Value}, (∀ v ∈ l, ∃ n t, v = .int n t) → ∃ ns, All2 IsInt l ns
  | [], _ => ⟨[], trivial⟩
  | v :: l, h => by
    obtain ⟨n, t, rfl⟩ := h v (.head _)
    obtain ⟨ns, hn⟩ := ints_ex fun w hw => h w (.tail _ hw)
    exact ⟨n :: ns, ⟨t, rfl⟩, hn⟩
section
variable {w : World} {dp un : Nat} {fr : Option (List Env)} {gs : Option (List Code)} {s : Shared} {g r : Heap} {Q : Value → Shared → Prop} {E : Value → Shared → Prop}
theorem c_drawn (S : Sd w g r [] s.heap) (hd : dp + 40 < recursionLimit) (hun : un + 200 < cLine) (dx : Addr) (vs : List Value) (hl : s.heap.IsList dx vs.toArray) (hvs : ∀ v ∈ vs, ∃ n t, v = .int n t) (hlen : vs.length ≤ 1000)
    (h : ∀ h' tk a ks ns, s.heap.StaysIn h' → s.heap.get? a = none → h'.PlainList a (List.toArray ks) → All2 IsInt ks ns → ns.length = 4 → Q (.ref a) (at' s h' tk)) :
    wpAny (MD w) (AR dp un fr gs) (call (.ref 217) [.ref dx]) Q E s := by
  refine' enterG S [("script", .ref dx)] (fun y => none) (fun L => [(L + 1 + 1, .cell none), (L + 1, .cell (some (.ref dx)))]) ?k6 ?k7 ?k8 ?k9 ?kB ?kD ?km ?kc ?_ ?c2 ?c3 ?c4
  walk_at "enter"
  rename_i g₀ L h₁ tk₁ hb S₁
  have hl' : g₀.IsList dx vs.toArray := hl.at fun o e => hb.nil _ o e
  walk_at "go"
  rename Sd _ _ _ _ _ => S₁
  refine it_rangeS (n := 4) S₁ (by walk_at "mm") (by decide) rfl ?_
  intro I o h' T hst S₂
  clear S₁
  refine ⟨I, _, _, _, _, _, _, _, o, rfl, T, by rw [sizeLine_eq]; decide, hst, S₂, fun D C => ⟨fun i zs r'' sl' => r'' = s.heap ∧ sl' = _ ∧ ∃ ns, All2 IsInt zs ns ∧ ns.length = i, ⟨rfl, rfl, [], by trivial, rfl⟩, fun _ _ _ _ _ _ _ _ _ => trivial, ?_, ?_⟩⟩
  · rintro i v oI zs m r'' sl' h₂ tk₂ Post hP hi hv ⟨rfl, rfl, ns, hns, hnl⟩ S₃
    clear S₂
    obtain ⟨t₅, rfl⟩ := hv
    obtain ⟨ms, hms⟩ := ints_ex (l := (slicePick vs.toArray (some (i : Int)) none (some 4)).toList) fun v hv => hvs v (pick_mem v hv)
    obtain rfl | rfl | rfl | rfl : i = 0 ∨ i = 1 ∨ i = 2 ∨ i = 3 := by omega
    · walk_at "go"
      walk_at "tests"
      iterate 17 (first | walk1 | (dsimp only; walk1))
      rename Sd _ _ _ _ _ => S₄
      (try dsimp only [at'] at S₄ ⊢)
      refine r_lsliceL (s := ⟨_, _, _, _, _⟩) S₄ (hl'.at fun o e => S₄.keep _ o e) (by constructor) (by constructor) (by constructor) (by decide) ?_ (hsz := by rw [List.size_toArray, sizeLine_eq]; omega)
      intro D2 h₅ S₅ hD2
      clear S₄
      walk_at "go"
      rename Sd _ _ _ _ _ => S₆
      refine r_sum S₆ rfl (S₆.get (x := .lst _) (by walk_at "mm")) hms ?_
      intro h₆ tk₆ t₆ S₇
      clear S₆
      walk_at "go"
      rename Sd _ _ _ _ _ => S₈
      refine hP _ _ <| block_end S₈.drop (by walk_at "pp") (inv := fun zs r'' sl' => _ ∧ _ ∧ _) ⟨rfl, rfl, ns ++ [_], hns.snoc ⟨_, rfl⟩, by rw [List.length_append, hnl]; rfl⟩
    · walk_at "go"
      walk_at "tests"
      iterate 17 (first | walk1 | (dsimp only; walk1))
      rename Sd _ _ _ _ _ => S₄
      (try dsimp only [at'] at S₄ ⊢)
      refine r_lsliceL (s := ⟨_, _, _, _, _⟩) S₄ (hl'.at fun o e => S₄.keep _ o e) (by constructor) (by constructor) (by constructor) (by decide) ?_ (hsz := by rw [List.size_toArray, sizeLine_eq]; omega)
      intro D2 h₅ S₅ hD2
      clear S₄
      walk_at "go"
      rename Sd _ _ _ _ _ => S₆
      refine r_sum S₆ rfl (S₆.get (x := .lst _) (by walk_at "mm")) hms ?_
      intro h₆ tk₆ t₆ S₇
      clear S₆
      walk_at "go"
      rename Sd _ _ _ _ _ => S₈
      refine hP _ _ <| block_end S₈.drop (by walk_at "pp") (inv := fun zs r'' sl' => _ ∧ _ ∧ _) ⟨rfl, rfl, ns ++ [_], hns.snoc ⟨_, rfl⟩, by rw [List.length_append, hnl]; rfl⟩
    · walk_at "go"
      walk_at "tests"
      iterate 17 (first | walk1 | (dsimp only; walk1))
      rename Sd _ _ _ _ _ => S₄
      (try dsimp only [at'] at S₄ ⊢)
      refine r_lsliceL (s := ⟨_, _, _, _, _⟩) S₄ (hl'.at fun o e => S₄.keep _ o e) (by constructor) (by constructor) (by constructor) (by decide) ?_ (hsz := by rw [List.size_toArray, sizeLine_eq]; omega)
      intro D2 h₅ S₅ hD2
      clear S₄
      walk_at "go"
      rename Sd _ _ _ _ _ => S₆
      refine r_sum S₆ rfl (S₆.get (x := .lst _) (by walk_at "mm")) hms ?_
      intro h₆ tk₆ t₆ S₇
      clear S₆
      walk_at "go"
      rename Sd _ _ _ _ _ => S₈
      refine hP _ _ <| block_end S₈.drop (by walk_at "pp") (inv := fun zs r'' sl' => _ ∧ _ ∧ _) ⟨rfl, rfl, ns ++ [_], hns.snoc ⟨_, rfl⟩, by rw [List.length_append, hnl]; rfl⟩
    · walk_at "go"
      walk_at "tests"
      iterate 17 (first | walk1 | (dsimp only; walk1))
      rename Sd _ _ _ _ _ => S₄
      (try dsimp only [at'] at S₄ ⊢)
      refine r_lsliceL (s := ⟨_, _, _, _, _⟩) S₄ (hl'.at fun o e => S₄.keep _ o e) (by constructor) (by constructor) (by constructor) (by decide) ?_ (hsz := by rw [List.size_toArray, sizeLine_eq]; omega)
      intro D2 h₅ S₅ hD2
      clear S₄
      walk_at "go"
      rename Sd _ _ _ _ _ => S₆
      refine r_sum S₆ rfl (S₆.get (x := .lst _) (by walk_at "mm")) hms ?_
      intro h₆ tk₆ t₆ S₇
      clear S₆
      walk_at "go"
      rename Sd _ _ _ _ _ => S₈
      refine hP _ _ <| block_end S₈.drop (by walk_at "pp") (inv := fun zs r'' sl' => _ ∧ _ ∧ _) ⟨rfl, rfl, ns ++ [_], hns.snoc ⟨_, rfl⟩, by rw [List.length_append, hnl]; rfl⟩
  · rintro zs m r'' sl' h₂ tk₂ ⟨rfl, rfl, ns, hns, hnl⟩ S₃ h₃ S₄
    clear S₂ S₃
    walk_at "go"
    exact h _ _ _ zs ns (fun b o e => S₄.keep b o (hb.nil b o e)) (none_of hb.nil (S₄.nw (D, .lst zs) (.head _))) (S₄.get (x := .lst zs) (.head _)) hns hnl
end
end Mine
namespace Mine
theorem yn_ex : ∀ y n : Fin 8, (y.val &&& n.val) = 0 → ∃ p : Pr, yOf p = y.val ∧ nOf p = n.val := by decide +kernel
theorem yn_dis : ∀ p : Pr, (yOf p &&& nOf p) = 0 := by decide +kernel
theorem yn_inj : ∀ p q : Pr, yOf p = yOf q → nOf p = nOf q → p = q := by decide +kernel
theorem ptN_iff (O : List Pr) (x : Fin 8) : ptN O x.val = true ↔ ∃ o ∈ O, at_ o x = true := by
  rw [ptN, List.any_eq_true]; rfl
theorem impB_iff (O : List Pr) (p : Pr) : impB O (8 * yOf p + nOf p) = true ↔ Impl O p := by
  obtain ⟨hy, hn⟩ := yn_lt p
  have hk1 : (8 * yOf p + nOf p) / 8 = yOf p := by omega
  have hk2 : (8 * yOf p + nOf p) % 8 = nOf p := by omega
  unfold impB
  rw [hk1, hk2, yn_dis]
  simp only [beq_self_eq_true, Bool.true_and, List.all_eq_true, List.mem_range]
  constructor
  · intro h x hx
    have := h x.val x.isLt
    rw [show atYN (yOf p) (nOf p) x.val = true from hx] at this
    rw [← ptN_iff]
    simpa using this
  · intro h x hx
    cases e : atYN (yOf p) (nOf p) x with
    | false => rfl
    | true =>
      have := (ptN_iff O ⟨x, hx⟩).mpr (h ⟨x, hx⟩ e)
      have e2 : ptN O x = true := this
      rw [e2]; rfl
theorem impK_mem (O : List Pr) (y n : Nat) (hy : y < 8) (hn : n < 8) : (y, n) ∈ impK O 64 ↔ impB O (8 * y + n) = true := by
  unfold impK
  rw [List.mem_map]
  constructor
  · rintro ⟨k, hk, e⟩
    obtain ⟨_, h2⟩ := List.mem_filter.mp hk
    have e1 : k / 8 = y := congrArg Prod.fst e
    have e2 : k % 8 = n := congrArg Prod.snd e
    have : k = 8 * y + n := by omega
    rw [← this]; exact h2
  · intro h
    exact ⟨8 * y + n, List.mem_filter.mpr ⟨List.mem_range.mpr (by omega), h⟩, by rw [show (8 * y + n) / 8 = y by omega, show (8 * y + n) % 8 = n by omega]⟩
theorem impK_yn (O : List Pr) (p : Pr) : yn p ∈ impK O 64 ↔ Impl O p := by
  obtain ⟨hy, hn⟩ := yn_lt p
  rw [impK_mem O _ _ hy hn, impB_iff]
theorem cut_less : ∀ p : Pr, ∀ i : Fin 3, (0 < ((yOf p ||| nOf p) &&& 2 ^ i.val) ↔ fg p i.val ≠ 0) ∧ (fg p i.val ≠ 0 → yOf p - (yOf p &&& 2 ^ i.val) = yOf (less p i.val) ∧ nOf p - (nOf p &&& 2 ^ i.val) = nOf (less p i.val)) := by decide +kernel
theorem cutB_iff (O : List Pr) (p : Pr) (i : Fin 3) : cutB (impK O 64) (yOf p) (nOf p) (2 ^ i.val) = true ↔ fg p i.val ≠ 0 ∧ Impl O (less p i.val) := by
  obtain ⟨h1, h2⟩ := cut_less p i
  unfold cutB
  rw [Bool.and_eq_true, decide_eq_true_eq, decide_eq_true_eq, h1]
  constructor
  · rintro ⟨a, b⟩
    obtain ⟨e1, e2⟩ := h2 a
    rw [e1, e2] at b
    exact ⟨a, (impK_yn O _).mp b⟩
  · rintro ⟨a, b⟩
    obtain ⟨e1, e2⟩ := h2 a
    rw [e1, e2]
    exact ⟨a, (impK_yn O _).mpr b⟩
theorem dueB_iff (O : List Pr) (p : Pr) : dueB (impK O 64) (yn p) = true ↔ ∀ i : Fin 3, fg p i.val ≠ 0 → ¬ Impl O (less p i.val) := by
  unfold dueB
  rw [List.isEmpty_iff, List.filter_eq_nil_iff]
  constructor
  · intro h i hi hI
    have hm : 2 ^ i.val ∈ [1, 2, 4] := (by decide : ∀ i : Fin 3, 2 ^ i.val ∈ [1, 2, 4]) i
    exact h _ hm ((cutB_iff O p i).mpr ⟨hi, hI⟩)
  · intro h b hb hc
    obtain ⟨i, rfl⟩ : ∃ i : Fin 3, b = 2 ^ i.val := by
      simp only [List.mem_cons, List.not_mem_nil, or_false] at hb
      rcases hb with rfl | rfl | rfl
      · exact ⟨0, rfl⟩
      · exact ⟨1, rfl⟩
      · exact ⟨2, rfl⟩
    obtain ⟨a, c⟩ := (cutB_iff O p i).mp hc
    exact h i a c
theorem impK_nodup (O : List Pr) : (impK O 64).Nodup := by
  unfold impK
  refine List.pairwise_map.mpr (List.Pairwise.imp_of_mem ?_ (List.Pairwise.filter _ List.nodup_range))
  intro a b ha hb hne e
  have e1 : a / 8 = b / 8 := congrArg Prod.fst e
  have e2 : a % 8 = b % 8 := congrArg Prod.snd e
  exact hne (by omega)
theorem due_perm {O K : List Pr} (I : Inv O [] K) : (K.map fun p => apS (kOf (yOf p) (nOf p))).Perm (dueL O) := by
  have h : (K.map yn).Perm ((impK O 64).filter (dueB (impK O 64))) := by
    refine (List.perm_ext_iff_of_nodup ?_ ((impK_nodup O).filter _)).mpr fun q => ?_
    · refine List.pairwise_map.mpr ((anti_nodup I.anti).imp fun hne e => hne ?_)
      exact yn_inj _ _ (congrArg Prod.fst e) (congrArg Prod.snd e)
    · rw [List.mem_map, List.mem_filter]
      constructor
      · rintro ⟨p, hp, rfl⟩
        obtain ⟨h1, h2⟩ := (I.primes p).mp hp
        exact ⟨(impK_yn O p).mpr h1, (dueB_iff O p).mpr h2⟩
      · rintro ⟨h1, h2⟩
        obtain ⟨y, n⟩ := q
        obtain ⟨hy, hn⟩ := impK_lt (O := O) (k := 64) (Nat.le_refl _) _ h1
        have hd : (y &&& n) = 0 := by
          have := (impK_mem O y n hy hn).mp h1
          unfold impB at this
          rw [show (8 * y + n) / 8 = y by have : n < 8 := hn; omega, show (8 * y + n) % 8 = n by have : n < 8 := hn; omega, Bool.and_eq_true] at this
          simpa using this.1
        obtain ⟨p, e1, e2⟩ := yn_ex ⟨y, hy⟩ ⟨n, hn⟩ hd
        have e : (y, n) = yn p := by show (y, n) = (yOf p, nOf p); rw [e1, e2]
        rw [e] at h1 h2
        exact ⟨p, (I.primes p).mpr ⟨(impK_yn O p).mp h1, (dueB_iff O p).mp h2⟩, e.symm⟩
  have := h.map dueS
  rwa [List.map_map] at this
/-- kept there is something -/
theorem kept_ne {O K : List Pr} (I : Inv O [] K) (hO : O ≠ []) : K ≠ [] := by
  rintro rfl
  cases O with
  | nil => exact hO rfl
  | cons o O =>
    obtain ⟨q, hq, _⟩ := I.orig o (.head _)
    rcases hq with h | h <;> cases h
end Mine
namespace Mine
theorem lt_anti : ∀ a b : List Nat, Spec.ltCps a b = false → Spec.ltCps b a = false → a = b
  | [], [], _, _ => rfl
  | [], _ :: _, h, _ => by simp [Spec.ltCps] at h
  | _ :: _, [], _, h => by simp [Spec.ltCps] at h
  | x :: a, y :: b, h1, h2 => by
    simp only [Spec.ltCps, Bool.or_eq_false_iff, decide_eq_false_iff_not, Bool.and_eq_false_iff, beq_eq_false_iff_ne] at h1 h2
    have e : x = y := by omega
    subst e
    have h3 : Spec.ltCps a b = false := by rcases h1.2 with h | h; exact absurd rfl h; exact h
    have h4 : Spec.ltCps b a = false := by rcases h2.2 with h | h; exact absurd rfl h; exact h
    rw [lt_anti a b h3 h4]
theorem le_trans' : ∀ a b c : List Nat, Spec.ltCps b a = false → Spec.ltCps c b = false → Spec.ltCps c a = false
  | [], _, c, _, _ => by cases c <;> rfl
  | x :: a, [], _, h, _ => by simp [Spec.ltCps] at h
  | x :: a, y :: b, [], _, h => by simp [Spec.ltCps] at h
  | x :: a, y :: b, z :: c, h1, h2 => by
    simp only [Spec.ltCps, Bool.or_eq_false_iff, decide_eq_false_iff_not, Bool.and_eq_false_iff, beq_eq_false_iff_ne] at h1 h2 ⊢
    refine ⟨by omega, ?_⟩
    by_cases e : z = x
    · right
      have e1 : y = x := by omega
      have e2 : z = y := by omega
      have h3 : Spec.ltCps b a = false := by rcases h1.2 with h | h; exact absurd e1 h; exact h
      have h4 : Spec.ltCps c b = false := by rcases h2.2 with h | h; exact absurd e2 h; exact h
      exact le_trans' a b c h3 h4
    · exact .inl e
noncomputable def leS (x y : Str) : Prop := Spec.ltCps y.cps.toList x.cps.toList = false
theorem rising_pw : ∀ (l : List Str) (p : Str), risingS p l = true → (p :: l).Pairwise leS
  | [], p, _ => List.pairwise_singleton _ _
  | x :: r, p, h => by
    have h' : (!Spec.ltCps x.cps.toList p.cps.toList && risingS x r) = true := h
    rw [Bool.and_eq_true, Bool.not_eq_true'] at h'
    have ih := rising_pw r x h'.2
    refine List.pairwise_cons.mpr ⟨fun y hy => ?_, ih⟩
    rcases List.mem_cons.mp hy with rfl | hy
    · exact h'.1
    · exact le_trans' _ _ _ h'.1 ((List.pairwise_cons.mp ih).1 y hy)
theorem sorted_pw : ∀ l : List Str, sortedS l = true → l.Pairwise leS
  | [], _ => List.Pairwise.nil
  | x :: r, h => rising_pw r x h
theorem sorted_same {a b : List Str} (hp : a.Perm b) (ha : sortedS a = true) (hb : sortedS b = true) : a = b := by
  have an : ∀ x y : Str, leS x y → leS y x → x = y := fun x y h1 h2 => by
    obtain ⟨x⟩ := x; obtain ⟨y⟩ := y
    exact congrArg Str.mk (Array.toList_inj.mp (lt_anti _ _ h2 h1))
  first
    | exact hp.eq_of_pairwise (fun x y _ _ h1 h2 => an x y h1 h2) (sorted_pw a ha) (sorted_pw b hb)
    | exact List.Perm.eq_of_pairwise (fun x y _ _ h1 h2 => an x y h1 h2) (sorted_pw a ha) (sorted_pw b hb) hp
theorem r_sorted {prog : Program} {w : World} {A : Around} {E : Value → Shared → Prop} {s : Shared} {g r : Heap} {sl : List (Addr × Sp)} {l : Addr} {vs : List Value} {ss : List Str} {Q : Value → Shared → Prop} (S : Sd w g r sl s.heap) (hl : s.heap.PlainList l vs.toArray) (hS : Strs vs ss) (h64 : vs.length < 64)
    (h : ∀ a h' out ss', Sd w g r ((a, .lst out) :: sl) h' → Strs out ss' → ss'.Perm ss → sortedS ss' = true → Q (.ref a) (at' s h' s.toks)) : wpAny (model prog w) A (call (.builtin "sorted") [.ref l]) Q E s := by
  refine sorted_strs hl.isList (Strs.are hS) h64 fun out ss' h1 h2 h3 => ?_
  obtain ⟨e, he⟩ := sortedAll_at s.heap vs out
  have hn : s.heap.get? (s.heap.objs.size + 1) = none := by
    cases q : s.heap.get? (s.heap.objs.size + 1) with
    | none => rfl
    | some o => exact absurd (Heap.lt_size q) (Nat.not_lt.mpr (Nat.le_succ _))
  refine h _ _ out.toList ss' (S.add (fun b o q => sortedAll_old q) hn ⟨e, by rw [Array.toArray_toList]; exact he⟩) ?_ h2 h3
  clear h2 h3 he
  have : ∀ {vs : List Value} {ss : List Str}, StrsAre vs ss → Strs vs ss := by
    intro vs ss h
    induction h with
    | nil => trivial
    | cons x t _ ih => exact ⟨⟨t, rfl⟩, ih⟩
  exact this h1
theorem goods_texts : ∀ {es : List (Str × Str)} {K : List Pr}, All2 Good es K → ∃ lss, es.map (·.2) = lss.map rend ∧ All2 LP lss K
  | [], [], _ => ⟨[], rfl, trivial⟩
  | e :: es, p :: K, h => by
    obtain ⟨lss, h1, h2⟩ := goods_texts h.2
    obtain ⟨b, ls, _, h4, h5⟩ := h.1
    exact ⟨ls :: lss, by rw [List.map_cons, List.map_cons, h1, h4], h5, h2⟩
theorem goods_upper : ∀ {es : List (Str × Str)} {K : List Pr}, All2 Good es K → es.map (fun e => Txt.upper e.1) = K.map fun p => apS (kOf (yOf p) (nOf p))
  | [], [], _ => rfl
  | e :: es, p :: K, h => by
    have ih := goods_upper h.2
    obtain ⟨b, ls, h3, _⟩ := h.1
    rw [List.map_cons, List.map_cons, ih, h3, (nmP_facts b p).2.1]
theorem apS_ok : ∀ p : Pr, PyData.strOk (apS (kOf (yOf p) (nOf p))) = true := by decide +kernel
end Mine
namespace Mine
theorem Sd.ofFr {w : World} {h₀ h : Heap} {L : Addr} {m : Str → Option Value} {mean : ExcName → Option Value} {mg mb : Str → Option Value} (X : (Mine.mk.heap_1 w.params).In h₀) (T : Top Mine.vw Lo mean mg mb h₀) (F : Fr h₀ L h m) : Sd w h₀ h₀ [(L, .ns m)] h where
  gd := ⟨X, mean, mg, mb, T⟩
  keep := F.keep
  at_ := fun p hp => by rw [List.mem_singleton] at hp; subst hp; exact F.ns
  nd := by simp
  nw := fun p hp => by
    rw [List.mem_singleton] at hp; subst hp
    cases e : h₀.get? L with
    | none => rfl
    | some o => exact absurd (Heap.lt_size e) (Nat.not_lt.mpr F.above)
  tk := fun b o e _ => F.keep b o e
theorem ints_all : ∀ {vs : List Value} {ns : List Int}, IntsAre vs ns → ∀ v ∈ vs, ∃ n t, v = .int n t := by
  intro vs ns h
  induction h with
  | nil => intro v hv; cases hv
  | cons n t _ ih =>
    intro v hv
    rcases List.mem_cons.mp hv with rfl | hv
    · exact ⟨n, t, rfl⟩
    · exact ih v hv
end Mine
namespace Mine
theorem texts_sum' : ∀ lss : List (List Lit), (∀ ls ∈ lss, ls.length ≤ 6) → ((lss.map rend).map (·.length)).sum ≤ 18 * lss.length
  | [], _ => Nat.le_refl _
  | l :: r, k => by
    have h1 := rend_len l
    have h2 := k l (.head _)
    have h3 := texts_sum' r fun x hx => k x (.tail _ hx)
    simp only [List.map_cons, List.sum_cons, List.length_cons]
    omega
theorem LP.all6 : ∀ {lss : List (List Lit)} {O : List Pr}, All2 LP lss O → ∀ ls ∈ lss, ls.length ≤ 6
  | [], [], _, _, h => absurd h List.not_mem_nil
  | l :: r, p :: O, h, ls, hm => by
    rcases List.mem_cons.mp hm with rfl | hm
    · exact h.1.1
    · exact LP.all6 h.2 ls hm
end Mine
local macro_rules | `(tactic| k_qdec) => `(tactic| decide +kernel)
theorem PySem.Challenge.cw_wf0079_01_holds : PySem.Challenge.rw_wf0079_01.Holds := by
  refine hd ?_
  k_go0
  rename Fr _ _ _ _ => F0
  rename Top _ _ _ _ _ _ => T0
  rename Frag.In _ _ => KX
  rename Heap.IsList _ _ _ => hL
  rename IntsAre _ _ => hI
  refine wpAny_mono (?key : wpAny _ _ _ _ Mine.NoE _) (fun _ _ q => q) (fun _ _ e => e.elim)
  have S₀ := Mine.Sd.ofFr KX T0 F0
  have hlen : _ ≤ 63 := Int.ofNat_le.mp (Int.not_lt.mp (by assumption))
  have hlen2 := IntsAre.length hI
  have hIa := Mine.ints_all hI
  clear F0 hI
  walk_at "go"
  refine' c_drawn S₀.nil ?_ ?_ _ _ (hL.at fun o e => S₀.keep _ o e) hIa (by omega) ?_
  any_goals (first | walk_at "om" | decide)
  intro h' tk' a ks ns kk hn hp hks hnl
  have S₁ := S₀.add kk hn (x := .lst ks) hp
  clear S₀
  have hkl := hks.len
  walk_at "go"
  rename Mine.Sd _ _ _ _ _ => S₂
  (try dsimp only [at'] at S₂ ⊢)
  refine iter_list S₂ (S₂.get (x := .lst ks) (by walk_at "mm")) rfl ?_
  intro I o h' T hst S₃
  clear S₂
  refine ⟨I, _, _, _, _, _, _, _, o, rfl, T, by rw [sizeLine_eq]; omega, hst, S₃, fun D C => ⟨fun i zs r'' sl' => r'' = _ ∧ sl' = _ ∧ ∃ lss, Strs zs (List.map rend lss) ∧ All2 LP lss ((ns.take i).map prX), ⟨rfl, rfl, [], by trivial, by trivial⟩, ?_, ?_, ?_⟩⟩
  · rintro i zs r'' sl' sl₁ h' ⟨_, rfl, _⟩ S₄ hs
    exact Heap.PlainList.isList (S₄.get (x := .lst ks) (hs _ (by walk_at "mm")))
  · rintro i v oI zs m r'' sl' h₂ tk₂ Post hP hi hv ⟨rfl, rfl, lss, hzs, hlss⟩ S₄
    clear S₃
    obtain ⟨x, hx, t₁, rfl⟩ := hks.get hv
    walk_at "go"
    walk_at "tests"
    walk_at "go"
    rename Mine.Sd _ _ _ _ _ => S₅
    refine' c_text S₅.nil ?_ ?_ x _ ?_
    any_goals (first | walk_at "om" | decide)
    intro h' tk' ls t₂ kk hLP
    walk_at "pure"
    rename Mine.Sd _ _ _ _ _ => S₆
    refine hP _ _ <| block_end S₆ (by walk_at "pp") (inv := fun zs r'' sl' => _ ∧ _ ∧ _) ⟨rfl, rfl, lss ++ [ls], ?_, ?_⟩
    · rw [List.map_append]; exact hzs.snoc ⟨_, rfl⟩
    · rw [take_next hx, List.map_append]; exact hlss.snoc hLP
  · rintro zs m r'' sl' h₂ tk₂ ⟨rfl, rfl, lss, hzs, hlss⟩ S₄ h₃ S₅
    clear S₃ S₄
    rw [show ks.length = ns.length by omega, List.take_length] at hlss
    have hll := hlss.len
    rw [List.length_map] at hll
    walk_at "go"
    rename Mine.Sd _ _ _ _ _ => S₆
    (try dsimp only [at'] at S₆ ⊢)
    refine' c_settled S₆.nil ?_ ?_ D zs lss (ns.map prX) (S₆.get (x := .lst zs) (by walk_at "mm")) hzs hlss (by omega) ?_
    any_goals (first | walk_at "om" | decide)
    intro h' tk' a₂ vs' es K kk hn hp hes hgood hInv
    have S₇ := (S₆.add kk hn (x := .lst vs') hp).anchor
    clear S₆
    walk_at "go"
    rename Mine.Sd _ _ _ _ _ => S₈
    (try dsimp only [at'] at S₈ ⊢)
    have hel := hes.len
    have hgl := hgood.len
    have hKn := anti_nodup hInv.anti
    have hKl := nodup_le hKn
    have hdp := due_perm hInv
    have hdl := hdp.length_eq
    rw [List.length_map] at hdl
    refine iter_list S₈ (S₈.get (x := .lst vs') (by walk_at "mm")) rfl ?_
    intro I' o' h'' T' hst' S₉
    clear S₈
    refine ⟨I', _, _, _, _, _, _, _, o', rfl, T', by rw [sizeLine_eq]; omega, hst', S₉, fun D2 C2 => ⟨fun i zs2 r'' sl' => r'' = _ ∧ sl' = _ ∧ Strs zs2 (List.take i (List.map (fun e => Txt.upper e.1) es)), ⟨rfl, rfl, by trivial⟩, ?_, ?_, ?_⟩⟩
    · rintro i zs2 r'' sl' sl₁ h' ⟨_, rfl, _⟩ S₄ hs
      exact Heap.PlainList.isList (S₄.get (x := .lst vs') (hs _ (by walk_at "mm")))
    · rintro i v oI' zs2 m r'' sl' h₂ tk₂ Post hP hi hv ⟨rfl, rfl, hzs2⟩ S₄
      clear S₉
      obtain ⟨⟨n0, x0⟩, he, a₃, t₃, t₄, rfl, ht⟩ := hes.get hv
      have hk' : n0.length ≤ 10 := key_le hgood _ (List.mem_of_getElem? he)
      walk_at "go"
      walk_at "tests"
      walk_at "go"
      rename Mine.Sd _ _ _ _ _ => S₅
      refine hP _ _ <| block_end S₅ (by walk_at "pp") (inv := fun zs r'' sl' => _ ∧ _ ∧ _) ⟨rfl, rfl, ?_⟩
      rw [take_next (e := Txt.upper n0) (by rw [List.getElem?_map, he]; rfl)]
      exact hzs2.snoc ⟨_, rfl⟩
    · rintro zs2 m r'' sl' h₂ tk₂ ⟨rfl, rfl, hzs2⟩ S₄ h₄ S₅
      clear S₉ S₄
      rw [List.take_of_length_le (by rw [List.length_map]; omega), goods_upper hgood] at hzs2
      have hzl := hzs2.len
      rw [List.length_map] at hzl
      walk_at "go"
      rename Mine.Sd _ _ _ _ _ => S₆
      (try dsimp only [at'] at S₆ ⊢)
      refine r_sorted S₆ (S₆.get (x := .lst zs2) (by walk_at "mm")) hzs2 (by omega) ?_
      intro a₄ h₅ out ss S₇ hss hsp hso
      clear S₆
      walk_at "go"
      rename Mine.Sd _ _ _ _ _ => S₈
      (try dsimp only [at'] at S₈ ⊢)
      refine' c_due S₈.nil ?_ ?_ a ks ns (S₈.get (x := .lst ks) (by walk_at "mm")) hks hnl ?_
      any_goals (first | walk_at "om" | decide)
      intro h' tk' a₅ ks₅ kk hn hp hks₅
      have S₉ := S₈.add kk hn (x := .lst ks₅) hp
      clear S₈
      have h5l := hks₅.len
      walk_at "go"
      rename Mine.Sd _ _ _ _ _ => S₁₀
      (try dsimp only [at'] at S₁₀ ⊢)
      refine r_sorted S₁₀ (S₁₀.get (x := .lst ks₅) (by walk_at "mm")) hks₅ (by omega) ?_
      intro a₆ h₆ out₂ ss₂ S₁₁ hss₂ hsp₂ hso₂
      clear S₁₀
      have hsame : ss = ss₂ := sorted_same ((hsp.trans hdp).trans hsp₂.symm) hso hso₂
      have hok : ∀ x ∈ ss, PyData.strOk x = true := fun x hx => by
        obtain ⟨p, _, rfl⟩ := List.mem_map.mp (hsp.mem_iff.mp hx)
        exact apS_ok p
      refine r_neStrs (S₁₁.get (x := .lst out) (by walk_at "mm")) (S₁₁.get (x := .lst out₂) (by walk_at "mm")) hss hss₂ hok (hsame ▸ hok) (by first | (simp only [units_deeper, units_caller, cLine]; omega) | (simp only [units_deeper, units_caller, cLine]; done) | (simp only [units_deeper, units_caller, cLine]; decide)) ?_
      rw [hsame, decide_eq_true rfl]
      walk_at "go"
      rename Mine.Sd _ _ _ _ _ => S₁₂
      have S₁₃ := S₁₂.drop.drop.drop.drop.sub (sl' := [(_, .ns _), (a₂, .lst vs'), (D, .lst zs), (a, .lst ks)]) (List.Sublist.refl _)
      clear S₁₂
      (try dsimp only [at'] at S₁₃ ⊢)
      obtain ⟨lss₂, hl2, hLP2⟩ := goods_texts hgood
      refine iter_list S₁₃ (S₁₃.get (x := .lst vs') (by walk_at "mm")) rfl ?_
      intro I₂ o₂ h₇ T₂ hst₂ S₁₄
      clear S₁₃
      refine ⟨I₂, _, _, _, _, _, _, _, o₂, rfl, T₂, by rw [sizeLine_eq]; omega, hst₂, S₁₄, fun D3 C3 => ⟨fun i zs3 r₃ sl' => r₃ = _ ∧ sl' = _ ∧ Strs zs3 (List.take i (List.map (·.2) es)), ⟨rfl, rfl, by trivial⟩, ?_, ?_, ?_⟩⟩
      · rintro i zs3 r₃ sl' sl₁ h' ⟨_, rfl, _⟩ S₄ hs
        exact Heap.PlainList.isList (S₄.get (x := .lst vs') (hs _ (by walk_at "mm")))
      · rintro i v oI₂ zs3 m r₃ sl' h₂ tk₂ Post hP hi hv ⟨rfl, rfl, hzs3⟩ S₄
        clear S₁₄
        obtain ⟨⟨n0, x0⟩, he, a₃, t₃, t₄, rfl, ht⟩ := hes.get hv
        walk_at "go"
        walk_at "tests"
        walk_at "go"
        rename Mine.Sd _ _ _ _ _ => S₅
        refine hP _ _ <| block_end S₅ (by walk_at "pp") (inv := fun zs r'' sl' => _ ∧ _ ∧ _) ⟨rfl, rfl, ?_⟩
        rw [take_next (e := x0) (by rw [List.getElem?_map, he]; rfl)]
        exact hzs3.snoc ⟨_, rfl⟩
      · rintro zs3 m r₃ sl' h₂ tk₂ ⟨rfl, rfl, hzs3⟩ S₄ h₈ S₅
        clear S₁₄ S₄
        rw [List.take_of_length_le (by rw [List.length_map]; omega), hl2] at hzs3
        walk_at "go"
        rename Mine.Sd _ _ _ _ _ => S₆
        (try dsimp only [at'] at S₆ ⊢)
        have hz6 := LP.all6 hLP2
        have hsum := texts_sum' lss₂ hz6
        have hbl := bar_len lss₂ hz6
        have hl3 := hLP2.len
        have hKne := kept_ne hInv (by intro e; rw [← List.length_eq_zero_iff, List.length_map] at e; omega)
        have hKpos : 0 < K.length := List.length_pos_iff.mpr hKne
        refine join_list (ys := List.map rend lss₂) (Heap.PlainList.isList (S₆.get (x := .lst zs3) (by walk_at "mm"))) (Strs.are hzs3) (by have e2 : (Str.ofString " | ").length = 3 := rfl; rw [e2, List.length_map]; omega) ?_
        intro t₉ k₉
        rw [show Txt.join (Str.ofString " | ") (List.map rend lss₂) = bar (List.map rend lss₂) from StrLaws.glued_eq_join _ _]
        walk_at "go"
        refine' c_products S₆.nil ?_ ?_ _ _ (by omega) (bar_Al lss₂) ?_
        any_goals (first | walk_at "om" | decide)
        rw [prods_of lss₂ K hLP2 (by omega)]
        intro h' tk' a₇ ks₇ kk hn hp hks₇
        have S₇ := (S₆.add kk hn (x := .lst ks₇) hp).anchor
        have tk7 := (S₆.add kk hn (x := .lst ks₇) hp).tk
        clear S₆
        replace hes := Ents.keep tk7 hes
        walk_at "go"
        rename Mine.Sd _ _ _ _ _ => S₈
        (try dsimp only [at'] at S₈ ⊢)
        have S₉ := S₈.sub (sl' := [(a₇, .lst ks₇), (D3, .lst zs3), (_, .ns _), (a₂, .lst vs'), (D, .lst zs), (a, .lst ks)]) (List.Sublist.refl _)
        clear S₈
        have hk7l := hks₇.len
        rw [List.length_map] at hk7l
        refine iter_list S₉ (S₉.get (x := .lst vs') (by walk_at "mm")) rfl ?_
        intro I₃ o₃ h₉ T₃ hst₃ S₁₀
        clear S₉
        refine ⟨I₃, _, _, _, _, _, _, _, o₃, rfl, T₃, by rw [sizeLine_eq]; omega, hst₃, S₁₀, fun D4 C4 => ⟨fun i zs4 r₄ sl' => sl' = _ ∧ Ents r₄ vs' es ∧ All2 (Pair r₄) ks₇ (K.map yn) ∧ All2 (Pair r₄) zs4 ((K.take i).map yn), ⟨rfl, hes, hks₇, by trivial⟩, ?_, ?_, ?_⟩⟩
        · rintro i zs4 r₄ sl' sl₁ h' ⟨rfl, _⟩ S₄ hs
          exact Heap.PlainList.isList (S₄.get (x := .lst vs') (hs _ (by walk_at "mm")))
        · rintro i v oI₃ zs4 m r₄ sl' h₂ tk₂ Post hP hi hv ⟨rfl, hes', hks', hzs4⟩ S₄
          clear S₁₀
          obtain ⟨⟨n0, x0⟩, he, a₃, t₃, t₄, rfl, ht⟩ := hes'.get hv
          obtain ⟨p, hp, b1, ls1, e1, e2, hLPp⟩ := hgood.get he
          dsimp only at e1 e2
          subst e1 e2
          obtain ⟨⟨q1, q2⟩, q3, q4, q5⟩ := nmP_facts b1 p
          walk_at "go"
          walk_at "tests"
          walk_at "go"
          rename Mine.Sd _ _ _ _ _ => S₅
          refine' c_bits S₅.nil ?_ ?_ (nmP b1 p) _ (by omega) q5 ?_
          any_goals (first | walk_at "om" | decide)
          rw [(nmP_val b1 p).1, (nmP_val b1 p).2]
          intro h' tk' a₈ t₁₃ t₁₄ kk hn hp8
          have S₆ := S₅.add kk hn (x := .tup [.int (yOf p : Int) t₁₃, .int (nOf p : Int) t₁₄]) hp8
          clear S₅
          have htr := S₆.get (x := .tup _) (.head _)
          have tk6 := S₆.tk
          refine hP _ _ <| block_end S₆.anchor.drop (by walk_at "pp") (inv := fun zs r'' sl' => _ ∧ _ ∧ _ ∧ _) ⟨rfl, Ents.keep tk6 hes', All2.imp (fun _ _ => Pair.keep tk6) hks', ?_⟩
          rw [take_next hp, List.map_append]
          exact (All2.imp (fun _ _ => Pair.keep tk6) hzs4).snoc ⟨_, _, _, rfl, htr⟩
        · rintro zs4 m r₄ sl' h₂ tk₂ ⟨rfl, hes', hks', hzs4⟩ S₄ h₁₀ S₅
          clear S₁₀ S₄
          rw [show vs'.length = K.length by omega, List.take_length] at hzs4
          walk_at "go"
          rename Mine.Sd _ _ _ _ _ => S₆
          refine r_eqPairs (S₆.get (x := .lst ks₇) (by walk_at "mm")) (S₆.get (x := .lst zs4) (.head _)) (All2.imp (fun _ _ => Pair.keep S₆.tk) hks') (All2.imp (fun _ _ => Pair.keep S₆.tk) hzs4) (by first | (simp only [units_deeper, units_caller, cLine]; omega) | (simp only [units_deeper, units_caller, cLine]; done) | (simp only [units_deeper, units_caller, cLine]; decide)) ?_
          rw [decide_eq_true rfl]
          walk_at "go"
          have F9 : Fr _ _ _ _ := ⟨S₆.get (x := .ns _) (by walk_at "mm"), S₆.keep, Nat.le_refl _⟩
          refine goodW_bool F9 (by assumption) (raisesW_false ?_) ?_
          · wrow_none_raised
          · first | wrow_post | kc_post
