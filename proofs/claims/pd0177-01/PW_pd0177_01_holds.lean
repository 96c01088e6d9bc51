import PyProof.Rows.All
import Wide.All
import OpenK.AllK
import Wide.FinOn
import PySem.Challenge.RW_pd0177_01
open PySem PySem.W PyProof.Rows
set_option Elab.async false
set_option maxRecDepth 100000
set_option maxHeartbeats 8000000
section
open PySem PySem.W PyProof.Rows
namespace Mine
section
local macro_rules | `(tactic| o_head $_) => `(tactic| assumption)
theorem fr (h : PySem.Challenge.rw_pd0177_01.row.Holds) : PySem.Challenge.rw_pd0177_01.row.Holds := by x_head
end
end Mine

end
section
open PySem PySem.W PyProof.Rows
namespace Mine
noncomputable abbrev pE : Program := PySem.Challenge.rw_pd0177_01.row.toRowW.1
/-- the text, the statements that the walk asks for -/
noncomputable def q : Program := view PySem.Challenge.pw_pd0177_01 [0, 1, 3, 5, 7, 8, 10, 12, 14, 15, 16, 17, 18, 19, 20, 22, 23, 24, 26, 27, 28, 29, 30, 31, 32]
end Mine
end
section
open PySem PySem.W PyProof.Rows
namespace Mine
abbrev loose0 : List Str := [Str.ofString "_name_disallowed_re", Str.ofString "_value_disallowed_re"]
def as_ : List Addr := [0, 1, 2, 3, 4, 5, 6, 7, 8, 9, 10, 11, 12, 13, 14, 15, 32, 33, 34, 35, 36, 37, 38, 39, 40, 41, 42, 43, 44, 45, 46, 53, 54, 55, 56, 57, 58, 59, 60, 61, 62, 65, 72, 73, 74, 75, 76, 77, 78, 79, 80, 81, 82, 83, 84, 85, 86, 87, 88, 89, 90, 91, 92, 93, 94, 95, 98, 99, 100, 101, 102, 103, 104, 105, 106, 107, 108, 109, 110, 111, 112, 113, 114, 115, 116, 117, 118, 119, 120, 121, 122, 123, 124, 125, 126, 127, 128, 129, 130, 131, 132, 133, 134, 135, 136, 137, 138, 139, 140, 141, 142, 143, 144, 145, 146, 147, 148, 149, 150, 151, 152, 153, 154, 155, 156, 157, 158, 159, 160, 161, 162, 163, 164, 165, 166, 167, 171, 172, 176, 177, 185, 186, 187, 188, 189, 190, 191, 192, 193, 194, 195, 196, 197, 198, 199, 200, 201, 202, 203, 204, 205, 206, 207, 208, 209, 210, 211, 212, 213, 214, 215, 216, 217, 218, 219, 220, 221, 222, 223, 224, 225, 226, 227, 228, 229, 230, 231, 232, 233, 234, 235, 236, 237, 238, 239, 240, 241, 242, 243, 244, 245, 246, 247, 248, 249, 250, 251, 252, 253, 254, 255, 256, 257, 258, 259, 260, 261, 262, 263, 264, 265, 266, 267, 268, 269, 270, 271, 272, 273, 274, 275, 276, 277, 278, 279, 280, 281, 282, 283, 284, 285, 286, 287, 288, 289, 290, 291, 292, 293, 294, 295, 296, 297, 298, 299, 300, 301, 302, 305, 306, 307, 308, 309, 310, 311, 312, 313, 314, 315, 316, 317, 318, 319, 320, 321, 322, 323, 324, 325, 326, 327, 328, 329, 330, 331, 332, 333, 334, 335, 336, 337, 338, 339, 340, 341, 342, 343, 344, 345, 346, 347]
theorem as_is : ∀ P, as_ = (fr.heap_1 P).map (·.1) := fun _ => by kernel_rfl
noncomputable abbrev hk : Hook := kHook fr.heap_1 as_ as_is
/-- the objects of the last state that the written part leaves out -/
noncomputable def extras (P : Params) : Frag := [
  (16, ({ cls := Value.type "getset_descriptor", data := Data.fields #[Value.str (Str.ofString "__dict__") 201, Value.ref 14, Value.builtin "function.__dict__", Value.builtin "function.__dict__#set"] } : Obj)),
  (17, ({ cls := Value.type "getset_descriptor", data := Data.fields #[Value.str (Str.ofString "__weakref__") 203, Value.ref 14, Value.builtin "ExceptionGroup.__weakref__", Value.none] } : Obj)),
  (18, ({ cls := Value.none, data := Data.seq #[Value.int 13 0, Value.str (Str.ofString "\x06½\n__module__\x06º\x11_frozen_imp\x6frtlib\x06¾\x0f__firstlineno__\x04»\x00ϋ\x06¿\x07__doc__\t4_frozen_imp\x6frtlib.BuiltinImporter.__doc__:str#op\x61que\x06À\x07_ORIGIN\x06¼\x08built-in\x06Á\tfind_spec\t2_frozen_imp\x6frtlib.BuiltinImporter.find_spec#op\x61que\x06Â\x0dcreate_module\t6_frozen_imp\x6frtlib.BuiltinImporter.create_module#op\x61que\x06Ã\x0bexec_module\t4_frozen_imp\x6frtlib.BuiltinImporter.exec_module#op\x61que\x06Ä\x08get_code\t1_frozen_imp\x6frtlib.BuiltinImporter.get_code#op\x61que\x06Å\nget_source\t3_frozen_imp\x6frtlib.BuiltinImporter.get_source#op\x61que\x06Æ\nis_package\t3_frozen_imp\x6frtlib.BuiltinImporter.is_package#op\x61que\x06Ç\x0bload_module\t4_frozen_imp\x6frtlib.BuiltinImporter.load_module#op\x61que\x06È\x15__static_attributes__\x04\x00\x00\x0f\x06Ê\x08__dict__\x04\x00\x00\x10\x06Ì\x0b__weakref__\x04\x00\x00\x11") 0, Value.bool true, Value.bool true, Value.str (Str.ofString "") 205, Value.int 21 0, Value.str (Str.ofString "\x06ã\n__module__\x06Ù\x11_frozen_imp\x6frtlib\x06ä\x0f__firstlineno__\x04Ú\x00Ȳ\x06å\x07__doc__\t/_frozen_imp\x6frtlib.ModuleSpec.__doc__:str#op\x61que\x06æ\x08__init__\t,_frozen_imp\x6frtlib.ModuleSpec.__init__#op\x61que\x06ç\x08__repr__\t,_frozen_imp\x6frtlib.ModuleSpec.__repr__#op\x61que\x06è\x06__eq__\t*_frozen_imp\x6frtlib.ModuleSpec.__eq__#op\x61que\x06é\x06cached\t*_frozen_imp\x6frtlib.ModuleSpec.cached#op\x61que\x06ê\x06parent\t*_frozen_imp\x6frtlib.ModuleSpec.parent#op\x61que\x06ë\x0chas_location\t0_frozen_imp\x6frtlib.ModuleSpec.has_location#op\x61que\x06ì\x15__static_attributes__\x04\x00\x00\x17\x06î\x08__dict__\x04\x00\x00\x18\x06ð\x0b__weakref__\x04\x00\x00\x19\x06ñ\x08__hash__\x00") 0, Value.bool true, Value.bool true, Value.str (Str.ofString "") 242] 1 } : Obj)),
  (19, ({ cls := Value.type "list", data := Data.seq #[] } : Obj)),
  (20, ({ cls := Value.type "dict", data := Data.dict #[{ hash := PyData.keyHash P (Str.ofString "name"), key := Value.str (Str.ofString "name") 208, val := Value.str (Str.ofString "_sre") 207 }, { hash := PyData.keyHash P (Str.ofString "loader"), key := Value.str (Str.ofString "loader") 209, val := Value.ref 14 }, { hash := PyData.keyHash P (Str.ofString "origin"), key := Value.str (Str.ofString "origin") 210, val := Value.str (Str.ofString "built-in") 184 }, { hash := PyData.keyHash P (Str.ofString "loader_state"), key := Value.str (Str.ofString "loader_state") 211, val := Value.none }, { hash := PyData.keyHash P (Str.ofString "submodule_search_locations"), key := Value.str (Str.ofString "submodule_search_locations") 212, val := Value.none }, { hash := PyData.keyHash P (Str.ofString "_uninitialized_submodules"), key := Value.str (Str.ofString "_uninitialized_submodules") 213, val := Value.ref 19 }, { hash := PyData.keyHash P (Str.ofString "_set_fileattr"), key := Value.str (Str.ofString "_set_fileattr") 214, val := Value.bool false }, { hash := PyData.keyHash P (Str.ofString "_cached"), key := Value.str (Str.ofString "_cached") 215, val := Value.none }, { hash := PyData.keyHash P (Str.ofString "_initializing"), key := Value.str (Str.ofString "_initializing") 243, val := Value.bool false }] 9 } : Obj)),
  (21, ({ cls := Value.type "dict", data := Data.dict #[{ hash := PyData.keyHash P (Str.ofString "__module__"), key := Value.str (Str.ofString "__module__") 227, val := Value.str (Str.ofString "_frozen_imp\x6frtlib") 217 }, { hash := PyData.keyHash P (Str.ofString "__firstlineno__"), key := Value.str (Str.ofString "__firstlineno__") 228, val := Value.int 562 218 }, { hash := PyData.keyHash P (Str.ofString "__doc__"), key := Value.str (Str.ofString "__doc__") 229, val := Value.builtin "_frozen_imp\x6frtlib.ModuleSpec.__doc__:str#op\x61que" }, { hash := PyData.keyHash P (Str.ofString "__init__"), key := Value.str (Str.ofString "__init__") 230, val := Value.builtin "_frozen_imp\x6frtlib.ModuleSpec.__init__#op\x61que" }, { hash := PyData.keyHash P (Str.ofString "__repr__"), key := Value.str (Str.ofString "__repr__") 231, val := Value.builtin "_frozen_imp\x6frtlib.ModuleSpec.__repr__#op\x61que" }, { hash := PyData.keyHash P (Str.ofString "__eq__"), key := Value.str (Str.ofString "__eq__") 232, val := Value.builtin "_frozen_imp\x6frtlib.ModuleSpec.__eq__#op\x61que" }, { hash := PyData.keyHash P (Str.ofString "cached"), key := Value.str (Str.ofString "cached") 233, val := Value.builtin "_frozen_imp\x6frtlib.ModuleSpec.cached#op\x61que" }, { hash := PyData.keyHash P (Str.ofString "parent"), key := Value.str (Str.ofString "parent") 234, val := Value.builtin "_frozen_imp\x6frtlib.ModuleSpec.parent#op\x61que" }, { hash := PyData.keyHash P (Str.ofString "has_location"), key := Value.str (Str.ofString "has_location") 235, val := Value.builtin "_frozen_imp\x6frtlib.ModuleSpec.has_location#op\x61que" }, { hash := PyData.keyHash P (Str.ofString "__static_attributes__"), key := Value.str (Str.ofString "__static_attributes__") 236, val := Value.ref 23 }, { hash := PyData.keyHash P (Str.ofString "__dict__"), key := Value.str (Str.ofString "__dict__") 238, val := Value.ref 24 }, { hash := PyData.keyHash P (Str.ofString "__weakref__"), key := Value.str (Str.ofString "__weakref__") 240, val := Value.ref 25 }, { hash := PyData.keyHash P (Str.ofString "__hash__"), key := Value.str (Str.ofString "__hash__") 241, val := Value.none }] 13 } : Obj)),
  (22, ({ cls := Value.type "type", data := Data.cls { name := Str.ofString "ModuleSpec", bases := [Value.type "object"], mro := [Value.ref 22, Value.type "object"], ns := 21, qualname := Str.ofString "ModuleSpec" } } : Obj)),
  (23, ({ cls := Value.type "tuple", data := Data.seq #[Value.str (Str.ofString "_cached") 219, Value.str (Str.ofString "_set_fileattr") 220, Value.str (Str.ofString "_uninitialized_submodules") 221, Value.str (Str.ofString "loader") 222, Value.str (Str.ofString "loader_state") 223, Value.str (Str.ofString "name") 224, Value.str (Str.ofString "origin") 225, Value.str (Str.ofString "submodule_search_locations") 226] } : Obj)),
  (24, ({ cls := Value.type "getset_descriptor", data := Data.fields #[Value.str (Str.ofString "__dict__") 237, Value.ref 22, Value.builtin "function.__dict__", Value.builtin "function.__dict__#set"] } : Obj)),
  (25, ({ cls := Value.type "getset_descriptor", data := Data.fields #[Value.str (Str.ofString "__weakref__") 239, Value.ref 22, Value.builtin "ExceptionGroup.__weakref__", Value.none] } : Obj)),
  (26, ({ cls := Value.ref 22, dict := some 20 } : Obj)),
  (27, ({ cls := Value.none, data := Data.seq #[Value.int 11 0, Value.str { cps := #[6, 247, 8, 95, 95, 110, 97, 109, 101, 95, 95, 6, 246, 4, 95, 115, 114, 101, 6, 248, 7, 95, 95, 100, 111, 99, 95, 95, 0, 6, 250, 11, 95, 95, 112, 97, 99, 107, 97, 103, 101, 95, 95, 6, 249, 0, 6, 251, 10, 95, 95, 108, 111, 97, 100, 101, 114, 95, 95, 4, 0, 0, 14, 6, 252, 8, 95, 95, 115, 112, 101, 99, 95, 95, 4, 0, 0, 26, 6, 253, 7, 99, 111, 109, 112, 105, 108, 101, 9, 12, 95, 115, 114, 101, 46, 99, 111, 109, 112, 105, 108, 101, 6, 254, 8, 116, 101, 109, 112, 108, 97, 116, 101, 9, 13, 95, 115, 114, 101, 46, 116, 101, 109, 112, 108, 97, 116, 101, 6, 255, 11, 103, 101, 116, 99, 111, 100, 101, 115, 105, 122, 101, 9, 16, 95, 115, 114, 101, 46, 103, 101, 116, 99, 111, 100, 101, 115, 105, 122, 101, 6, 256, 13, 97, 115, 99, 105, 105, 95, 105, 115, 99, 97, 115, 101, 100, 9, 18, 95, 115, 114, 101, 46, 97, 115, 99, 105, 105, 95, 105, 115, 99, 97, 115, 101, 100, 6, 257, 15, 117, 110, 105, 99, 111, 100, 101, 95, 105, 115, 99, 97, 115, 101, 100, 9, 20, 95, 115, 114, 101, 46, 117, 110, 105, 99, 111, 100, 101, 95, 105, 115, 99, 97, 115, 101, 100, 6, 258, 13, 97, 115, 99, 105, 105, 95, 116, 111, 108, 111, 119, 101, 114, 9, 18, 95, 115, 114, 101, 46, 97, 115, 99, 105, 105, 95, 116, 111, 108, 111, 119, 101, 114, 6, 259, 15, 117, 110, 105, 99, 111, 100, 101, 95, 116, 111, 108, 111, 119, 101, 114, 9, 20, 95, 115, 114, 101, 46, 117, 110, 105, 99, 111, 100, 101, 95, 116, 111, 108, 111, 119, 101, 114, 6, 261, 5, 77, 65, 71, 73, 67, 4, 260, 0, 20230612, 6, 263, 8, 67, 79, 68, 69, 83, 73, 90, 69, 4, 262, 0, 4, 6, 265, 9, 77, 65, 88, 82, 69, 80, 69, 65, 84, 4, 264, 0, 4294967295, 6, 267, 9, 77, 65, 88, 71, 82, 79, 85, 80, 83, 4, 266, 0, 1073741823, 6, 269, 9, 99, 111, 112, 121, 114, 105, 103, 104, 116, 6, 268, 53, 32, 83, 82, 69, 32, 50, 46, 50, 46, 50, 32, 67, 111, 112, 121, 114, 105, 103, 104, 116, 32, 40, 99, 41, 32, 49, 57, 57, 55, 45, 50, 48, 48, 50, 32, 98, 121, 32, 83, 101, 99, 114, 101, 116, 32, 76, 97, 98, 115, 32, 65, 66, 32] } 0, Value.bool true, Value.bool false, Value.str (Str.ofString "_sre") 271] } : Obj)),
  (28, ({ cls := Value.type "tuple", data := Data.seq #[] } : Obj)),
  (29, ({ cls := Value.none, data := Data.fields #[Value.int 2 0, Value.int 0 0, Value.ref 37, Value.int 6 0, Value.int 0 0, Value.ref 44, Value.int 12 0, Value.int 0 0, Value.ref 51, Value.int 17 0, Value.int 0 0, Value.ref 70, Value.int 32 0, Value.int 0 0, Value.ref 103, Value.int 36 0, Value.int 0 0, Value.ref 110, Value.int 53 0, Value.int 0 0, Value.ref 117, Value.int 65 0, Value.int 0 0, Value.ref 124, Value.int 70 0, Value.int 0 0, Value.ref 131, Value.int 87 0, Value.int 0 0, Value.ref 138, Value.int 95 0, Value.int 0 0, Value.ref 145, Value.int 109 0, Value.int 0 0, Value.ref 152, Value.int 114 0, Value.int 0 0, Value.ref 159, Value.int 122 0, Value.int 0 0, Value.ref 166, Value.int 150 0, Value.int 0 0, Value.ref 183, Value.int 226 0, Value.int 0 0, Value.ref 308, Value.int 229 0, Value.int 0 0, Value.ref 315, Value.int 231 0, Value.int 0 0, Value.ref 320, Value.int 234 0, Value.int 0 0, Value.ref 327, Value.int 248 0, Value.int 0 0, Value.ref 334, Value.int 256 0, Value.int 0 0, Value.ref 341, Value.int 264 0, Value.int 0 0, Value.ref 346] } : Obj)),
  (30, ({ cls := Value.type "code", data := Data.fields #[Value.str (Str.ofString "<module>") 277, Value.str (Str.ofString "<module>") 278, Value.str (Str.ofString "/claim/cut.py") 279, Value.int 1 0, Value.int 0 0, Value.int 0 0, Value.int 0 0, Value.int 0 0, Value.ref 28, Value.bool false, Value.int 276 0, Value.ref 29, Value.none, Value.none, Value.none, Value.none, Value.int 280 0, Value.int 1 0, Value.str (Str.ofString "/claim/cut.py") 281] } : Obj)),
  (31, ({ cls := Value.type "frame", slots := #[some (Value.ref 30), some (Value.ref 3), some (Value.ref 3), none, some (Value.str (Str.ofString "__main__") 164), none, some (Value.ref 0)] } : Obj)),
  (47, ({ cls := Value.type "builtin_function_or_method", data := Data.fields #[Value.builtin "type.__prepare__", Value.type "type"] } : Obj)),
  (48, ({ cls := Value.type "dict", data := Data.dict #[{ hash := PyData.keyHash P (Str.ofString "__module__"), key := Value.str (Str.ofString "__module__") 309, val := Value.str (Str.ofString "abc") 300 }, { hash := PyData.keyHash P (Str.ofString "__qualname__"), key := Value.str (Str.ofString "__qualname__") 311, val := Value.str (Str.ofString "ABCMeta") 310 }, { hash := PyData.keyHash P (Str.ofString "__firstlineno__"), key := Value.str (Str.ofString "__firstlineno__") 313, val := Value.int 12 312 }, { hash := PyData.keyHash P (Str.ofString "register"), key := Value.str (Str.ofString "register") 321, val := Value.ref 59 }, { hash := PyData.keyHash P (Str.ofString "__static_attributes__"), key := Value.str (Str.ofString "__static_attributes__") 322, val := Value.ref 60 }] 5 } : Obj)),
  (49, ({ cls := Value.type "tuple", data := Data.seq #[] } : Obj)),
  (50, ({ cls := Value.none, data := Data.fields #[Value.int 14 0, Value.int 4 0, Value.ref 58] } : Obj)),
  (51, ({ cls := Value.type "code", data := Data.fields #[Value.str (Str.ofString "ABCMeta") 304, Value.str (Str.ofString "ABCMeta") 305, Value.str (Str.ofString "/claim/cut.py") 306, Value.int 12 0, Value.int 0 0, Value.int 0 0, Value.int 0 0, Value.int 0 0, Value.ref 49, Value.bool false, Value.int 276 0, Value.ref 50, Value.none, Value.none, Value.none, Value.none, Value.int 307 0, Value.int 12 0, Value.str (Str.ofString "/claim/cut.py") 308] } : Obj)),
  (52, ({ cls := Value.type "frame", slots := #[some (Value.ref 51), some (Value.ref 3), some (Value.ref 48), none, some (Value.str (Str.ofString "abc") 300), none, some (Value.ref 0)] } : Obj)),
  (63, ({ cls := Value.type "super", data := Data.fields #[Value.ref 62, Value.ref 62, Value.ref 62] } : Obj)),
  (64, ({ cls := Value.type "builtin_function_or_method", data := Data.fields #[Value.builtin "object.__init_subclass__", Value.ref 62] } : Obj)),
  (66, ({ cls := Value.type "builtin_function_or_method", data := Data.fields #[Value.builtin "type.__prepare__", Value.type "type"] } : Obj)),
  (67, ({ cls := Value.type "dict", data := Data.dict #[{ hash := PyData.keyHash P (Str.ofString "__module__"), key := Value.str (Str.ofString "__module__") 335, val := Value.str (Str.ofString "collections.abc") 326 }, { hash := PyData.keyHash P (Str.ofString "__qualname__"), key := Value.str (Str.ofString "__qualname__") 337, val := Value.str (Str.ofString "_ABCLike") 336 }, { hash := PyData.keyHash P (Str.ofString "__firstlineno__"), key := Value.str (Str.ofString "__firstlineno__") 339, val := Value.int 17 338 }, { hash := PyData.keyHash P (Str.ofString "__instancecheck__"), key := Value.str (Str.ofString "__instancecheck__") 348, val := Value.ref 78 }, { hash := PyData.keyHash P (Str.ofString "__subclasscheck__"), key := Value.str (Str.ofString "__subclasscheck__") 356, val := Value.ref 85 }, { hash := PyData.keyHash P (Str.ofString "register"), key := Value.str (Str.ofString "register") 364, val := Value.ref 92 }, { hash := PyData.keyHash P (Str.ofString "__static_attributes__"), key := Value.str (Str.ofString "__static_attributes__") 365, val := Value.ref 93 }] 7 } : Obj)),
  (68, ({ cls := Value.type "tuple", data := Data.seq #[] } : Obj)),
  (69, ({ cls := Value.none, data := Data.fields #[Value.int 19 0, Value.int 4 0, Value.ref 77, Value.int 25 0, Value.int 4 0, Value.ref 84, Value.int 30 0, Value.int 4 0, Value.ref 91] } : Obj)),
  (70, ({ cls := Value.type "code", data := Data.fields #[Value.str (Str.ofString "_ABCLike") 330, Value.str (Str.ofString "_ABCLike") 331, Value.str (Str.ofString "/claim/cut.py") 332, Value.int 17 0, Value.int 0 0, Value.int 0 0, Value.int 0 0, Value.int 0 0, Value.ref 68, Value.bool false, Value.int 276 0, Value.ref 69, Value.none, Value.none, Value.none, Value.none, Value.int 333 0, Value.int 17 0, Value.str (Str.ofString "/claim/cut.py") 334] } : Obj)),
  (71, ({ cls := Value.type "frame", slots := #[some (Value.ref 70), some (Value.ref 3), some (Value.ref 67), none, some (Value.str (Str.ofString "collections.abc") 326), none, some (Value.ref 0)] } : Obj)),
  (96, ({ cls := Value.type "super", data := Data.fields #[Value.ref 95, Value.ref 95, Value.ref 95] } : Obj)),
  (97, ({ cls := Value.type "builtin_function_or_method", data := Data.fields #[Value.builtin "object.__init_subclass__", Value.ref 95] } : Obj)),
  (168, ({ cls := Value.type "list", data := Data.seq #[Value.int 14 480, Value.int 10 481, Value.int 4 482, Value.int 1 483, Value.int 1 484, Value.int 22 485, Value.int 0 486, Value.int 31 487, Value.int 16 488, Value.int 127 489, Value.int 0 490, Value.int 13 491, Value.int 7 492, Value.int 22 493, Value.int 0 494, Value.int 31 495, Value.int 16 496, Value.int 127 497, Value.int 0 498, Value.int 1 499] } : Obj)),
  (169, ({ cls := Value.type "dict", data := Data.dict #[] } : Obj)),
  (170, ({ cls := Value.type "tuple", data := Data.seq #[Value.none] } : Obj)),
  (173, ({ cls := Value.type "list", data := Data.seq #[Value.int 14 506, Value.int 14 507, Value.int 4 508, Value.int 1 509, Value.int 1 510, Value.int 9 511, Value.int 4294966783 512, Value.int 0 513, Value.int 0 514, Value.int 2147483648 515, Value.int 0 516, Value.int 0 517, Value.int 0 518, Value.int 0 519, Value.int 0 520, Value.int 13 521, Value.int 11 522, Value.int 9 523, Value.int 4294966783 524, Value.int 0 525, Value.int 0 526, Value.int 2147483648 527, Value.int 0 528, Value.int 0 529, Value.int 0 530, Value.int 0 531, Value.int 0 532, Value.int 1 533] } : Obj)),
  (174, ({ cls := Value.type "dict", data := Data.dict #[] } : Obj)),
  (175, ({ cls := Value.type "tuple", data := Data.seq #[Value.none] } : Obj)),
  (178, ({ cls := Value.type "tuple", data := Data.seq #[] } : Obj)),
  (179, ({ cls := Value.type "builtin_function_or_method", data := Data.fields #[Value.builtin "type.__prepare__", Value.type "type"] } : Obj)),
  (180, ({ cls := Value.type "dict", data := Data.dict #[{ hash := PyData.keyHash P (Str.ofString "__module__"), key := Value.str (Str.ofString "__module__") 544, val := Value.str (Str.ofString "cpy313.wsgiref.headers") 475 }, { hash := PyData.keyHash P (Str.ofString "__qualname__"), key := Value.str (Str.ofString "__qualname__") 546, val := Value.str (Str.ofString "Headers") 545 }, { hash := PyData.keyHash P (Str.ofString "__firstlineno__"), key := Value.str (Str.ofString "__firstlineno__") 548, val := Value.int 150 547 }, { hash := PyData.keyHash P (Str.ofString "__init__"), key := Value.str (Str.ofString "__init__") 558, val := Value.ref 192 }, { hash := PyData.keyHash P (Str.ofString "_convert_string_type"), key := Value.str (Str.ofString "_convert_string_type") 568, val := Value.ref 199 }, { hash := PyData.keyHash P (Str.ofString "__len__"), key := Value.str (Str.ofString "__len__") 575, val := Value.ref 206 }, { hash := PyData.keyHash P (Str.ofString "__setitem__"), key := Value.str (Str.ofString "__setitem__") 584, val := Value.ref 213 }, { hash := PyData.keyHash P (Str.ofString "__delitem__"), key := Value.str (Str.ofString "__delitem__") 590, val := Value.ref 218 }, { hash := PyData.keyHash P (Str.ofString "__getitem__"), key := Value.str (Str.ofString "__getitem__") 598, val := Value.ref 225 }, { hash := PyData.keyHash P (Str.ofString "__contains__"), key := Value.str (Str.ofString "__contains__") 606, val := Value.ref 232 }, { hash := PyData.keyHash P (Str.ofString "get_all"), key := Value.str (Str.ofString "get_all") 614, val := Value.ref 239 }, { hash := PyData.keyHash P (Str.ofString "get"), key := Value.str (Str.ofString "get") 625, val := Value.ref 247 }, { hash := PyData.keyHash P (Str.ofString "keys"), key := Value.str (Str.ofString "keys") 631, val := Value.ref 252 }, { hash := PyData.keyHash P (Str.ofString "values"), key := Value.str (Str.ofString "values") 637, val := Value.ref 257 }, { hash := PyData.keyHash P (Str.ofString "items"), key := Value.str (Str.ofString "items") 644, val := Value.ref 264 }, { hash := PyData.keyHash P (Str.ofString "__repr__"), key := Value.str (Str.ofString "__repr__") 651, val := Value.ref 271 }, { hash := PyData.keyHash P (Str.ofString "__str__"), key := Value.str (Str.ofString "__str__") 657, val := Value.ref 276 }, { hash := PyData.keyHash P (Str.ofString "__bytes__"), key := Value.str (Str.ofString "__bytes__") 664, val := Value.ref 283 }, { hash := PyData.keyHash P (Str.ofString "setdefault"), key := Value.str (Str.ofString "setdefault") 674, val := Value.ref 290 }, { hash := PyData.keyHash P (Str.ofString "add_header"), key := Value.str (Str.ofString "add_header") 684, val := Value.ref 297 }, { hash := PyData.keyHash P (Str.ofString "__static_attributes__"), key := Value.str (Str.ofString "__static_attributes__") 686, val := Value.ref 298 }] 21 } : Obj)),
  (181, ({ cls := Value.type "tuple", data := Data.seq #[] } : Obj)),
  (182, ({ cls := Value.none, data := Data.fields #[Value.int 152 0, Value.int 4 0, Value.ref 191, Value.int 162 0, Value.int 4 0, Value.ref 198, Value.int 170 0, Value.int 4 0, Value.ref 205, Value.int 173 0, Value.int 4 0, Value.ref 212, Value.int 177 0, Value.int 4 0, Value.ref 217, Value.int 181 0, Value.int 4 0, Value.ref 224, Value.int 184 0, Value.int 4 0, Value.ref 231, Value.int 187 0, Value.int 4 0, Value.ref 238, Value.int 190 0, Value.int 4 0, Value.ref 246, Value.int 197 0, Value.int 4 0, Value.ref 251, Value.int 200 0, Value.int 4 0, Value.ref 256, Value.int 203 0, Value.int 4 0, Value.ref 263, Value.int 206 0, Value.int 4 0, Value.ref 270, Value.int 209 0, Value.int 4 0, Value.ref 275, Value.int 212 0, Value.int 4 0, Value.ref 282, Value.int 215 0, Value.int 4 0, Value.ref 289, Value.int 223 0, Value.int 4 0, Value.ref 296] } : Obj)),
  (183, ({ cls := Value.type "code", data := Data.fields #[Value.str (Str.ofString "Headers") 539, Value.str (Str.ofString "Headers") 540, Value.str (Str.ofString "/claim/cut.py") 541, Value.int 150 0, Value.int 0 0, Value.int 0 0, Value.int 0 0, Value.int 0 0, Value.ref 181, Value.bool false, Value.int 276 0, Value.ref 182, Value.none, Value.none, Value.none, Value.none, Value.int 542 0, Value.int 150 0, Value.str (Str.ofString "/claim/cut.py") 543] } : Obj)),
  (184, ({ cls := Value.type "frame", slots := #[some (Value.ref 183), some (Value.ref 3), some (Value.ref 180), none, some (Value.str (Str.ofString "cpy313.wsgiref.headers") 475), none, some (Value.ref 0)] } : Obj)),
  (303, ({ cls := Value.type "super", data := Data.fields #[Value.ref 300, Value.ref 300, Value.ref 300] } : Obj)),
  (304, ({ cls := Value.type "builtin_function_or_method", data := Data.fields #[Value.builtin "object.__init_subclass__", Value.ref 300] } : Obj))]
noncomputable def three (P : Params) : Obj := { cls := Value.type "dict", data := Data.dict #[{ hash := PyData.keyHash P (Str.ofString "__name__"), key := Value.str (Str.ofString "__name__") 165, val := Value.str (Str.ofString "__main__") 164 }, { hash := PyData.keyHash P (Str.ofString "__doc__"), key := Value.str (Str.ofString "__doc__") 166, val := Value.none }, { hash := PyData.keyHash P (Str.ofString "__package__"), key := Value.str (Str.ofString "__package__") 167, val := Value.none }, { hash := PyData.keyHash P (Str.ofString "__loader__"), key := Value.str (Str.ofString "__loader__") 168, val := Value.builtin "__main__.__loader__#op\x61que" }, { hash := PyData.keyHash P (Str.ofString "__spec__"), key := Value.str (Str.ofString "__spec__") 169, val := Value.none }, { hash := PyData.keyHash P (Str.ofString "__annotations__"), key := Value.str (Str.ofString "__annotations__") 170, val := Value.ref 6 }, { hash := PyData.keyHash P (Str.ofString "__builtins__"), key := Value.str (Str.ofString "__builtins__") 171, val := Value.ref 4 }, { hash := PyData.keyHash P (Str.ofString "__file__"), key := Value.str (Str.ofString "__file__") 173, val := Value.str (Str.ofString "/claim/cut.py") 172 }, { hash := PyData.keyHash P (Str.ofString "__cached__"), key := Value.str (Str.ofString "__cached__") 174, val := Value.none }, { hash := PyData.keyHash P (Str.ofString "_sre"), key := Value.str (Str.ofString "_sre") 275, val := Value.ref 12 }] 10 }
def weave : Nat → Frag → Frag → List Obj
  | 0, _, _ => []
  | n + 1, K, E => match K, E with
    | [], [] => []
    | [], e :: E => e.2 :: weave n [] E
    | k :: K, [] => k.2 :: weave n K []
    | k :: K, e :: E => match Nat.ble k.1 e.1 with
      | true => k.2 :: weave n K (e :: E)
      | false => e.2 :: weave n (k :: K) E
def puts (a : Nat) (o : Obj) : Frag → Frag
  | [] => []
  | p :: K => match Nat.beq p.1 a with
    | true => (a, o) :: K
    | false => p :: puts a o K
noncomputable def H1 (P : Params) : Heap := { objs := (weave 400 (fr.heap_1 P) (extras P)).toArray, life := {} }
noncomputable def H0 (P : Params) : Heap := { objs := (weave 28 (puts 3 (three P) (fr.heap_1 P)) (extras P)).toArray, life := {} }
noncomputable abbrev Xt0 : Shared → Bool := fun s => xlAt q [] s && recOk (RowW.records PySem.Challenge.rw_pd0177_01.row.toRowW) s
theorem open0 : ∀ w : World, (fencedOpening treeTable pE w 4228).map (fun s => (s.heap, s.gens, s.drawn, s.toks)) = some (H0 w.params, #[], {}, 276) := fun w => by kernel_rfl
theorem size0 : ∀ w : World, ((H0 w.params).isNs mainGlobals && (#[] : Array GenState).size == 0, (H0 w.params).objs.size, (H0 w.params).nsMap mainGlobals "__annotations__") = (true, 28, some (Value.ref 6)) := fun w => by kernel_rfl
noncomputable def a3at0 (P : Params) : Obj := { cls := Value.type "dict", data := Data.dict #[{ hash := PyData.keyHash P (Str.ofString "__name__"), key := Value.str (Str.ofString "__name__") 165, val := Value.str (Str.ofString "__main__") 164 }, { hash := PyData.keyHash P (Str.ofString "__doc__"), key := Value.str (Str.ofString "__doc__") 166, val := Value.none }, { hash := PyData.keyHash P (Str.ofString "__package__"), key := Value.str (Str.ofString "__package__") 167, val := Value.none }, { hash := PyData.keyHash P (Str.ofString "__loader__"), key := Value.str (Str.ofString "__loader__") 168, val := Value.builtin "__main__.__loader__#op\x61que" }, { hash := PyData.keyHash P (Str.ofString "__spec__"), key := Value.str (Str.ofString "__spec__") 169, val := Value.none }, { hash := PyData.keyHash P (Str.ofString "__annotations__"), key := Value.str (Str.ofString "__annotations__") 170, val := Value.ref 6 }, { hash := PyData.keyHash P (Str.ofString "__builtins__"), key := Value.str (Str.ofString "__builtins__") 171, val := Value.ref 4 }, { hash := PyData.keyHash P (Str.ofString "__file__"), key := Value.str (Str.ofString "__file__") 173, val := Value.str (Str.ofString "/claim/cut.py") 172 }, { hash := PyData.keyHash P (Str.ofString "__cached__"), key := Value.str (Str.ofString "__cached__") 174, val := Value.none }, { hash := PyData.keyHash P (Str.ofString "_sre"), key := Value.str (Str.ofString "_sre") 275, val := Value.ref 12 }] 10 }
noncomputable def a29at0 (P : Params) : Obj := { cls := Value.none, data := Data.fields #[] }
noncomputable def HP0 (P : Params) : Heap := { objs := (weave 32 (puts 3 (a3at0 P) (fr.heap_1 P)) (puts 29 (a29at0 P) (extras P))).toArray, life := {} }
noncomputable def a3at1 (P : Params) : Obj := { cls := Value.type "dict", data := Data.dict #[{ hash := PyData.keyHash P (Str.ofString "__name__"), key := Value.str (Str.ofString "__name__") 165, val := Value.str (Str.ofString "collections.abc") 326 }, { hash := PyData.keyHash P (Str.ofString "__doc__"), key := Value.str (Str.ofString "__doc__") 166, val := Value.none }, { hash := PyData.keyHash P (Str.ofString "__package__"), key := Value.str (Str.ofString "__package__") 167, val := Value.none }, { hash := PyData.keyHash P (Str.ofString "__loader__"), key := Value.str (Str.ofString "__loader__") 168, val := Value.builtin "__main__.__loader__#op\x61que" }, { hash := PyData.keyHash P (Str.ofString "__spec__"), key := Value.str (Str.ofString "__spec__") 169, val := Value.none }, { hash := PyData.keyHash P (Str.ofString "__annotations__"), key := Value.str (Str.ofString "__annotations__") 170, val := Value.ref 6 }, { hash := PyData.keyHash P (Str.ofString "__builtins__"), key := Value.str (Str.ofString "__builtins__") 171, val := Value.ref 4 }, { hash := PyData.keyHash P (Str.ofString "__file__"), key := Value.str (Str.ofString "__file__") 173, val := Value.str (Str.ofString "/claim/cut.py") 172 }, { hash := PyData.keyHash P (Str.ofString "__cached__"), key := Value.str (Str.ofString "__cached__") 174, val := Value.none }, { hash := PyData.keyHash P (Str.ofString "_sre"), key := Value.str (Str.ofString "_sre") 275, val := Value.ref 12 }, { hash := PyData.keyHash P (Str.ofString "_wall"), key := Value.str (Str.ofString "_wall") 288, val := Value.ref 38 }, { hash := PyData.keyHash P (Str.ofString "_plain_name"), key := Value.str (Str.ofString "_plain_name") 299, val := Value.ref 45 }, { hash := PyData.keyHash P (Str.ofString "ABCMeta"), key := Value.str (Str.ofString "ABCMeta") 325, val := Value.ref 62 }] 13 }
noncomputable def a29at1 (P : Params) : Obj := { cls := Value.none, data := Data.fields #[Value.int 2 0, Value.int 0 0, Value.ref 37, Value.int 6 0, Value.int 0 0, Value.ref 44, Value.int 12 0, Value.int 0 0, Value.ref 51] }
noncomputable def a62at1 (P : Params) : Obj := { cls := Value.type "type", data := Data.cls { name := Str.ofString "ABCMeta", bases := [Value.type "type"], mro := [Value.ref 62, Value.type "type", Value.type "object"], ns := 61, qualname := Str.ofString "ABCMeta" }, slots := #[some (Value.ref 46), none, some (Value.str (Str.ofString "ABCMeta") 302), some (Value.str (Str.ofString "ABCMeta") 310), some (Value.builtin "type.__new__"), some (Value.bool true)] }
noncomputable def HP1 (P : Params) : Heap := { objs := (weave 65 (puts 62 (a62at1 P) (puts 3 (a3at1 P) (fr.heap_1 P))) (puts 29 (a29at1 P) (extras P))).toArray, life := {} }
noncomputable def a3at2 (P : Params) : Obj := { cls := Value.type "dict", data := Data.dict #[{ hash := PyData.keyHash P (Str.ofString "__name__"), key := Value.str (Str.ofString "__name__") 165, val := Value.str (Str.ofString "cpy313.genericpath") 388 }, { hash := PyData.keyHash P (Str.ofString "__doc__"), key := Value.str (Str.ofString "__doc__") 166, val := Value.none }, { hash := PyData.keyHash P (Str.ofString "__package__"), key := Value.str (Str.ofString "__package__") 167, val := Value.none }, { hash := PyData.keyHash P (Str.ofString "__loader__"), key := Value.str (Str.ofString "__loader__") 168, val := Value.builtin "__main__.__loader__#op\x61que" }, { hash := PyData.keyHash P (Str.ofString "__spec__"), key := Value.str (Str.ofString "__spec__") 169, val := Value.none }, { hash := PyData.keyHash P (Str.ofString "__annotations__"), key := Value.str (Str.ofString "__annotations__") 170, val := Value.ref 6 }, { hash := PyData.keyHash P (Str.ofString "__builtins__"), key := Value.str (Str.ofString "__builtins__") 171, val := Value.ref 4 }, { hash := PyData.keyHash P (Str.ofString "__file__"), key := Value.str (Str.ofString "__file__") 173, val := Value.str (Str.ofString "/claim/cut.py") 172 }, { hash := PyData.keyHash P (Str.ofString "__cached__"), key := Value.str (Str.ofString "__cached__") 174, val := Value.none }, { hash := PyData.keyHash P (Str.ofString "_sre"), key := Value.str (Str.ofString "_sre") 275, val := Value.ref 12 }, { hash := PyData.keyHash P (Str.ofString "_wall"), key := Value.str (Str.ofString "_wall") 288, val := Value.ref 38 }, { hash := PyData.keyHash P (Str.ofString "_plain_name"), key := Value.str (Str.ofString "_plain_name") 299, val := Value.ref 45 }, { hash := PyData.keyHash P (Str.ofString "ABCMeta"), key := Value.str (Str.ofString "ABCMeta") 325, val := Value.ref 62 }, { hash := PyData.keyHash P (Str.ofString "_ABCLike"), key := Value.str (Str.ofString "_ABCLike") 368, val := Value.ref 95 }, { hash := PyData.keyHash P (Str.ofString "_abc_plain_meta"), key := Value.str (Str.ofString "_abc_plain_meta") 375, val := Value.ref 104 }, { hash := PyData.keyHash P (Str.ofString "fspath"), key := Value.str (Str.ofString "fspath") 387, val := Value.ref 111 }] 16 }
noncomputable def a29at2 (P : Params) : Obj := { cls := Value.none, data := Data.fields #[Value.int 2 0, Value.int 0 0, Value.ref 37, Value.int 6 0, Value.int 0 0, Value.ref 44, Value.int 12 0, Value.int 0 0, Value.ref 51, Value.int 17 0, Value.int 0 0, Value.ref 70, Value.int 32 0, Value.int 0 0, Value.ref 103, Value.int 36 0, Value.int 0 0, Value.ref 110] }
noncomputable def HP2 (P : Params) : Heap := { objs := (weave 112 (puts 3 (a3at2 P) (fr.heap_1 P)) (puts 29 (a29at2 P) (extras P))).toArray, life := {} }
noncomputable def a3at3 (P : Params) : Obj := { cls := Value.type "dict", data := Data.dict #[{ hash := PyData.keyHash P (Str.ofString "__name__"), key := Value.str (Str.ofString "__name__") 165, val := Value.str (Str.ofString "cpy313.wsgiref.headers") 475 }, { hash := PyData.keyHash P (Str.ofString "__doc__"), key := Value.str (Str.ofString "__doc__") 166, val := Value.none }, { hash := PyData.keyHash P (Str.ofString "__package__"), key := Value.str (Str.ofString "__package__") 167, val := Value.none }, { hash := PyData.keyHash P (Str.ofString "__loader__"), key := Value.str (Str.ofString "__loader__") 168, val := Value.builtin "__main__.__loader__#op\x61que" }, { hash := PyData.keyHash P (Str.ofString "__spec__"), key := Value.str (Str.ofString "__spec__") 169, val := Value.none }, { hash := PyData.keyHash P (Str.ofString "__annotations__"), key := Value.str (Str.ofString "__annotations__") 170, val := Value.ref 6 }, { hash := PyData.keyHash P (Str.ofString "__builtins__"), key := Value.str (Str.ofString "__builtins__") 171, val := Value.ref 4 }, { hash := PyData.keyHash P (Str.ofString "__file__"), key := Value.str (Str.ofString "__file__") 173, val := Value.str (Str.ofString "/claim/cut.py") 172 }, { hash := PyData.keyHash P (Str.ofString "__cached__"), key := Value.str (Str.ofString "__cached__") 174, val := Value.none }, { hash := PyData.keyHash P (Str.ofString "_sre"), key := Value.str (Str.ofString "_sre") 275, val := Value.ref 12 }, { hash := PyData.keyHash P (Str.ofString "_wall"), key := Value.str (Str.ofString "_wall") 288, val := Value.ref 38 }, { hash := PyData.keyHash P (Str.ofString "_plain_name"), key := Value.str (Str.ofString "_plain_name") 299, val := Value.ref 45 }, { hash := PyData.keyHash P (Str.ofString "ABCMeta"), key := Value.str (Str.ofString "ABCMeta") 325, val := Value.ref 62 }, { hash := PyData.keyHash P (Str.ofString "_ABCLike"), key := Value.str (Str.ofString "_ABCLike") 368, val := Value.ref 95 }, { hash := PyData.keyHash P (Str.ofString "_abc_plain_meta"), key := Value.str (Str.ofString "_abc_plain_meta") 375, val := Value.ref 104 }, { hash := PyData.keyHash P (Str.ofString "fspath"), key := Value.str (Str.ofString "fspath") 387, val := Value.ref 111 }, { hash := PyData.keyHash P (Str.ofString "_check_arg_types"), key := Value.str (Str.ofString "_check_arg_types") 400, val := Value.ref 118 }, { hash := PyData.keyHash P (Str.ofString "_get_sep"), key := Value.str (Str.ofString "_get_sep") 409, val := Value.ref 125 }, { hash := PyData.keyHash P (Str.ofString "join"), key := Value.str (Str.ofString "join") 420, val := Value.ref 132 }, { hash := PyData.keyHash P (Str.ofString "split"), key := Value.str (Str.ofString "split") 431, val := Value.ref 139 }, { hash := PyData.keyHash P (Str.ofString "splitroot"), key := Value.str (Str.ofString "splitroot") 440, val := Value.ref 146 }, { hash := PyData.keyHash P (Str.ofString "basename"), key := Value.str (Str.ofString "basename") 449, val := Value.ref 153 }, { hash := PyData.keyHash P (Str.ofString "dirname"), key := Value.str (Str.ofString "dirname") 459, val := Value.ref 160 }, { hash := PyData.keyHash P (Str.ofString "normpath"), key := Value.str (Str.ofString "normpath") 474, val := Value.ref 167 }, { hash := PyData.keyHash P (Str.ofString "_name_disallowed_re"), key := Value.str (Str.ofString "_name_disallowed_re") 502, val := Value.ref 172 }] 25 }
noncomputable def a29at3 (P : Params) : Obj := { cls := Value.none, data := Data.fields #[Value.int 2 0, Value.int 0 0, Value.ref 37, Value.int 6 0, Value.int 0 0, Value.ref 44, Value.int 12 0, Value.int 0 0, Value.ref 51, Value.int 17 0, Value.int 0 0, Value.ref 70, Value.int 32 0, Value.int 0 0, Value.ref 103, Value.int 36 0, Value.int 0 0, Value.ref 110, Value.int 53 0, Value.int 0 0, Value.ref 117, Value.int 65 0, Value.int 0 0, Value.ref 124, Value.int 70 0, Value.int 0 0, Value.ref 131, Value.int 87 0, Value.int 0 0, Value.ref 138, Value.int 95 0, Value.int 0 0, Value.ref 145, Value.int 109 0, Value.int 0 0, Value.ref 152, Value.int 114 0, Value.int 0 0, Value.ref 159, Value.int 122 0, Value.int 0 0, Value.ref 166] }
noncomputable def HP3 (P : Params) : Heap := { objs := (weave 173 (puts 3 (a3at3 P) (fr.heap_1 P)) (puts 29 (a29at3 P) (extras P))).toArray, life := {} }
noncomputable def a3at4 (P : Params) : Obj := { cls := Value.type "dict", data := Data.dict #[{ hash := PyData.keyHash P (Str.ofString "__name__"), key := Value.str (Str.ofString "__name__") 165, val := Value.str (Str.ofString "cpy313.wsgiref.headers") 475 }, { hash := PyData.keyHash P (Str.ofString "__doc__"), key := Value.str (Str.ofString "__doc__") 166, val := Value.none }, { hash := PyData.keyHash P (Str.ofString "__package__"), key := Value.str (Str.ofString "__package__") 167, val := Value.none }, { hash := PyData.keyHash P (Str.ofString "__loader__"), key := Value.str (Str.ofString "__loader__") 168, val := Value.builtin "__main__.__loader__#op\x61que" }, { hash := PyData.keyHash P (Str.ofString "__spec__"), key := Value.str (Str.ofString "__spec__") 169, val := Value.none }, { hash := PyData.keyHash P (Str.ofString "__annotations__"), key := Value.str (Str.ofString "__annotations__") 170, val := Value.ref 6 }, { hash := PyData.keyHash P (Str.ofString "__builtins__"), key := Value.str (Str.ofString "__builtins__") 171, val := Value.ref 4 }, { hash := PyData.keyHash P (Str.ofString "__file__"), key := Value.str (Str.ofString "__file__") 173, val := Value.str (Str.ofString "/claim/cut.py") 172 }, { hash := PyData.keyHash P (Str.ofString "__cached__"), key := Value.str (Str.ofString "__cached__") 174, val := Value.none }, { hash := PyData.keyHash P (Str.ofString "_sre"), key := Value.str (Str.ofString "_sre") 275, val := Value.ref 12 }, { hash := PyData.keyHash P (Str.ofString "_wall"), key := Value.str (Str.ofString "_wall") 288, val := Value.ref 38 }, { hash := PyData.keyHash P (Str.ofString "_plain_name"), key := Value.str (Str.ofString "_plain_name") 299, val := Value.ref 45 }, { hash := PyData.keyHash P (Str.ofString "ABCMeta"), key := Value.str (Str.ofString "ABCMeta") 325, val := Value.ref 62 }, { hash := PyData.keyHash P (Str.ofString "_ABCLike"), key := Value.str (Str.ofString "_ABCLike") 368, val := Value.ref 95 }, { hash := PyData.keyHash P (Str.ofString "_abc_plain_meta"), key := Value.str (Str.ofString "_abc_plain_meta") 375, val := Value.ref 104 }, { hash := PyData.keyHash P (Str.ofString "fspath"), key := Value.str (Str.ofString "fspath") 387, val := Value.ref 111 }, { hash := PyData.keyHash P (Str.ofString "_check_arg_types"), key := Value.str (Str.ofString "_check_arg_types") 400, val := Value.ref 118 }, { hash := PyData.keyHash P (Str.ofString "_get_sep"), key := Value.str (Str.ofString "_get_sep") 409, val := Value.ref 125 }, { hash := PyData.keyHash P (Str.ofString "join"), key := Value.str (Str.ofString "join") 420, val := Value.ref 132 }, { hash := PyData.keyHash P (Str.ofString "split"), key := Value.str (Str.ofString "split") 431, val := Value.ref 139 }, { hash := PyData.keyHash P (Str.ofString "splitroot"), key := Value.str (Str.ofString "splitroot") 440, val := Value.ref 146 }, { hash := PyData.keyHash P (Str.ofString "basename"), key := Value.str (Str.ofString "basename") 449, val := Value.ref 153 }, { hash := PyData.keyHash P (Str.ofString "dirname"), key := Value.str (Str.ofString "dirname") 459, val := Value.ref 160 }, { hash := PyData.keyHash P (Str.ofString "normpath"), key := Value.str (Str.ofString "normpath") 474, val := Value.ref 167 }, { hash := PyData.keyHash P (Str.ofString "_name_disallowed_re"), key := Value.str (Str.ofString "_name_disallowed_re") 502, val := Value.ref 172 }, { hash := PyData.keyHash P (Str.ofString "_value_disallowed_re"), key := Value.str (Str.ofString "_value_disallowed_re") 536, val := Value.ref 177 }] 26 }
noncomputable def a29at4 (P : Params) : Obj := { cls := Value.none, data := Data.fields #[Value.int 2 0, Value.int 0 0, Value.ref 37, Value.int 6 0, Value.int 0 0, Value.ref 44, Value.int 12 0, Value.int 0 0, Value.ref 51, Value.int 17 0, Value.int 0 0, Value.ref 70, Value.int 32 0, Value.int 0 0, Value.ref 103, Value.int 36 0, Value.int 0 0, Value.ref 110, Value.int 53 0, Value.int 0 0, Value.ref 117, Value.int 65 0, Value.int 0 0, Value.ref 124, Value.int 70 0, Value.int 0 0, Value.ref 131, Value.int 87 0, Value.int 0 0, Value.ref 138, Value.int 95 0, Value.int 0 0, Value.ref 145, Value.int 109 0, Value.int 0 0, Value.ref 152, Value.int 114 0, Value.int 0 0, Value.ref 159, Value.int 122 0, Value.int 0 0, Value.ref 166] }
noncomputable def HP4 (P : Params) : Heap := { objs := (weave 178 (puts 3 (a3at4 P) (fr.heap_1 P)) (puts 29 (a29at4 P) (extras P))).toArray, life := {} }
noncomputable def a3at5 (P : Params) : Obj := { cls := Value.type "dict", data := Data.dict #[{ hash := PyData.keyHash P (Str.ofString "__name__"), key := Value.str (Str.ofString "__name__") 165, val := Value.str (Str.ofString "cpy313.wsgiref.headers") 475 }, { hash := PyData.keyHash P (Str.ofString "__doc__"), key := Value.str (Str.ofString "__doc__") 166, val := Value.none }, { hash := PyData.keyHash P (Str.ofString "__package__"), key := Value.str (Str.ofString "__package__") 167, val := Value.none }, { hash := PyData.keyHash P (Str.ofString "__loader__"), key := Value.str (Str.ofString "__loader__") 168, val := Value.builtin "__main__.__loader__#op\x61que" }, { hash := PyData.keyHash P (Str.ofString "__spec__"), key := Value.str (Str.ofString "__spec__") 169, val := Value.none }, { hash := PyData.keyHash P (Str.ofString "__annotations__"), key := Value.str (Str.ofString "__annotations__") 170, val := Value.ref 6 }, { hash := PyData.keyHash P (Str.ofString "__builtins__"), key := Value.str (Str.ofString "__builtins__") 171, val := Value.ref 4 }, { hash := PyData.keyHash P (Str.ofString "__file__"), key := Value.str (Str.ofString "__file__") 173, val := Value.str (Str.ofString "/claim/cut.py") 172 }, { hash := PyData.keyHash P (Str.ofString "__cached__"), key := Value.str (Str.ofString "__cached__") 174, val := Value.none }, { hash := PyData.keyHash P (Str.ofString "_sre"), key := Value.str (Str.ofString "_sre") 275, val := Value.ref 12 }, { hash := PyData.keyHash P (Str.ofString "_wall"), key := Value.str (Str.ofString "_wall") 288, val := Value.ref 38 }, { hash := PyData.keyHash P (Str.ofString "_plain_name"), key := Value.str (Str.ofString "_plain_name") 299, val := Value.ref 45 }, { hash := PyData.keyHash P (Str.ofString "ABCMeta"), key := Value.str (Str.ofString "ABCMeta") 325, val := Value.ref 62 }, { hash := PyData.keyHash P (Str.ofString "_ABCLike"), key := Value.str (Str.ofString "_ABCLike") 368, val := Value.ref 95 }, { hash := PyData.keyHash P (Str.ofString "_abc_plain_meta"), key := Value.str (Str.ofString "_abc_plain_meta") 375, val := Value.ref 104 }, { hash := PyData.keyHash P (Str.ofString "fspath"), key := Value.str (Str.ofString "fspath") 387, val := Value.ref 111 }, { hash := PyData.keyHash P (Str.ofString "_check_arg_types"), key := Value.str (Str.ofString "_check_arg_types") 400, val := Value.ref 118 }, { hash := PyData.keyHash P (Str.ofString "_get_sep"), key := Value.str (Str.ofString "_get_sep") 409, val := Value.ref 125 }, { hash := PyData.keyHash P (Str.ofString "join"), key := Value.str (Str.ofString "join") 420, val := Value.ref 132 }, { hash := PyData.keyHash P (Str.ofString "split"), key := Value.str (Str.ofString "split") 431, val := Value.ref 139 }, { hash := PyData.keyHash P (Str.ofString "splitroot"), key := Value.str (Str.ofString "splitroot") 440, val := Value.ref 146 }, { hash := PyData.keyHash P (Str.ofString "basename"), key := Value.str (Str.ofString "basename") 449, val := Value.ref 153 }, { hash := PyData.keyHash P (Str.ofString "dirname"), key := Value.str (Str.ofString "dirname") 459, val := Value.ref 160 }, { hash := PyData.keyHash P (Str.ofString "normpath"), key := Value.str (Str.ofString "normpath") 474, val := Value.ref 167 }, { hash := PyData.keyHash P (Str.ofString "_name_disallowed_re"), key := Value.str (Str.ofString "_name_disallowed_re") 502, val := Value.ref 172 }, { hash := PyData.keyHash P (Str.ofString "_value_disallowed_re"), key := Value.str (Str.ofString "_value_disallowed_re") 536, val := Value.ref 177 }, { hash := PyData.keyHash P (Str.ofString "Headers"), key := Value.str (Str.ofString "Headers") 693, val := Value.ref 300 }] 27 }
noncomputable def a29at5 (P : Params) : Obj := { cls := Value.none, data := Data.fields #[Value.int 2 0, Value.int 0 0, Value.ref 37, Value.int 6 0, Value.int 0 0, Value.ref 44, Value.int 12 0, Value.int 0 0, Value.ref 51, Value.int 17 0, Value.int 0 0, Value.ref 70, Value.int 32 0, Value.int 0 0, Value.ref 103, Value.int 36 0, Value.int 0 0, Value.ref 110, Value.int 53 0, Value.int 0 0, Value.ref 117, Value.int 65 0, Value.int 0 0, Value.ref 124, Value.int 70 0, Value.int 0 0, Value.ref 131, Value.int 87 0, Value.int 0 0, Value.ref 138, Value.int 95 0, Value.int 0 0, Value.ref 145, Value.int 109 0, Value.int 0 0, Value.ref 152, Value.int 114 0, Value.int 0 0, Value.ref 159, Value.int 122 0, Value.int 0 0, Value.ref 166, Value.int 150 0, Value.int 0 0, Value.ref 183] }
noncomputable def HP5 (P : Params) : Heap := { objs := (weave 305 (puts 3 (a3at5 P) (fr.heap_1 P)) (puts 29 (a29at5 P) (extras P))).toArray, life := {} }
/-- the statements behind the imports, in six parts -/
noncomputable def bE : List Stmt := behindTheImports pE
noncomputable def env0 : Env := { scope := pE.main.scope, locals := mainNs, globals := mainNs, cells := [], code := .ref 30, frame := some 31 }
noncomputable def cE : Code := .body bE env0
abbrev q0 : Pos := ⟨0, 0, 0, 0⟩
abbrev ann0 : Option Value := some (.ref 6)
noncomputable def st1 : List Stmt := (bE.drop 0).take 6
noncomputable def st2 : List Stmt := (bE.drop 6).take 5
noncomputable def st3 : List Stmt := (bE.drop 11).take 11
noncomputable def st4 : List Stmt := (bE.drop 22).take 1
noncomputable def st5 : List Stmt := (bE.drop 23).take 1
noncomputable def st6 : List Stmt := (bE.drop 24).take 8
noncomputable abbrev S0at (w : World) (os : OsState) : Shared := ⟨HP0 w.params, #[], {}, 282, os⟩
noncomputable abbrev S1at (w : World) (os : OsState) : Shared := ⟨HP1 w.params, #[], {}, 328, os⟩
noncomputable abbrev S2at (w : World) (os : OsState) : Shared := ⟨HP2 w.params, #[], {}, 390, os⟩
noncomputable abbrev S3at (w : World) (os : OsState) : Shared := ⟨HP3 w.params, #[], {}, 503, os⟩
noncomputable abbrev S4at (w : World) (os : OsState) : Shared := ⟨HP4 w.params, #[], {}, 537, os⟩
noncomputable abbrev S5at (w : World) (os : OsState) : Shared := ⟨HP5 w.params, #[], {}, 694, os⟩
noncomputable abbrev S6at (w : World) (os : OsState) : Shared := ⟨H1 w.params, #[], {}, 755, os⟩
theorem split0 : bE = st1 ++ (st2 ++ (st3 ++ (st4 ++ (st5 ++ (st6 ++ []))))) := by kernel_rfl
theorem pre0 (w : World) : (fun os : OsState => topGo treeTable pE w 28 ann0 12 ⟨H0 w.params, #[], {}, 276, os⟩ (topStub pE)) = fun os => some (S0at w os, ⟨denote treeTable (.body bE env0), cE, q0, [topFrame q0]⟩) := by kernel_rfl
theorem blk0 (w : World) : (fun os : OsState => segRun treeTable pE w 28 ann0 1 1 (S0at w os) (blockOf bE env0 cE q0 [topFrame q0])) = fun os => some (.next, S0at w os, cE, q0) := by kernel_rfl
theorem part1 (w : World) : (fun os : OsState => segRun treeTable pE w 28 ann0 1 297 (S0at w os) (piecesOf st1 env0 cE ⟨0, 0, 0, 0⟩ [topFrame q0])) = fun os => some (.next, S1at w os, cE, ⟨16, 0, 16, 8⟩) := by kernel_rfl
theorem part2 (w : World) : (fun os : OsState => segRun treeTable pE w 28 ann0 1 389 (S1at w os) (piecesOf st2 env0 cE ⟨16, 0, 16, 8⟩ [topFrame q0])) = fun os => some (.next, S2at w os, cE, ⟨52, 0, 52, 8⟩) := by kernel_rfl
theorem part3 (w : World) : (fun os : OsState => segRun treeTable pE w 28 ann0 1 347 (S2at w os) (piecesOf st3 env0 cE ⟨52, 0, 52, 8⟩ [topFrame q0])) = fun os => some (.next, S3at w os, cE, ⟨148, 0, 148, 19⟩) := by kernel_rfl
theorem part4 (w : World) : (fun os : OsState => segRun treeTable pE w 28 ann0 1 78 (S3at w os) (piecesOf st4 env0 cE ⟨148, 0, 148, 19⟩ [topFrame q0])) = fun os => some (.next, S4at w os, cE, ⟨149, 0, 149, 20⟩) := by kernel_rfl
theorem part5 (w : World) : (fun os : OsState => segRun treeTable pE w 28 ann0 1 729 (S4at w os) (piecesOf st5 env0 cE ⟨149, 0, 149, 20⟩ [topFrame q0])) = fun os => some (.next, S5at w os, cE, ⟨150, 0, 224, 16⟩) := by kernel_rfl
theorem part6 (w : World) : (fun os : OsState => segRun treeTable pE w 28 ann0 1 217 (S5at w os) (piecesOf st6 env0 cE ⟨150, 0, 224, 16⟩ [topFrame q0])) = fun os => some (.next, S6at w os, cE, ⟨264, 0, 285, 15⟩) := by kernel_rfl
theorem fin0 (w : World) : (fun os : OsState => topRun treeTable pE w 28 ann0 2 (S6at w os) ⟨doneF .next, cE, ⟨264, 0, 285, 15⟩, [topFrame q0]⟩) = fun os => some (S6at w os) := by kernel_rfl
theorem rest7 (w : World) (os : OsState) : topRun treeTable pE w 28 ann0 2 (S6at w os) (restOf [] env0 cE ⟨264, 0, 285, 15⟩ [topFrame q0]) = some (S6at w os) := congrFun (fin0 w) os
theorem rest6 (w : World) (os : OsState) : topRun treeTable pE w 28 ann0 (217 + 2) (S5at w os) (restOf (st6 ++ []) env0 cE ⟨150, 0, 224, 16⟩ [topFrame q0]) = some (S6at w os) := piece_app (congrFun (part6 w) os) (rest7 w os)
theorem rest5 (w : World) (os : OsState) : topRun treeTable pE w 28 ann0 (729 + (217 + 2)) (S4at w os) (restOf (st5 ++ (st6 ++ [])) env0 cE ⟨149, 0, 149, 20⟩ [topFrame q0]) = some (S6at w os) := piece_app (congrFun (part5 w) os) (rest6 w os)
theorem rest4 (w : World) (os : OsState) : topRun treeTable pE w 28 ann0 (78 + (729 + (217 + 2))) (S3at w os) (restOf (st4 ++ (st5 ++ (st6 ++ []))) env0 cE ⟨148, 0, 148, 19⟩ [topFrame q0]) = some (S6at w os) := piece_app (congrFun (part4 w) os) (rest5 w os)
theorem rest3 (w : World) (os : OsState) : topRun treeTable pE w 28 ann0 (347 + (78 + (729 + (217 + 2)))) (S2at w os) (restOf (st3 ++ (st4 ++ (st5 ++ (st6 ++ [])))) env0 cE ⟨52, 0, 52, 8⟩ [topFrame q0]) = some (S6at w os) := piece_app (congrFun (part3 w) os) (rest4 w os)
theorem rest2 (w : World) (os : OsState) : topRun treeTable pE w 28 ann0 (389 + (347 + (78 + (729 + (217 + 2))))) (S1at w os) (restOf (st2 ++ (st3 ++ (st4 ++ (st5 ++ (st6 ++ []))))) env0 cE ⟨16, 0, 16, 8⟩ [topFrame q0]) = some (S6at w os) := piece_app (congrFun (part2 w) os) (rest3 w os)
theorem rest1 (w : World) (os : OsState) : topRun treeTable pE w 28 ann0 (297 + (389 + (347 + (78 + (729 + (217 + 2)))))) (S0at w os) (restOf (st1 ++ (st2 ++ (st3 ++ (st4 ++ (st5 ++ (st6 ++ [])))))) env0 cE ⟨0, 0, 0, 0⟩ [topFrame q0]) = some (S6at w os) := piece_app (congrFun (part1 w) os) (rest2 w os)
theorem rest0 (w : World) (os : OsState) : topRun treeTable pE w 28 ann0 (297 + (389 + (347 + (78 + (729 + (217 + 2)))))) (S0at w os) (restOf bE env0 cE q0 [topFrame q0]) = some (S6at w os) := by
  have h := rest1 w os
  rw [← split0] at h
  exact h
theorem run0 (w : World) (os : OsState) : topRun treeTable pE w 28 ann0 (12 + (1 + (297 + (389 + (347 + (78 + (729 + (217 + 2)))))))) ⟨H0 w.params, #[], {}, 276, os⟩ (topStub pE) = some ⟨H1 w.params, #[], {}, 755, os⟩ := go_top (congrFun (pre0 w) os) (piece_block (congrFun (blk0 w) os) (rest0 w os))
theorem looks0 : ∀ w : World, (fun os => ((staticsOk (importedModules pE.main.body) (H0 w.params) (H1 w.params) && namesBound pE (H1 w.params) && gensDone ⟨H1 w.params, #[], {}, 755, os⟩ && laidKept (H0 w.params) (H1 w.params)),
        openSeen q loose0 (importedModules pE.main.body) Xt0 true ⟨H1 w.params, #[], {}, 755, os⟩, Hook.obs hk ⟨H1 w.params, #[], {}, 755, os⟩)) = fun _ => (true, openGood q loose0, Hook.val hk w) := fun w => by kernel_rfl
theorem left : LeftO pE q loose0 Xt0 (Hook.obs hk) (Hook.val hk) 4228 := LeftO.of_pieces open0 size0 run0 rfl looks0
end Mine
end
section
open PySem PySem.W PyProof.Rows
namespace Mine
theorem said0 : PySem.Challenge.rw_pd0177_01.wellSaid = true := by kernel_rfl
end Mine
end
section
open PySem PySem.W PyProof.Rows PySem.Spec PySem.Calls
namespace Mine
noncomputable abbrev loose : List Str := looseW Mine.q [Str.ofString "_name_disallowed_re", Str.ofString "_value_disallowed_re"]
theorem In_le {Γ : PySem.Ctx} {A A' : Around} (h : Γ.In A) (hh : A.handled = A'.handled) (hd : A.depth ≤ A'.depth) (hf : ∀ l, A'.frames = some l → A.frames = some l) (hg : ∀ g, A'.guards = some g → A.guards = some g) (hu : A.units ≤ A'.units) : Γ.In A' :=
  ⟨h.1.trans hh, Nat.le_trans h.2.1 hd, fun l e => h.2.2.1 l (hf l e), fun g e => h.2.2.2.1 g (hg g e), Nat.le_trans h.2.2.2.2 hu⟩
theorem wpAny_le {α : Type} {M : Model} {A A' : Around} {t : Sem α} {Q : α → Shared → Prop} {E : Value → Shared → Prop} {s : Shared} (hh : A.handled = A'.handled) (hd : A.depth ≤ A'.depth) (hf : ∀ l, A'.frames = some l → A.frames = some l) (hg : ∀ g, A'.guards = some g → A.guards = some g) (hu : A.units ≤ A'.units)
    (h : wpAny M A' t Q E s) : wpAny M A t Q E s := fun Γ p hΓ => h Γ p (In_le hΓ hh hd hf hg hu)
theorem fr_grown {h₀ h h' : Heap} {L : Addr} {m : Str → Option Value} (F : Fr h₀ L h m) (k : ∀ b o, h.get? b = some o → h'.get? b = some o) : Fr h₀ L h' m := by
  obtain ⟨oL, a1, a2, hL, a3⟩ := F.ns
  exact ⟨⟨oL, a1, a2, k _ _ hL, a3⟩, fun b o e => k b o (F.keep b o e), F.above⟩
theorem news_grown {h₀ h h' : Heap} {L : Addr} {news : List (Addr × Obj)} (N : News h₀ L h news) (k : ∀ b o, h.get? b = some o → h'.get? b = some o) : News h₀ L h' news :=
  fun p hp => ⟨k _ _ (N p hp).1, (N p hp).2⟩
theorem mem_keeps {h₀ h : Heap} {news : List (Addr × Obj)} (D : X.Mem h₀ h [] news) : ∀ b o, h₀.get? b = some o → h.get? b = some o :=
  fun b o e => D.keep b o e (by simp [X.away])
/-- a call of a def upon values, in any frame: dp, un the room that is there -/
abbrev Call (w : World) (dp un : Nat) (f : Addr) (vs : List Value) (R : Value → Prop) : Prop :=
  ∀ (mean : ExcName → Option Value) (mg mb : Str → Option Value) (d u : Nat) (gd : Option (List Code)) (cn : Str) (cs : Scope) (a : Addr) (ccd : Value) (cl : List (Str × Addr)) (outer : List Env) (A₀ : Around) (base h₀ : Heap) (L : Addr) (m : Str → Option Value) (s : Shared) (Q E : Value → Shared → Prop) (news : List (Addr × Obj)),
    d ≤ dp → u ≤ un → Below A₀ base outer h₀ → Fr h₀ L s.heap m → (Mine.fr.heap_1 w.params).In h₀ → News h₀ L s.heap news → Top Mine.q loose mean mg mb h₀ → cs.kind = .function →
    (∀ (v : Value) (h' : Heap) (tk' : Nat), R v → Fr h₀ L h' m → News h₀ L h' news → Q v { s with heap := h', toks := tk' }) →
      wpAny (model PySem.Challenge.rw_pd0177_01.row.prog w) (ktrTop d u gd cn cs L a ccd cl outer) (call (.ref f) vs) Q E s
theorem Call.use {w : World} {dp un : Nat} {f : Addr} {vs : List Value} {R : Value → Prop} (C : Call w dp un f vs R)
    {mean : ExcName → Option Value} {mg mb : Str → Option Value} {d u : Nat} {gd : Option (List Code)} {cn : Str} {cs : Scope} {a : Addr} {ccd : Value} {cl : List (Str × Addr)} {outer : List Env} {A₀ : Around} {base h₀ : Heap} {L : Addr} {m : Str → Option Value} {s : Shared} {Q E : Value → Shared → Prop} {news : List (Addr × Obj)}
    (kd : d ≤ dp) (ku : u ≤ un) (B : Below A₀ base outer h₀) (F : Fr h₀ L s.heap m) (X : (Mine.fr.heap_1 w.params).In h₀) (N : News h₀ L s.heap news) (T : Top Mine.q loose mean mg mb h₀) (hk : cs.kind = .function)
    (ret : ∀ (v : Value) (h' : Heap) (tk' : Nat), R v → Fr h₀ L h' m → News h₀ L h' news → Q v { s with heap := h', toks := tk' }) :
    wpAny (model PySem.Challenge.rw_pd0177_01.row.prog w) (ktrTop d u gd cn cs L a ccd cl outer) (call (.ref f) vs) Q E s :=
  C _ _ _ _ _ _ _ _ _ _ _ _ _ _ _ _ _ _ _ _ _ kd ku B F X N T hk ret
noncomputable def be0 (P : Params) : List DictEntry := [{ hash := PyData.keyHash P (Str.ofString "__name__"), key := Value.str (Str.ofString "__name__") 1, val := Value.str (Str.ofString "builtins") 160 }, { hash := PyData.keyHash P (Str.ofString "__doc__"), key := Value.str (Str.ofString "__doc__") 2, val := Value.builtin "builtins.__doc__:str#op\x61que" }, { hash := PyData.keyHash P (Str.ofString "__package__"), key := Value.str (Str.ofString "__package__") 3, val := Value.builtin "builtins.__package__:str#op\x61que" }, { hash := PyData.keyHash P (Str.ofString "__loader__"), key := Value.str (Str.ofString "__loader__") 4, val := Value.builtin "builtins.__loader__:shared#op\x61que" }, { hash := PyData.keyHash P (Str.ofString "__spec__"), key := Value.str (Str.ofString "__spec__") 5, val := Value.builtin "builtins.__spec__#op\x61que" }, { hash := PyData.keyHash P (Str.ofString "__build_class__"), key := Value.str (Str.ofString "__build_class__") 6, val := Value.builtin "__build_class__" }]
noncomputable def be1 (P : Params) : List DictEntry := [{ hash := PyData.keyHash P (Str.ofString "__imp\x6frt__"), key := Value.str (Str.ofString "__imp\x6frt__") 7, val := Value.builtin "__imp\x6frt__" }, { hash := PyData.keyHash P (Str.ofString "abs"), key := Value.str (Str.ofString "abs") 8, val := Value.builtin "abs" }, { hash := PyData.keyHash P (Str.ofString "all"), key := Value.str (Str.ofString "all") 9, val := Value.builtin "all" }, { hash := PyData.keyHash P (Str.ofString "any"), key := Value.str (Str.ofString "any") 10, val := Value.builtin "any" }, { hash := PyData.keyHash P (Str.ofString "ascii"), key := Value.str (Str.ofString "ascii") 11, val := Value.builtin "ascii" }, { hash := PyData.keyHash P (Str.ofString "bin"), key := Value.str (Str.ofString "bin") 12, val := Value.builtin "bin" }]
noncomputable def be2 (P : Params) : List DictEntry := [{ hash := PyData.keyHash P (Str.ofString "breakpoint"), key := Value.str (Str.ofString "breakpoint") 13, val := Value.builtin "breakpoint" }, { hash := PyData.keyHash P (Str.ofString "callable"), key := Value.str (Str.ofString "callable") 14, val := Value.builtin "callable" }, { hash := PyData.keyHash P (Str.ofString "chr"), key := Value.str (Str.ofString "chr") 15, val := Value.builtin "chr" }, { hash := PyData.keyHash P (Str.ofString "compile"), key := Value.str (Str.ofString "compile") 16, val := Value.builtin "compile" }, { hash := PyData.keyHash P (Str.ofString "delattr"), key := Value.str (Str.ofString "delattr") 17, val := Value.builtin "delattr" }, { hash := PyData.keyHash P (Str.ofString "dir"), key := Value.str (Str.ofString "dir") 18, val := Value.builtin "dir" }]
noncomputable def be3 (P : Params) : List DictEntry := [{ hash := PyData.keyHash P (Str.ofString "divmod"), key := Value.str (Str.ofString "divmod") 19, val := Value.builtin "divmod" }, { hash := PyData.keyHash P (Str.ofString "eval"), key := Value.str (Str.ofString "eval") 20, val := Value.builtin "eval" }, { hash := PyData.keyHash P (Str.ofString "exec"), key := Value.str (Str.ofString "exec") 21, val := Value.builtin "exec" }, { hash := PyData.keyHash P (Str.ofString "format"), key := Value.str (Str.ofString "format") 22, val := Value.builtin "format" }, { hash := PyData.keyHash P (Str.ofString "getattr"), key := Value.str (Str.ofString "getattr") 23, val := Value.builtin "getattr" }, { hash := PyData.keyHash P (Str.ofString "globals"), key := Value.str (Str.ofString "globals") 24, val := Value.builtin "globals" }]
noncomputable def be4 (P : Params) : List DictEntry := [{ hash := PyData.keyHash P (Str.ofString "hasattr"), key := Value.str (Str.ofString "hasattr") 25, val := Value.builtin "hasattr" }, { hash := PyData.keyHash P (Str.ofString "hash"), key := Value.str (Str.ofString "hash") 26, val := Value.builtin "hash" }, { hash := PyData.keyHash P (Str.ofString "hex"), key := Value.str (Str.ofString "hex") 27, val := Value.builtin "hex" }, { hash := PyData.keyHash P (Str.ofString "id"), key := Value.str (Str.ofString "id") 28, val := Value.builtin "id" }, { hash := PyData.keyHash P (Str.ofString "input"), key := Value.str (Str.ofString "input") 29, val := Value.builtin "input" }, { hash := PyData.keyHash P (Str.ofString "isinstance"), key := Value.str (Str.ofString "isinstance") 30, val := Value.builtin "isinstance" }]
noncomputable def be5 (P : Params) : List DictEntry := [{ hash := PyData.keyHash P (Str.ofString "issubclass"), key := Value.str (Str.ofString "issubclass") 31, val := Value.builtin "issubclass" }, { hash := PyData.keyHash P (Str.ofString "iter"), key := Value.str (Str.ofString "iter") 32, val := Value.builtin "iter" }, { hash := PyData.keyHash P (Str.ofString "aiter"), key := Value.str (Str.ofString "aiter") 33, val := Value.builtin "aiter" }, { hash := PyData.keyHash P (Str.ofString "len"), key := Value.str (Str.ofString "len") 34, val := Value.builtin "len" }, { hash := PyData.keyHash P (Str.ofString "locals"), key := Value.str (Str.ofString "locals") 35, val := Value.builtin "locals" }, { hash := PyData.keyHash P (Str.ofString "max"), key := Value.str (Str.ofString "max") 36, val := Value.builtin "max" }]
noncomputable def be6 (P : Params) : List DictEntry := [{ hash := PyData.keyHash P (Str.ofString "min"), key := Value.str (Str.ofString "min") 37, val := Value.builtin "min" }, { hash := PyData.keyHash P (Str.ofString "next"), key := Value.str (Str.ofString "next") 38, val := Value.builtin "next" }, { hash := PyData.keyHash P (Str.ofString "anext"), key := Value.str (Str.ofString "anext") 39, val := Value.builtin "anext" }, { hash := PyData.keyHash P (Str.ofString "oct"), key := Value.str (Str.ofString "oct") 40, val := Value.builtin "oct" }, { hash := PyData.keyHash P (Str.ofString "ord"), key := Value.str (Str.ofString "ord") 41, val := Value.builtin "ord" }, { hash := PyData.keyHash P (Str.ofString "pow"), key := Value.str (Str.ofString "pow") 42, val := Value.builtin "pow" }]
noncomputable def be7 (P : Params) : List DictEntry := [{ hash := PyData.keyHash P (Str.ofString "print"), key := Value.str (Str.ofString "print") 43, val := Value.builtin "print" }, { hash := PyData.keyHash P (Str.ofString "repr"), key := Value.str (Str.ofString "repr") 44, val := Value.builtin "repr" }, { hash := PyData.keyHash P (Str.ofString "round"), key := Value.str (Str.ofString "round") 45, val := Value.builtin "round" }, { hash := PyData.keyHash P (Str.ofString "setattr"), key := Value.str (Str.ofString "setattr") 46, val := Value.builtin "setattr" }, { hash := PyData.keyHash P (Str.ofString "sorted"), key := Value.str (Str.ofString "sorted") 47, val := Value.builtin "sorted" }, { hash := PyData.keyHash P (Str.ofString "sum"), key := Value.str (Str.ofString "sum") 48, val := Value.builtin "sum" }]
noncomputable def be8 (P : Params) : List DictEntry := [{ hash := PyData.keyHash P (Str.ofString "vars"), key := Value.str (Str.ofString "vars") 49, val := Value.builtin "vars" }, { hash := PyData.keyHash P (Str.ofString "None"), key := Value.str (Str.ofString "None") 50, val := Value.none }, { hash := PyData.keyHash P (Str.ofString "Ellipsis"), key := Value.str (Str.ofString "Ellipsis") 51, val := Value.ellipsis }, { hash := PyData.keyHash P (Str.ofString "NotImplemented"), key := Value.str (Str.ofString "NotImplemented") 52, val := Value.notImplemented }, { hash := PyData.keyHash P (Str.ofString "False"), key := Value.str (Str.ofString "False") 53, val := Value.bool false }, { hash := PyData.keyHash P (Str.ofString "True"), key := Value.str (Str.ofString "True") 54, val := Value.bool true }]
noncomputable def be9 (P : Params) : List DictEntry := [{ hash := PyData.keyHash P (Str.ofString "bool"), key := Value.str (Str.ofString "bool") 55, val := Value.type "bool" }, { hash := PyData.keyHash P (Str.ofString "memoryview"), key := Value.str (Str.ofString "memoryview") 56, val := Value.type "memoryview" }, { hash := PyData.keyHash P (Str.ofString "bytearray"), key := Value.str (Str.ofString "bytearray") 57, val := Value.type "bytearray" }, { hash := PyData.keyHash P (Str.ofString "bytes"), key := Value.str (Str.ofString "bytes") 58, val := Value.type "bytes" }, { hash := PyData.keyHash P (Str.ofString "classmethod"), key := Value.str (Str.ofString "classmethod") 59, val := Value.type "classmethod" }, { hash := PyData.keyHash P (Str.ofString "complex"), key := Value.str (Str.ofString "complex") 60, val := Value.type "complex" }]
noncomputable def be10 (P : Params) : List DictEntry := [{ hash := PyData.keyHash P (Str.ofString "dict"), key := Value.str (Str.ofString "dict") 61, val := Value.type "dict" }, { hash := PyData.keyHash P (Str.ofString "enumerate"), key := Value.str (Str.ofString "enumerate") 62, val := Value.type "enumerate" }, { hash := PyData.keyHash P (Str.ofString "filter"), key := Value.str (Str.ofString "filter") 63, val := Value.type "filter" }, { hash := PyData.keyHash P (Str.ofString "float"), key := Value.str (Str.ofString "float") 64, val := Value.type "float" }, { hash := PyData.keyHash P (Str.ofString "frozenset"), key := Value.str (Str.ofString "frozenset") 65, val := Value.type "frozenset" }, { hash := PyData.keyHash P (Str.ofString "property"), key := Value.str (Str.ofString "property") 66, val := Value.type "property" }]
noncomputable def be11 (P : Params) : List DictEntry := [{ hash := PyData.keyHash P (Str.ofString "int"), key := Value.str (Str.ofString "int") 67, val := Value.type "int" }, { hash := PyData.keyHash P (Str.ofString "list"), key := Value.str (Str.ofString "list") 68, val := Value.type "list" }, { hash := PyData.keyHash P (Str.ofString "map"), key := Value.str (Str.ofString "map") 69, val := Value.type "map" }, { hash := PyData.keyHash P (Str.ofString "object"), key := Value.str (Str.ofString "object") 70, val := Value.type "object" }, { hash := PyData.keyHash P (Str.ofString "range"), key := Value.str (Str.ofString "range") 71, val := Value.type "range" }, { hash := PyData.keyHash P (Str.ofString "reversed"), key := Value.str (Str.ofString "reversed") 72, val := Value.type "reversed" }]
noncomputable def be12 (P : Params) : List DictEntry := [{ hash := PyData.keyHash P (Str.ofString "set"), key := Value.str (Str.ofString "set") 73, val := Value.type "set" }, { hash := PyData.keyHash P (Str.ofString "slice"), key := Value.str (Str.ofString "slice") 74, val := Value.type "slice" }, { hash := PyData.keyHash P (Str.ofString "staticmethod"), key := Value.str (Str.ofString "staticmethod") 75, val := Value.type "staticmethod" }, { hash := PyData.keyHash P (Str.ofString "str"), key := Value.str (Str.ofString "str") 76, val := Value.type "str" }, { hash := PyData.keyHash P (Str.ofString "super"), key := Value.str (Str.ofString "super") 77, val := Value.type "super" }, { hash := PyData.keyHash P (Str.ofString "tuple"), key := Value.str (Str.ofString "tuple") 78, val := Value.type "tuple" }]
noncomputable def be13 (P : Params) : List DictEntry := [{ hash := PyData.keyHash P (Str.ofString "type"), key := Value.str (Str.ofString "type") 79, val := Value.type "type" }, { hash := PyData.keyHash P (Str.ofString "zip"), key := Value.str (Str.ofString "zip") 80, val := Value.type "zip" }, { hash := PyData.keyHash P (Str.ofString "__debug__"), key := Value.str (Str.ofString "__debug__") 81, val := Value.bool true }, { hash := PyData.keyHash P (Str.ofString "BaseException"), key := Value.str (Str.ofString "BaseException") 82, val := Value.type "BaseException" }, { hash := PyData.keyHash P (Str.ofString "BaseExceptionGroup"), key := Value.str (Str.ofString "BaseExceptionGroup") 83, val := Value.type "BaseExceptionGroup" }, { hash := PyData.keyHash P (Str.ofString "Exception"), key := Value.str (Str.ofString "Exception") 84, val := Value.type "Exception" }]
noncomputable def be14 (P : Params) : List DictEntry := [{ hash := PyData.keyHash P (Str.ofString "GeneratorExit"), key := Value.str (Str.ofString "GeneratorExit") 85, val := Value.type "GeneratorExit" }, { hash := PyData.keyHash P (Str.ofString "KeyboardInterrupt"), key := Value.str (Str.ofString "KeyboardInterrupt") 86, val := Value.type "KeyboardInterrupt" }, { hash := PyData.keyHash P (Str.ofString "SystemExit"), key := Value.str (Str.ofString "SystemExit") 87, val := Value.type "SystemExit" }, { hash := PyData.keyHash P (Str.ofString "ArithmeticError"), key := Value.str (Str.ofString "ArithmeticError") 88, val := Value.type "ArithmeticError" }, { hash := PyData.keyHash P (Str.ofString "AssertionError"), key := Value.str (Str.ofString "AssertionError") 89, val := Value.type "AssertionError" }, { hash := PyData.keyHash P (Str.ofString "AttributeError"), key := Value.str (Str.ofString "AttributeError") 90, val := Value.type "AttributeError" }]
noncomputable def be15 (P : Params) : List DictEntry := [{ hash := PyData.keyHash P (Str.ofString "BufferError"), key := Value.str (Str.ofString "BufferError") 91, val := Value.type "BufferError" }, { hash := PyData.keyHash P (Str.ofString "EOFError"), key := Value.str (Str.ofString "EOFError") 92, val := Value.type "EOFError" }, { hash := PyData.keyHash P (Str.ofString "ImportError"), key := Value.str (Str.ofString "ImportError") 93, val := Value.type "ImportError" }, { hash := PyData.keyHash P (Str.ofString "LookupError"), key := Value.str (Str.ofString "LookupError") 94, val := Value.type "LookupError" }, { hash := PyData.keyHash P (Str.ofString "MemoryError"), key := Value.str (Str.ofString "MemoryError") 95, val := Value.type "MemoryError" }, { hash := PyData.keyHash P (Str.ofString "NameError"), key := Value.str (Str.ofString "NameError") 96, val := Value.type "NameError" }]
noncomputable def be16 (P : Params) : List DictEntry := [{ hash := PyData.keyHash P (Str.ofString "OSError"), key := Value.str (Str.ofString "OSError") 97, val := Value.type "OSError" }, { hash := PyData.keyHash P (Str.ofString "ReferenceError"), key := Value.str (Str.ofString "ReferenceError") 98, val := Value.type "ReferenceError" }, { hash := PyData.keyHash P (Str.ofString "RuntimeError"), key := Value.str (Str.ofString "RuntimeError") 99, val := Value.type "RuntimeError" }, { hash := PyData.keyHash P (Str.ofString "StopAsyncIteration"), key := Value.str (Str.ofString "StopAsyncIteration") 100, val := Value.type "StopAsyncIteration" }, { hash := PyData.keyHash P (Str.ofString "StopIteration"), key := Value.str (Str.ofString "StopIteration") 101, val := Value.type "StopIteration" }, { hash := PyData.keyHash P (Str.ofString "SyntaxError"), key := Value.str (Str.ofString "SyntaxError") 102, val := Value.type "SyntaxError" }]
noncomputable def be17 (P : Params) : List DictEntry := [{ hash := PyData.keyHash P (Str.ofString "SystemError"), key := Value.str (Str.ofString "SystemError") 103, val := Value.type "SystemError" }, { hash := PyData.keyHash P (Str.ofString "TypeError"), key := Value.str (Str.ofString "TypeError") 104, val := Value.type "TypeError" }, { hash := PyData.keyHash P (Str.ofString "ValueError"), key := Value.str (Str.ofString "ValueError") 105, val := Value.type "ValueError" }, { hash := PyData.keyHash P (Str.ofString "Warning"), key := Value.str (Str.ofString "Warning") 106, val := Value.type "Warning" }, { hash := PyData.keyHash P (Str.ofString "FloatingPointError"), key := Value.str (Str.ofString "FloatingPointError") 107, val := Value.type "FloatingPointError" }, { hash := PyData.keyHash P (Str.ofString "OverflowError"), key := Value.str (Str.ofString "OverflowError") 108, val := Value.type "OverflowError" }]
noncomputable def be18 (P : Params) : List DictEntry := [{ hash := PyData.keyHash P (Str.ofString "ZeroDivisionError"), key := Value.str (Str.ofString "ZeroDivisionError") 109, val := Value.type "ZeroDivisionError" }, { hash := PyData.keyHash P (Str.ofString "BytesWarning"), key := Value.str (Str.ofString "BytesWarning") 110, val := Value.type "BytesWarning" }, { hash := PyData.keyHash P (Str.ofString "DeprecationWarning"), key := Value.str (Str.ofString "DeprecationWarning") 111, val := Value.type "DeprecationWarning" }, { hash := PyData.keyHash P (Str.ofString "EncodingWarning"), key := Value.str (Str.ofString "EncodingWarning") 112, val := Value.type "EncodingWarning" }, { hash := PyData.keyHash P (Str.ofString "FutureWarning"), key := Value.str (Str.ofString "FutureWarning") 113, val := Value.type "FutureWarning" }, { hash := PyData.keyHash P (Str.ofString "ImportWarning"), key := Value.str (Str.ofString "ImportWarning") 114, val := Value.type "ImportWarning" }]
noncomputable def be19 (P : Params) : List DictEntry := [{ hash := PyData.keyHash P (Str.ofString "PendingDeprecationWarning"), key := Value.str (Str.ofString "PendingDeprecationWarning") 115, val := Value.type "PendingDeprecationWarning" }, { hash := PyData.keyHash P (Str.ofString "ResourceWarning"), key := Value.str (Str.ofString "ResourceWarning") 116, val := Value.type "ResourceWarning" }, { hash := PyData.keyHash P (Str.ofString "RuntimeWarning"), key := Value.str (Str.ofString "RuntimeWarning") 117, val := Value.type "RuntimeWarning" }, { hash := PyData.keyHash P (Str.ofString "SyntaxWarning"), key := Value.str (Str.ofString "SyntaxWarning") 118, val := Value.type "SyntaxWarning" }, { hash := PyData.keyHash P (Str.ofString "UnicodeWarning"), key := Value.str (Str.ofString "UnicodeWarning") 119, val := Value.type "UnicodeWarning" }, { hash := PyData.keyHash P (Str.ofString "UserWarning"), key := Value.str (Str.ofString "UserWarning") 120, val := Value.type "UserWarning" }]
noncomputable def be20 (P : Params) : List DictEntry := [{ hash := PyData.keyHash P (Str.ofString "BlockingIOError"), key := Value.str (Str.ofString "BlockingIOError") 121, val := Value.type "BlockingIOError" }, { hash := PyData.keyHash P (Str.ofString "ChildProcessError"), key := Value.str (Str.ofString "ChildProcessError") 122, val := Value.type "ChildProcessError" }, { hash := PyData.keyHash P (Str.ofString "ConnectionError"), key := Value.str (Str.ofString "ConnectionError") 123, val := Value.type "ConnectionError" }, { hash := PyData.keyHash P (Str.ofString "FileExistsError"), key := Value.str (Str.ofString "FileExistsError") 124, val := Value.type "FileExistsError" }, { hash := PyData.keyHash P (Str.ofString "FileNotFoundError"), key := Value.str (Str.ofString "FileNotFoundError") 125, val := Value.type "FileNotFoundError" }, { hash := PyData.keyHash P (Str.ofString "InterruptedError"), key := Value.str (Str.ofString "InterruptedError") 126, val := Value.type "InterruptedError" }]
noncomputable def be21 (P : Params) : List DictEntry := [{ hash := PyData.keyHash P (Str.ofString "IsADirectoryError"), key := Value.str (Str.ofString "IsADirectoryError") 127, val := Value.type "IsADirectoryError" }, { hash := PyData.keyHash P (Str.ofString "NotADirectoryError"), key := Value.str (Str.ofString "NotADirectoryError") 128, val := Value.type "NotADirectoryError" }, { hash := PyData.keyHash P (Str.ofString "PermissionError"), key := Value.str (Str.ofString "PermissionError") 129, val := Value.type "PermissionError" }, { hash := PyData.keyHash P (Str.ofString "ProcessLookupError"), key := Value.str (Str.ofString "ProcessLookupError") 130, val := Value.type "ProcessLookupError" }, { hash := PyData.keyHash P (Str.ofString "TimeoutError"), key := Value.str (Str.ofString "TimeoutError") 131, val := Value.type "TimeoutError" }, { hash := PyData.keyHash P (Str.ofString "IndentationError"), key := Value.str (Str.ofString "IndentationError") 132, val := Value.type "IndentationError" }]
noncomputable def be22 (P : Params) : List DictEntry := [{ hash := PyData.keyHash P (Str.ofString "_IncompleteInputError"), key := Value.str (Str.ofString "_IncompleteInputError") 133, val := Value.type "_IncompleteInputError" }, { hash := PyData.keyHash P (Str.ofString "IndexError"), key := Value.str (Str.ofString "IndexError") 134, val := Value.type "IndexError" }, { hash := PyData.keyHash P (Str.ofString "KeyError"), key := Value.str (Str.ofString "KeyError") 135, val := Value.type "KeyError" }, { hash := PyData.keyHash P (Str.ofString "ModuleNotFoundError"), key := Value.str (Str.ofString "ModuleNotFoundError") 136, val := Value.type "ModuleNotFoundError" }, { hash := PyData.keyHash P (Str.ofString "NotImplementedError"), key := Value.str (Str.ofString "NotImplementedError") 137, val := Value.type "NotImplementedError" }, { hash := PyData.keyHash P (Str.ofString "PythonFinalizationError"), key := Value.str (Str.ofString "PythonFinalizationError") 138, val := Value.type "PythonFinalizationError" }]
noncomputable def be23 (P : Params) : List DictEntry := [{ hash := PyData.keyHash P (Str.ofString "RecursionError"), key := Value.str (Str.ofString "RecursionError") 139, val := Value.type "RecursionError" }, { hash := PyData.keyHash P (Str.ofString "UnboundLocalError"), key := Value.str (Str.ofString "UnboundLocalError") 140, val := Value.type "UnboundLocalError" }, { hash := PyData.keyHash P (Str.ofString "UnicodeError"), key := Value.str (Str.ofString "UnicodeError") 141, val := Value.type "UnicodeError" }, { hash := PyData.keyHash P (Str.ofString "BrokenPipeError"), key := Value.str (Str.ofString "BrokenPipeError") 142, val := Value.type "BrokenPipeError" }, { hash := PyData.keyHash P (Str.ofString "ConnectionAbortedError"), key := Value.str (Str.ofString "ConnectionAbortedError") 143, val := Value.type "ConnectionAbortedError" }, { hash := PyData.keyHash P (Str.ofString "ConnectionRefusedError"), key := Value.str (Str.ofString "ConnectionRefusedError") 144, val := Value.type "ConnectionRefusedError" }]
noncomputable def be24 (P : Params) : List DictEntry := [{ hash := PyData.keyHash P (Str.ofString "ConnectionResetError"), key := Value.str (Str.ofString "ConnectionResetError") 145, val := Value.type "ConnectionResetError" }, { hash := PyData.keyHash P (Str.ofString "TabError"), key := Value.str (Str.ofString "TabError") 146, val := Value.type "TabError" }, { hash := PyData.keyHash P (Str.ofString "UnicodeDecodeError"), key := Value.str (Str.ofString "UnicodeDecodeError") 147, val := Value.type "UnicodeDecodeError" }, { hash := PyData.keyHash P (Str.ofString "UnicodeEncodeError"), key := Value.str (Str.ofString "UnicodeEncodeError") 148, val := Value.type "UnicodeEncodeError" }, { hash := PyData.keyHash P (Str.ofString "UnicodeTranslateError"), key := Value.str (Str.ofString "UnicodeTranslateError") 149, val := Value.type "UnicodeTranslateError" }, { hash := PyData.keyHash P (Str.ofString "ExceptionGroup"), key := Value.str (Str.ofString "ExceptionGroup") 150, val := Value.type "ExceptionGroup" }]
noncomputable def be25 (P : Params) : List DictEntry := [{ hash := PyData.keyHash P (Str.ofString "EnvironmentError"), key := Value.str (Str.ofString "EnvironmentError") 151, val := Value.type "OSError" }, { hash := PyData.keyHash P (Str.ofString "IOError"), key := Value.str (Str.ofString "IOError") 152, val := Value.type "OSError" }, { hash := PyData.keyHash P (Str.ofString "open"), key := Value.str (Str.ofString "open") 153, val := Value.builtin "open" }, { hash := PyData.keyHash P (Str.ofString "quit"), key := Value.str (Str.ofString "quit") 154, val := Value.builtin "builtins.quit#op\x61que" }, { hash := PyData.keyHash P (Str.ofString "exit"), key := Value.str (Str.ofString "exit") 155, val := Value.builtin "builtins.exit#op\x61que" }, { hash := PyData.keyHash P (Str.ofString "copyright"), key := Value.str (Str.ofString "copyright") 156, val := Value.builtin "builtins.copyright#op\x61que" }]
noncomputable def be26 (P : Params) : List DictEntry := [{ hash := PyData.keyHash P (Str.ofString "credits"), key := Value.str (Str.ofString "credits") 157, val := Value.builtin "builtins.credits#op\x61que" }, { hash := PyData.keyHash P (Str.ofString "license"), key := Value.str (Str.ofString "license") 158, val := Value.builtin "builtins.license#op\x61que" }, { hash := PyData.keyHash P (Str.ofString "help"), key := Value.str (Str.ofString "help") 159, val := Value.builtin "builtins.help#op\x61que" }]
noncomputable def bes (P : Params) : Array DictEntry := (be0 P ++ (be1 P ++ (be2 P ++ (be3 P ++ (be4 P ++ (be5 P ++ (be6 P ++ (be7 P ++ (be8 P ++ (be9 P ++ (be10 P ++ (be11 P ++ (be12 P ++ (be13 P ++ (be14 P ++ (be15 P ++ (be16 P ++ (be17 P ++ (be18 P ++ (be19 P ++ (be20 P ++ (be21 P ++ (be22 P ++ (be23 P ++ (be24 P ++ (be25 P ++ (be26 P))))))))))))))))))))))))))).toArray
theorem b_at (w : World) (h : Heap) (X : (Mine.fr.heap_1 w.params).In h) : h.get? (nat_lit 0) = some { cls := .type "dict", data := .dict (bes w.params) 159 } := X _ _ (by kernel_rfl)
section
open PySem.W.X
set_option hygiene false in
local macro_rules | `(tactic| x_close) => `(tactic| exact hret _ _ _ (⟨_, rfl⟩) (fr_grown ‹Fr _ _ _ _› (mem_keeps (by assumption))) (news_grown ‹News _ _ _ _› (mem_keeps (by assumption))))
theorem fspath_c (w : World) (p : Str) (t : Tok) : Call w 900 9000 111 [.str p t] (fun v => ∃ t, v = .str p t) := by
  unfold Call
  intro mean mg mb d u gd cn cs a ccd cl outer A₀ base h₀ L m s Q E news hd hu B F KX N T hk hret
  have KX' := KX.keeps F.keep
  have hb9 := b_at w _ KX'
  refine wpAny_le (A' := ktrTop 900 9000 none cn cs L a ccd cl outer) rfl hd (fun _ e => e) (fun _ e => nomatch e) hu ?_
  clear KX T B
  generalize PySem.Challenge.rw_pd0177_01.row.prog = prg9
  x_run
end
end Mine
end
section
open PySem PySem.W PyProof.Rows PySem.Spec PySem.Calls
namespace Mine
section
variable {prog : Program} {w : World} {A : Around} {E : Value → Shared → Prop} {s : Shared} {env : Env} {h₀ : Heap} {target : Expr} {body : List Stmt} {Q : Flow → Shared → Prop}
/-- a for whose target is any, over a list of the ledger: by a word of the turn's number, the names and the ledger -/
theorem turns_list {l : Addr} {vs : List Value} {nn : Nat} {m₀ : Str → Option Value} {news : List (Addr × Obj)} (J : Nat → (Str → Option Value) → List (Addr × Obj) → Prop)
    (hh : A.handled = none) (hl : (l, listOf vs.toArray nn) ∈ news) (F : Fr h₀ env.locals s.heap m₀) (N : News h₀ env.locals s.heap news) (hj : J 0 m₀ news)
    (turn : ∀ i v m₁ nx h tk own, vs[i]? = some v → OwnOff own (nx.map (·.1)) → (l, listOf vs.toArray nn) ∈ nx → J i m₁ nx → Fr h₀ env.locals h m₁ → News h₀ env.locals h (nx ++ own) →
      wpAny (model prog w) A (assign target env v) (fun _ s₃ => wpAny (model prog w) A (execs body env) (InvPostG h₀ env.locals (fun m' nx => (l, listOf vs.toArray nn) ∈ nx ∧ J (i + 1) m' nx) own { s with heap := h, toks := tk } Q) E s₃) E { s with heap := h, toks := tk })
    (done : ∀ m₁ nx h tk, J vs.length m₁ nx → Fr h₀ env.locals h m₁ → News h₀ env.locals h nx → Q .next { s with heap := h, toks := tk }) :
    wpAny (model prog w) A (pyIter (.ref l)) (fun it s₂ => TurnsAt prog w A h₀ env target body Q E it s₂) E s := by
  have hol : s.heap.get? l = some (listOf vs.toArray nn) := (N _ hl).1
  have hls : s.heap.IsList l vs.toArray := ⟨_, hol, rfl, nn, rfl⟩
  have hne : l ≠ s.heap.objs.size := Nat.ne_of_lt (Heap.lt_size hol)
  refine wpAny_pyIter_list hls ?_
  have W := KTurns.ofWalks (target := target) (Walks.list (prog := prog) (w := w) hh s.heap.objs.size l hne vs.toArray) fun i v s Q E st q => letGo_listiter st.1 q
  have hlen : vs.toArray.size = vs.length := by simp
  rw [hlen] at W
  refine ⟨_, _, _, vs.length, _, _, _, m₀, news, (fun i m nx => (l, listOf vs.toArray nn) ∈ nx ∧ J i m nx), rfl, W, ?_, ?_, ?_, ⟨⟨_, Heap.get?_push_size _ rfl, rfl, rfl⟩, hls.at fun o e => Heap.get?_push_of_some _ e⟩, F.push _, (fun p hp => ⟨Heap.get?_push_of_some _ (N p hp).1, (N p hp).2⟩), ⟨hl, hj⟩, ?_, ?_⟩
  · intro hm
    rcases List.mem_cons.mp hm with e | hm
    · exact absurd F.ns.lt (e ▸ Nat.lt_irrefl _)
    · exact (N _ hl).2.1 ((List.mem_singleton.mp hm).symm)
  · intro b hb
    rw [List.mem_singleton.mp hb]
    exact next_is_new F
  · intro p hp hI
    exact absurd (Heap.lt_size (N p hp).1) ((List.mem_singleton.mp hI) ▸ Nat.lt_irrefl _)
  · rintro i v m₁ nx h₁ tk₁ own hin hP ⟨hl₁, hJ⟩ hoff hown hget hfp hst F₁ N₁
    have hP' : vs[i]? = some v := by simpa using hP
    have hI0 : h₀.get? s.heap.objs.size = none := next_is_new F
    obtain ⟨⟨oI, hoI, _⟩, _⟩ := id hst
    have hIm : (s.heap.objs.size, oI) ∈ own := hfp _ (List.mem_cons.mpr (.inl rfl)) hI0 _ hoI
    have hlo : h₁.get? l = some (listOf vs.toArray nn) := (N₁ _ (List.mem_append.mpr (.inr hl₁))).1
    have hsep : OwnOff [(s.heap.objs.size, oI)] (nx.map (·.1)) := by
      intro p hp b hb e
      obtain ⟨q, hq, rfl⟩ := List.mem_map.mp hb
      rw [List.mem_singleton.mp hp] at e
      exact hoff q hq (List.mem_singleton.mpr e.symm)
    have N₂ : News h₀ env.locals h₁ (nx ++ [(s.heap.objs.size, oI)]) := fun p hp => by
      rcases List.mem_append.mp hp with hp | hp
      · exact N₁ p (List.mem_append.mpr (.inr hp))
      · rw [List.mem_singleton.mp hp]; exact N₁ _ (List.mem_append.mpr (.inl hIm))
    refine wpAny_mono (turn i v m₁ nx h₁ tk₁ [(s.heap.objs.size, oI)] hP' hsep hl₁ hJ F₁ N₂) (fun _ s₂ x => wpAny_mono x (fun f s₃ p => ?_) fun _ _ e => e) fun _ _ e => e
    have fin : InvEndG h₀ env.locals (fun m' nx => (l, listOf vs.toArray nn) ∈ nx ∧ J (i + 1) m' nx) [(s.heap.objs.size, oI)] { s with heap := h₁, toks := tk₁ } s₃ →
        LoopStepU h₀ env.locals [s.heap.objs.size] own (fun m nx => (l, listOf vs.toArray nn) ∈ nx ∧ J (i + 1) m nx) { s with heap := h₁, toks := tk₁ } .next s₃ := by
      rintro ⟨h', tk, m', news', nx', e, F', N', hn, ho, ha, hm⟩
      refine ⟨rfl, h', tk, m', nx', e, F', fun p hp => ?_, fun p hp hq => ?_, hm⟩
      · rcases List.mem_append.mp hp with h | h
        · rcases List.mem_cons.mp (hown p h) with h2 | h2
          · have h3 : h₁.get? p.1 = some p.2 := hget p h
            rw [h2, hoI] at h3
            have h4 : p = (s.heap.objs.size, oI) := Prod.ext h2 (Option.some.inj h3).symm
            rw [h4]
            exact N' _ (ho _ (List.mem_singleton.mpr rfl))
          · have h3 : h₁.get? p.1 = some p.2 := hget p h
            rw [List.mem_singleton.mp h2, hlo] at h3
            have h4 : p = (l, listOf vs.toArray nn) := Prod.ext (List.mem_singleton.mp h2) (Option.some.inj h3).symm
            rw [h4]
            exact N' _ (hn _ hm.1)
        · exact N' p (hn p h)
      · exact ha _ (List.mem_singleton.mpr rfl) p.1 (List.mem_map.mpr ⟨p, hp, rfl⟩) (List.mem_singleton.mp hq).symm
    cases f with
    | ret v => exact p
    | brk => exact p
    | next => exact fin p
    | cont => exact fin p
  · rintro h' tk m' news' F' N' _ ⟨_, hJ⟩
    exact done m' news' h' tk hJ F' N'
/-- the same, where a turn leaves the ledger as it is and stores the names `ys` alone -/
theorem search_list {l : Addr} {vs : List Value} {nn : Nat} {m₀ : Str → Option Value} {news : List (Addr × Obj)} (ys : List Str) (P : Nat → Prop)
    (hh : A.handled = none) (hl : (l, listOf vs.toArray nn) ∈ news) (F : Fr h₀ env.locals s.heap m₀) (N : News h₀ env.locals s.heap news) (hp : P 0)
    (turn : ∀ i v (u : Str → Option Value) h tk own, vs[i]? = some v → OwnOff own (news.map (·.1)) → P i → Fr h₀ env.locals h (fun y => if ys.contains y then u y else m₀ y) → News h₀ env.locals h (news ++ own) →
      wpAny (model prog w) A (assign target env v) (fun _ s₃ => wpAny (model prog w) A (execs body env) (InvPostG h₀ env.locals (fun m' nx => nx = news ∧ (∀ y, ys.contains y = false → m' y = m₀ y) ∧ P (i + 1)) own { s with heap := h, toks := tk } Q) E s₃) E { s with heap := h, toks := tk })
    (done : ∀ (u : Str → Option Value) h tk, P vs.length → Fr h₀ env.locals h (fun y => if ys.contains y then u y else m₀ y) → News h₀ env.locals h news → Q .next { s with heap := h, toks := tk }) :
    wpAny (model prog w) A (pyIter (.ref l)) (fun it s₂ => TurnsAt prog w A h₀ env target body Q E it s₂) E s := by
  have ex : ∀ m : Str → Option Value, (∀ y, ys.contains y = false → m y = m₀ y) → m = fun y => if ys.contains y then m y else m₀ y := fun m hm => by
    funext y
    cases h : ys.contains y with
    | true => simp
    | false => simp [hm y h]
  refine turns_list (fun i m nx => nx = news ∧ (∀ y, ys.contains y = false → m y = m₀ y) ∧ P i) hh hl F N ⟨rfl, fun _ _ => rfl, hp⟩ ?_ ?_
  · rintro i v m₁ nx h tk own hv hoff _ ⟨rfl, hm, hP⟩ F₁ N₁
    rw [ex m₁ hm] at F₁
    refine wpAny_mono (turn i v m₁ h tk own hv hoff hP F₁ N₁) (fun _ s₃ x => wpAny_mono x (fun f s₄ p => ?_) fun _ _ e => e) fun _ _ e => e
    have up : InvEndG h₀ env.locals (fun m' nx' => nx' = nx ∧ (∀ y, ys.contains y = false → m' y = m₀ y) ∧ P (i + 1)) own { s with heap := h, toks := tk } s₄ →
        InvEndG h₀ env.locals (fun m' nx' => (l, listOf vs.toArray nn) ∈ nx' ∧ nx' = nx ∧ (∀ y, ys.contains y = false → m' y = m₀ y) ∧ P (i + 1)) own { s with heap := h, toks := tk } s₄ := by
      rintro ⟨h', tk', m', news', nx', e, F', N', hn, ho, ha, rfl, hr⟩
      exact ⟨h', tk', m', news', _, e, F', N', hn, ho, ha, hl, rfl, hr⟩
    cases f with
    | ret v => exact p
    | brk => exact p
    | next => exact up p
    | cont => exact up p
  · rintro m₁ nx h tk ⟨rfl, hm, hP⟩ F₁ N₁
    rw [ex m₁ hm] at F₁
    exact done m₁ h tk hP F₁ N₁
/-- the same, where a turn stores the names `ys` and turns a part of the ledger that a state c says -/
theorem fold_list {σ : Type} {l : Addr} {vs : List Value} {nn : Nat} {m₀ : Str → Option Value} (Led : σ → List (Addr × Obj)) (ys : List Str) (P : Nat → σ → Prop) (c₀ : σ)
    (hh : A.handled = none) (hl : ∀ c, (l, listOf vs.toArray nn) ∈ Led c) (F : Fr h₀ env.locals s.heap m₀) (N : News h₀ env.locals s.heap (Led c₀)) (hp : P 0 c₀)
    (turn : ∀ i v c (u : Str → Option Value) h tk own, vs[i]? = some v → OwnOff own ((Led c).map (·.1)) → P i c → Fr h₀ env.locals h (fun y => if ys.contains y then u y else m₀ y) → News h₀ env.locals h (Led c ++ own) →
      wpAny (model prog w) A (assign target env v) (fun _ s₃ => wpAny (model prog w) A (execs body env) (InvPostG h₀ env.locals (fun m' nx => (∃ c', nx = Led c' ∧ P (i + 1) c') ∧ ∀ y, ys.contains y = false → m' y = m₀ y) own { s with heap := h, toks := tk } Q) E s₃) E { s with heap := h, toks := tk })
    (done : ∀ c (u : Str → Option Value) h tk, P vs.length c → Fr h₀ env.locals h (fun y => if ys.contains y then u y else m₀ y) → News h₀ env.locals h (Led c) → Q .next { s with heap := h, toks := tk }) :
    wpAny (model prog w) A (pyIter (.ref l)) (fun it s₂ => TurnsAt prog w A h₀ env target body Q E it s₂) E s := by
  have ex : ∀ m : Str → Option Value, (∀ y, ys.contains y = false → m y = m₀ y) → m = fun y => if ys.contains y then m y else m₀ y := fun m hm => by
    funext y
    cases h : ys.contains y with
    | true => simp
    | false => simp [hm y h]
  refine turns_list (fun i m nx => (∃ c, nx = Led c ∧ P i c) ∧ ∀ y, ys.contains y = false → m y = m₀ y) hh (hl c₀) F N ⟨⟨c₀, rfl, hp⟩, fun _ _ => rfl⟩ ?_ ?_
  · rintro i v m₁ nx h tk own hv hoff _ ⟨⟨c, rfl, hP⟩, hm⟩ F₁ N₁
    rw [ex m₁ hm] at F₁
    refine wpAny_mono (turn i v c m₁ h tk own hv hoff hP F₁ N₁) (fun _ s₃ x => wpAny_mono x (fun f s₄ p => ?_) fun _ _ e => e) fun _ _ e => e
    have up : InvEndG h₀ env.locals (fun m' nx' => (∃ c', nx' = Led c' ∧ P (i + 1) c') ∧ ∀ y, ys.contains y = false → m' y = m₀ y) own { s with heap := h, toks := tk } s₄ →
        InvEndG h₀ env.locals (fun m' nx' => (l, listOf vs.toArray nn) ∈ nx' ∧ (∃ c', nx' = Led c' ∧ P (i + 1) c') ∧ ∀ y, ys.contains y = false → m' y = m₀ y) own { s with heap := h, toks := tk } s₄ := by
      rintro ⟨h', tk', m', news', nx', e, F', N', hn, ho, ha, ⟨c', rfl, hP'⟩, hr⟩
      exact ⟨h', tk', m', news', _, e, F', N', hn, ho, ha, hl c', ⟨c', rfl, hP'⟩, hr⟩
    cases f with
    | ret v => exact p
    | brk => exact p
    | next => exact up p
    | cont => exact up p
  · rintro m₁ nx h tk ⟨⟨c, rfl, hP⟩, hm⟩ F₁ N₁
    rw [ex m₁ hm] at F₁
    exact done c m₁ h tk hP F₁ N₁
end
/-- a page of the table: its path, its link, its names -/
structure Ent where
  page : Str
  link : Str
  names : List Str
/-- the rows of the table, as the ledger bears them: tuples of two texts -/
inductive TabIn (news : List (Addr × Obj)) : List Value → List Ent → Prop
  | nil : TabIn news [] []
  | cons {a : Addr} {t1 t2 : Tok} {n : Nat} {vs : List Value} {e : Ent} {T : List Ent} : (a, ({ cls := .type "tuple", data := .seq #[.str e.page t1, .str e.link t2] n } : Obj)) ∈ news → TabIn news vs T → TabIn news (.ref a :: vs) (e :: T)
theorem TabIn.mono {news news' : List (Addr × Obj)} (hs : ∀ p ∈ news, p ∈ news') {vs : List Value} {T : List Ent} (h : TabIn news vs T) : TabIn news' vs T := by
  induction h with
  | nil => exact .nil
  | cons hm _ ih => exact .cons (hs _ hm) ih
theorem TabIn.length {news : List (Addr × Obj)} {vs : List Value} {T : List Ent} (h : TabIn news vs T) : vs.length = T.length := by
  induction h with
  | nil => rfl
  | cons _ _ ih => simp [ih]
theorem TabIn.get {news : List (Addr × Obj)} {vs : List Value} {T : List Ent} (h : TabIn news vs T) : ∀ {i : Nat} {v : Value}, vs[i]? = some v →
    ∃ (e : Ent) (a : Addr) (t1 t2 : Tok) (n : Nat), T[i]? = some e ∧ v = .ref a ∧ (a, ({ cls := .type "tuple", data := .seq #[.str e.page t1, .str e.link t2] n } : Obj)) ∈ news := by
  induction h with
  | nil => intro i v hv; simp at hv
  | @cons a t1 t2 n vs e T hm _ ih =>
    intro i v hv
    cases i with
    | zero => simp at hv; exact ⟨e, a, t1, t2, n, rfl, hv.symm, hm⟩
    | succ i => exact ih (by simpa using hv)
theorem TabIn.snoc {news : List (Addr × Obj)} {vs : List Value} {T : List Ent} {e : Ent} {a : Addr} {t1 t2 : Tok} {n : Nat} (h : TabIn news vs T) (hm : (a, ({ cls := .type "tuple", data := .seq #[.str e.page t1, .str e.link t2] n } : Obj)) ∈ news) : TabIn news (vs ++ [.ref a]) (T ++ [e]) := by
  induction h with
  | nil => exact .cons hm .nil
  | cons h1 _ ih => exact .cons h1 ih
/-- the first link whose page is the key, small letters alike -/
def look (T : List Ent) (key : Str) : Option Str := (T.find? fun e => Txt.lower e.page == key).map (·.link)
theorem look_hit {T : List Ent} {key : Str} {i : Nat} {e : Ent} (hi : T[i]? = some e) (hn : ∀ x ∈ T.take i, (Txt.lower x.page == key) = false) (hk : (Txt.lower e.page == key) = true) : look T key = some e.link := by
  induction T generalizing i with
  | nil => simp at hi
  | cons x T ih =>
    cases i with
    | zero => simp at hi; subst hi; simp [look, hk]
    | succ i =>
      have h0 := hn x (by simp)
      have := ih (i := i) (by simpa using hi) (fun y hy => hn y (by simp [hy]))
      unfold look at this ⊢
      rw [List.find?_cons, h0]
      exact this
theorem look_miss {T : List Ent} {key : Str} (hn : ∀ x ∈ T, (Txt.lower x.page == key) = false) : look T key = none := by
  unfold look
  rw [List.find?_eq_none.mpr fun x hx => by simp [hn x hx]]
  rfl
end Mine
end
section
open PySem PySem.W PyProof.Rows PySem.Spec PySem.Calls
namespace Mine
local macro_rules | `(tactic| walk_at $s:str) => `(tactic| k_extra $s)
/-- what `_convert_string_type` does with one text -/
abbrev Conv (w : World) (nm : Bool) (x : Str) : Prop :=
  ∀ (b : Addr) (t : Tok) (fr : List Env) (s : Shared) (Q E : Value → Shared → Prop), (Mine.fr.heap_1 w.params).In s.heap →
    (∀ (h' : Heap) (t' : Tok) (tk' : Nat), (∀ b o, s.heap.get? b = some o → h'.get? b = some o) → Q (.str x t') { s with heap := h', toks := tk' }) →
    wpAny (model PySem.Challenge.rw_pd0177_01.row.prog w) { handled := none, depth := 950, frames := some fr, guards := none, units := 9500 } (call (.ref 199) [.ref b, .str x t] [(Str.ofString "name", .bool nm)]) Q E s
theorem Conv.use {w : World} {nm : Bool} {x : Str} (C : Conv w nm x) {A : Around} {fr : List Env} {b : Addr} {t : Tok} {h₀ : Heap} {L : Addr} {m : Str → Option Value} {s : Shared} {Q E : Value → Shared → Prop} {news : List (Addr × Obj)}
    (kh : A.handled = none) (kf : A.frames = some fr) (kd : A.depth ≤ 950) (ku : A.units ≤ 9500) (F : Fr h₀ L s.heap m) (X : (Mine.fr.heap_1 w.params).In h₀) (N : News h₀ L s.heap news)
    (ret : ∀ (t' : Tok) (h' : Heap) (tk' : Nat), Fr h₀ L h' m → News h₀ L h' news → Q (.str x t') { s with heap := h', toks := tk' }) :
    wpAny (model PySem.Challenge.rw_pd0177_01.row.prog w) A (call (.ref 199) [.ref b, .str x t] [(Str.ofString "name", .bool nm)]) Q E s :=
  wpAny_le (A' := { handled := none, depth := 950, frames := some fr, guards := none, units := 9500 }) kh kd (fun _ e => kf.trans e) (fun _ e => nomatch e) ku
    (C b t fr s Q E (X.keeps F.keep) fun h' t' tk' k => ret t' h' tk' (fr_grown F k) (news_grown N k))
noncomputable abbrev hdrObj (w : World) (tk : Tok) (hl : Addr) : Obj := dictOf [{ hash := PyData.keyHash w.params (Str.ofString "_headers"), key := .str (Str.ofString "_headers") tk, val := .ref hl }] 1
def GetR (T : List Ent) (key : Str) (v : Value) : Prop := (look T key = none ∧ v = .none) ∨ ∃ l t, look T key = some l ∧ v = .str l t
theorem mem_take_succ {α : Type} {T : List α} {i : Nat} {e x : α} (hi : T[i]? = some e) (hx : x ∈ T.take (i + 1)) : x ∈ T.take i ∨ x = e := by
  rw [List.take_add_one, hi] at hx
  simpa using hx
theorem not_two {a b y : Str} (h : [a, b].contains y = false) : y ≠ a ∧ y ≠ b := by
  simp only [List.contains_cons, List.contains_nil, Bool.or_false, Bool.or_eq_false_iff, beq_eq_false_iff_ne] at h
  exact h
theorem get_c (w : World) (P : Str) (t tq : Tok) (x dd hl : Addr) (items : List Value) (n : Nat) (T : List Ent) (rest : List (Addr × Obj)) (hP : P.length ≤ 100) (hc : Conv w true (Txt.lower P)) (hT : TabIn rest items T) (hB : ∀ e ∈ T, e.page.length ≤ 100)
   (mean : ExcName → Option Value) (mg mb : Str → Option Value) (gd : Option (List Code)) (cn : Str) (nms) (ig ic) (mo) (a : Addr) (ccd : Value) (cl : List (Str × Addr)) (outer : List Env) (A₀ : Around) (base h₀ : Heap) (L : Addr) (m : Str → Option Value) (s : Shared) (Q E : Value → Shared → Prop)
    (B : Below A₀ base outer h₀) (F : Fr h₀ L s.heap m) (KX : (Mine.fr.heap_1 w.params).In h₀) (N : News h₀ L s.heap ((x, instObj 300 dd) :: (dd, hdrObj w tq hl) :: (hl, listOf items.toArray n) :: rest)) (TT : Top Mine.q loose mean mg mb h₀)
    (hret : ∀ (v : Value) (h' : Heap) (tk' : Nat), GetR T (Txt.lower P) v → Fr h₀ L h' m → News h₀ L h' ((x, instObj 300 dd) :: (dd, hdrObj w tq hl) :: (hl, listOf items.toArray n) :: rest) → Q v { s with heap := h', toks := tk' }) :
      wpAny (model PySem.Challenge.rw_pd0177_01.row.prog w) (ktrTop 800 8000 gd cn ⟨.function, nms, ig, ic, mo⟩ L a ccd cl outer) (call (.ref 247) [.ref x, .str P t]) Q E s := by
  k_with_none
  k_with "call ref" => (k_here; (with_reducible show wpAny _ _ (call (Value.ref 199) [Value.ref _, Value.str _ _] _) _ _ _); k_dflt (first | (refine' Conv.use (nm := true) (by assumption) (by exact rfl) (by exact rfl) (by exact Nat.le_of_ble_eq_true rfl) (by exact Nat.le_of_ble_eq_true rfl) (by k_asm) (by k_asm) (by k_asm) ?_; k_whole; (intro t9 h9 tk9 F9 N9); (try dsimp only); (try k_fold)) | (refine' Conv.use (nm := false) (by assumption) (by exact rfl) (by exact rfl) (by exact Nat.le_of_ble_eq_true rfl) (by exact Nat.le_of_ble_eq_true rfl) (by k_asm) (by k_asm) (by k_asm) ?_; k_whole; (intro t9 h9 tk9 F9 N9); (try dsimp only); (try k_fold))))
  k_with "exec For Tuple Attribute cons nil" => (k_here; (rename Fr _ _ _ _ => lF'); (with_unfolding_all refine' For_turns lF' ?_; k_whole))
  revert KX; k_fill; intro KX
  refine wpAny_call ?_
  k_dflt k_enter
  k_steps
  (rename Fr _ _ _ _ => lF'); (rename News _ _ _ _ => lN')
  refine' search_list [Str.ofString "k", Str.ofString "v"] (fun i => ∀ e ∈ T.take i, (Txt.lower e.page == Txt.lower P) = false) rfl ?hl lF' lN' ?h0 ?turn ?done
  case hl => exact List.Mem.tail _ (List.Mem.tail _ (List.Mem.head _))
  case h0 => intro e he; simp at he
  case turn =>
    intro i v u h tk2 own hv hoff hno F1 N1
    obtain ⟨e, a1, t1, t2, n1, hTi, rfl, hm⟩ := hT.get hv
    have hle : e.page.length ≤ 100 := hB e (List.mem_of_getElem? hTi)
    simp only [List.cons_append] at N1
    have N2 : News _ _ h ((a1, ({ cls := .type "tuple", data := .seq #[.str e.page t1, .str e.link t2] n1 } : Obj)) :: _) := fun p hp => (List.mem_cons.mp hp).elim (fun h9 => N1 p (by rw [h9]; exact List.Mem.tail _ (List.Mem.tail _ (List.Mem.tail _ (List.mem_append_left _ hm))))) (fun h9 => N1 p h9)
    clear N1 lN' lF'
    k_steps
    · refine hret _ _ _ (Or.inr ⟨_, _, look_hit hTi hno (by assumption), rfl⟩) (by assumption) (cb_drop (by assumption) fun p hp => List.mem_cons_of_mem _ (List.mem_append_left own hp))
    · refine InvEndG.intro (by assumption) (by assumption) ⟨rfl, fun y hy => ?_, fun e' he' => ?_⟩ hoff (fun p hp => List.mem_cons_of_mem _ (List.mem_append_left own hp)) (fun p hp => List.mem_cons_of_mem _ (List.mem_append_right ((x, instObj 300 dd) :: (dd, hdrObj w tq hl) :: (hl, listOf items.toArray n) :: rest) hp))
      · obtain ⟨h1, h2⟩ := not_two hy
        simp only [if_neg h1, if_neg h2, hy, Bool.false_eq_true, if_false]
      · rcases mem_take_succ hTi he' with h1 | rfl
        · exact hno _ h1
        · assumption
  case done =>
    intro u h tk2 hno F1 N1
    clear lN' lF'
    k_steps
    refine hret _ _ _ (Or.inl ⟨look_miss fun e he => hno e ?_, rfl⟩) (by assumption) (by assumption)
    rw [hT.length, List.take_length]; exact he
end Mine
end
section
open PySem PySem.W PyProof.Rows PySem.Spec PySem.Calls
namespace Mine
open PyProof.Rows.LCg
section
variable {prog : Program} {w : World} {A : Around} {E : Value → Shared → Prop} {s : Shared} {h₀ : Heap} {L : Addr} {m : Str → Option Value} {env : Env}
/-- the tests of a comprehension's clause -/
abbrev testsOf (ifs : List Expr) (env : Env) : Sem Bool := forIn ifs true fun c r => if r = true then do let ok ← isTrue c env (eval c env); pure (ForInStep.yield ok) else pure (ForInStep.yield r)
theorem loop_any {elt target iter : Expr} {ifs : List Expr} {scope : Scope} {pos : Pos} {it acc : Value} {env : Env} {R : Result → Shared → Prop} (I : Nat → Shared → Prop)
    (turn : ∀ n s, I n s → wpAny (model prog w) A (pyNext it) (fun r s₁ => match r with
      | none => R (.ok .next) s₁
      | some v => wpAny (model prog w) A (letOwnedTupleGo target it v) (fun _ s₁' => wpAny (model prog w) A (assign target env v) (fun _ s₂ =>
          wpAny (model prog w) A (testsOf ifs env) (fun ok s₃ =>
            if ok = true then wpAny (model prog w) A (eval elt env) (fun x s₄ => wpAny (model prog w) A (call (.builtin "list.append") [acc, x]) (fun _ s₅ => ∃ k, k < n ∧ I k s₅) (notedBy (model prog w) A env fun e s' => R (.error e) s') s₄) (notedBy (model prog w) A env fun e s' => R (.error e) s') s₃
            else ∃ k, k < n ∧ I k s₃) (notedBy (model prog w) A env fun e s' => R (.error e) s') s₂) (notedBy (model prog w) A env fun e s' => R (.error e) s') s₁') (notedBy (model prog w) A env fun e s' => R (.error e) s') s₁) (notedBy (model prog w) A env fun e s' => R (.error e) s') s)
    (n : Nat) (h : I n s) : codeAny (model prog w) A (.compLoop (.ListComp elt [⟨target, iter, ifs, 0⟩] scope pos) 0 it acc env) R s := by
  refine codeAny_loop rfl I (fun n s hI => ?_) n h
  show wpAny _ A ((compTurn (.ListComp elt [⟨target, iter, ifs, 0⟩] scope pos) 0 it acc env).onRaise (fun x => do noteFrame x env; theTreesLotGoes x)) _ _ s
  refine wpAny_noted ?_
  rw [compTurn_list]
  refine wpAny_bind (wpAny_standAt (wpAny_bind (wpAny_mono (turn n s hI) (fun r s₁ h₁ => ?_) fun _ _ h' => h')))
  cases r with
  | none => exact wpAny_pure h₁
  | some v =>
    refine wpAny_bind (wpAny_mono h₁ (fun _ s₁' h₁' => ?_) fun _ _ h' => h')
    refine wpAny_bind (wpAny_mono h₁' (fun _ s₂ h₂ => wpAny_bind (wpAny_mono h₂ (fun ok s₃ h₃ => ?_) fun _ _ h' => h')) fun _ _ h' => h')
    cases ok with
    | false => exact wpAny_pure ⟨rfl, h₃⟩
    | true => exact wpAny_bind (wpAny_bind (wpAny_mono h₃ (fun x s₄ h₄ => wpAny_bind (wpAny_mono h₄ (fun _ s₅ h₅ => wpAny_pure (wpAny_pure ⟨rfl, h₅⟩)) fun _ _ h' => h')) fun _ _ h' => h'))
/-- a turn's end: the frame, the comprehension's three objects and the ledger stand -/
def CEnd (h₀ : Heap) (L : Addr) (m : Str → Option Value) (s₁ : Shared) (led : List (Addr × Obj)) (s₂ : Shared) : Prop :=
  ∃ h' tk, s₂ = { s₁ with heap := h', toks := tk } ∧ Fr h₀ L h' m ∧ News h₀ L h' led
/-- a list comprehension over a list of the ledger: J says what is gathered, upd what a turn binds -/
def CompG (prog : Program) (w : World) (A : Around) (h₀ : Heap) (L : Addr) (m : Str → Option Value) (mf : Addr → Str → Option Value) (env : Env) (elt target : Expr) (ifs : List Expr) (scope : Scope) (cl : List (Str × Addr)) (Q : Value → Shared → Prop) (xv : Value) (s₁ : Shared) : Prop :=
  ∃ (ax : Addr) (its : List Value) (nn : Nat) (news : List (Addr × Obj)) (J : Nat → List Value → Prop) (upd : Nat → (Str → Option Value) → Str → Option Value),
    xv = .ref ax ∧ A.handled = none ∧ Fr h₀ L s₁.heap m ∧ News h₀ L s₁.heap news ∧ (ax, listOf its.toArray nn) ∈ news ∧ its.length ≤ sizeLine ∧ J 0 [] ∧
    (∀ i v C m' (s' : Shared) (Q' : Unit → Shared → Prop) (E' : Value → Shared → Prop), its[i]? = some v → (∀ p ∈ news, s'.heap.get? p.1 = some p.2) → s'.heap.Ns C m' →
      (∀ h' tk', (∀ b o, b ≠ C → s'.heap.get? b = some o → h'.get? b = some o) → h'.Ns C (upd i m') → Q' () { s' with heap := h', toks := tk' }) → wpAny (model prog w) A (assign target (compEnvC scope cl C env) v) Q' E' s') ∧
    (∀ i v ys I oI C oC D m' h tk (E' : Value → Shared → Prop), its[i]? = some v → J i ys → NsObj oC (upd i m') → Fr h₀ L h m → News h₀ L h ((I, oI) :: (C, oC) :: (D, lst ys) :: news) → Off3 I C D news → ((@Ne Nat I C) ∧ (@Ne Nat I D) ∧ (@Ne Nat C D)) →
      wpAny (model prog w) A (testsOf ifs (compEnvC scope cl C env)) (fun ok s₃ => if ok = true then wpAny (model prog w) A (eval elt (compEnvC scope cl C env)) (fun y s₄ => CEnd h₀ L m { s₁ with heap := h, toks := tk } ((I, oI) :: (C, oC) :: (D, lst ys) :: news) s₄ ∧ J (i + 1) (ys ++ [y])) E' s₃
        else CEnd h₀ L m { s₁ with heap := h, toks := tk } ((I, oI) :: (C, oC) :: (D, lst ys) :: news) s₃ ∧ J (i + 1) ys) E' { s₁ with heap := h, toks := tk }) ∧
    (∀ D h tk ys, J its.length ys → Fr h₀ L h (mf D) → News h₀ L h ((D, lst ys) :: news) → Off1 D news → Q (.ref D) { s₁ with heap := h, toks := tk })
abbrev CompA (prog : Program) (w : World) (A : Around) (h₀ : Heap) (L : Addr) (m : Str → Option Value) (env : Env) (elt target : Expr) (ifs : List Expr) (scope : Scope) (cl : List (Str × Addr)) (Q : Value → Shared → Prop) (xv : Value) (s₁ : Shared) : Prop := CompG prog w A h₀ L m (fun _ => m) env elt target ifs scope cl Q xv s₁
/-- the loop of a comprehension, whatever is done with what it has gathered -/
theorem comp_core {elt target iter : Expr} {ifs : List Expr} {scope : Scope} {cl : List (Str × Addr)} {pos : Pos} {use : Option (Value → Sem Unit)} {Q' : Value → Shared → Prop} {mf : Addr → Str → Option Value} {Q : Value → Shared → Prop} {xv : Value} {s₁ : Shared}
    (hcell : ∀ y ∈ scope.names, y.2 ≠ .cell) (hkind : scope.kind = .function) (h₁ : CompG prog w A h₀ L m mf env elt target ifs scope cl Q xv s₁)
    (post : ∀ (D C : Addr) m' h tk, Fr h₀ L h m → h.Ns C m' → h₀.get? C = none → C ≠ L → C ≠ D → h₀.get? D = none → D ≠ L → (∀ news (ys : List Value), News h₀ L h ((D, lst ys) :: news) → (∀ p ∈ news, p.1 ≠ C) → (∀ h'' tk'', Fr h₀ L h'' (mf D) → News h₀ L h'' ((D, lst ys) :: news) → Q (.ref D) { s₁ with heap := h'', toks := tk'' }) → compPost (model prog w) A E use Q' (.ref D) C (.ok .next) { s₁ with heap := h, toks := tk })) :
    wpAny (model prog w) A (pyIter xv) (fun it s₂ => wpAny (model prog w) A (newList []) (fun acc s₃ =>
      wpAny (model prog w) A (newFunctionEnv scope env.globals cl [] env.qual none .none (some env)) (fun cenv s₄ =>
        codeAny (model prog w) A (.compStart (.ListComp elt [⟨target, iter, ifs, 0⟩] scope pos) 0 it acc { cenv with scope := relabel scope env }) (compPost (model prog w) A E use Q' acc cenv.locals) s₄) E s₃) E s₂) E s₁ := by
  obtain ⟨ax, its, nn, news, J, upd, rfl, hh, F, N, hax, hsz, hJ0, asg, turn, fin⟩ := h₁
  have hol : s₁.heap.get? ax = some (listOf its.toArray nn) := (N _ hax).1
  have hls : s₁.heap.IsList ax its.toArray := ⟨_, hol, rfl, nn, rfl⟩
  have hlt : ax < s₁.heap.objs.size := Heap.lt_size hol
  have hne : ax ≠ s₁.heap.objs.size := Nat.ne_of_lt hlt
  refine wpAny_pyIter_list hls ?_
  obtain ⟨I, hI⟩ : ∃ I : Nat, s₁.heap.objs.size = I := ⟨_, rfl⟩
  rw [hI] at hlt hne ⊢
  have up : ∀ b o, s₁.heap.get? b = some o → (s₁.heap.push { cls := .type "list_iterator", data := .fields #[.ref ax, .int 0 0] }).get? b = some o := fun b o e => Heap.get?_push_of_some _ e
  have hIo : (s₁.heap.push { cls := .type "list_iterator", data := .fields #[.ref ax, .int 0 0] }).get? I = some { cls := .type "list_iterator", data := .fields #[.ref ax, .int 0 0] } := hI ▸ Heap.get?_push_size _ rfl
  have hsI : (s₁.heap.push { cls := .type "list_iterator", data := .fields #[.ref ax, .int 0 0] }).objs.size = I + 1 := by rw [Heap.size_push, hI]
  generalize hg : s₁.heap.push { cls := .type "list_iterator", data := .fields #[.ref ax, .int 0 0] } = g at up hIo hsI ⊢
  refine wpAny_newObj_type (wpAny_newFunctionEnv hcell (by intro y hy; simp at hy) (fun h₁ hns₁ hsb₁ => ?_) hkind)
  dsimp only at hns₁ hsb₁ ⊢
  generalize hH2 : g.push { cls := .type "list", dict := none, data := .seq ([] : List Value).toArray } = H2 at hns₁ hsb₁ ⊢
  have hC : H2.objs.size = I + 2 := by rw [← hH2, Heap.size_push, hsI]
  rw [hsI]
  rw [hC] at hns₁ hsb₁ ⊢
  have lt1 : ∀ b : Nat, b < I → b ≠ I ∧ b ≠ I + 1 ∧ b ≠ I + 2 := fun b hb => ⟨by omega, by omega, by omega⟩
  have l01 : (I : Nat) ≠ I + 1 := by omega
  have l02 : (I : Nat) ≠ I + 2 := by omega
  have l12 : (I + 1 : Nat) ≠ I + 2 := by omega
  have old : ∀ b o, s₁.heap.get? b = some o → h₁.get? b = some o := fun b o e =>
    hsb₁.extBut b o (lt1 b (hI ▸ Heap.lt_size e)).2.2 (Heap.get?_push_of_some _ (hH2 ▸ Heap.get?_push_of_some _ (up b o e)))
  have hI₁ : h₁.get? I = some { cls := .type "list_iterator", data := .fields #[.ref ax, .int 0 0] } := hsb₁.extBut _ _ l02 (Heap.get?_push_of_some _ (hH2 ▸ Heap.get?_push_of_some _ hIo))
  have hD₁ : h₁.get? (I + 1) = some (lst []) := hsb₁.extBut _ _ l12 (Heap.get?_push_of_some _ (hH2 ▸ hsI ▸ Heap.get?_push_size _ rfl))
  have new₀ : ∀ b : Nat, I ≤ b → h₀.get? b = none := fun b hb => by
    cases e : h₀.get? b with
    | none => rfl
    | some o => exact absurd (Heap.lt_size (F.keep b o e)) (by rw [hI]; exact Nat.not_lt.mpr hb)
  have hLlt : @LT.lt Nat _ L I := hI ▸ F.ns.lt
  have newsLt : ∀ p ∈ news, @LT.lt Nat _ p.1 I := fun p hp => hI ▸ Heap.lt_size (N p hp).1
  have off : Off3 I (I + 2) (I + 1) news := Off3.of fun p hp => ⟨(lt1 _ (newsLt p hp)).1, (lt1 _ (newsLt p hp)).2.2, (lt1 _ (newsLt p hp)).2.1⟩
  have W := Walks.list (prog := prog) (w := w) hh I ax hne its.toArray
  have hlen : its.toArray.size = its.length := by simp
  rw [hlen] at W
  have loop : codeAny (model prog w) A (.compLoop (.ListComp elt [⟨target, iter, ifs, 0⟩] scope pos) 0 (.ref I) (.ref (I + 1)) (compEnvC scope cl (I + 2) env))
      (compPost (model prog w) A E use Q' (.ref (I + 1)) (I + 2)) { s₁ with heap := h₁, toks := s₁.toks + ([] : List (Str × Value)).length } := by
    refine loop_any (fun k s' => ∃ h' tk i ys m', s' = { s₁ with heap := h', toks := tk } ∧ i ≤ its.length ∧ k = its.length + 1 - i ∧ ys.length ≤ i ∧ (h'.IsListIter I ax i ∧ h'.IsList ax its.toArray) ∧ Fr h₀ L h' m ∧ h'.Ns (I + 2) m' ∧ News h₀ L h' ((I + 1, lst ys) :: news) ∧ J i ys) ?_ (its.length + 1)
      ⟨h₁, _, 0, [], _, rfl, Nat.zero_le _, rfl, Nat.le_refl _, ⟨⟨_, hI₁, rfl, rfl⟩, hls.at fun o e => old _ o e⟩, F.keeps old, hns₁, fun p hp => ?_, hJ0⟩
    · rintro k s' ⟨h', tk, i, ys, m', rfl, hi, rfl, hyl, hst', F', hn', N', hJ⟩
      have N'' : ∀ p ∈ news, h'.get? p.1 = some p.2 := fun p hp => (N' p (List.mem_cons_of_mem _ hp)).1
      by_cases hlt' : i < its.length
      · refine W.item i _ _ _ hlt' hst' fun v h₂ tk₂ hPv hst₂ hk₂ => ?_
        have hv : its[i]? = some v := by simpa using hPv
        have k2 : ∀ b o, b ≠ I → h'.get? b = some o → h₂.get? b = some o := fun b o hb e => hk₂ b o (by simpa using hb) e
        refine letGo_listiter hst₂.1 ?_
        refine asg i v (I + 2) _ _ _ _ hv (fun p hp => k2 _ _ (lt1 _ (newsLt p hp)).1 (N'' p hp)) (hn'.at' fun o e => k2 _ o (Ne.symm l02) e) fun h₃ tk₃ k3 hn₃ => ?_
        have k23 : ∀ (b : Nat) o, b < I → h'.get? b = some o → h₃.get? b = some o := fun b o hb e => k3 b o (lt1 b hb).2.2 (k2 b o (lt1 b hb).1 e)
        obtain ⟨oI, heI, _⟩ := hst₂.1
        have heI₃ := k3 I oI l02 heI
        obtain ⟨oC, heC, hoC⟩ := ns_obj hn₃
        have F₃ : Fr h₀ L h₃ m := ⟨F'.ns.at' fun o e => k23 L o hLlt e, fun b o e => k23 b o (by
          cases hb : decide (@LT.lt Nat _ b I) with
          | true => exact of_decide_eq_true hb
          | false => rw [new₀ b (Nat.not_lt.mp (of_decide_eq_false hb))] at e; cases e) (F'.keep b o e), F'.above⟩
        have hDs : h₃.get? (I + 1) = some (lst ys) := k3 _ _ l12 (k2 _ _ (Ne.symm l01) (N' _ List.mem_cons_self).1)
        have N₃ : News h₀ L h₃ ((I, oI) :: (I + 2, oC) :: (I + 1, lst ys) :: news) := fun p hp => by
          rcases List.mem_cons.mp hp with rfl | hp
          · exact ⟨heI₃, Ne.symm (lt1 L hLlt).1, new₀ _ (Nat.le_refl _)⟩
          · rcases List.mem_cons.mp hp with rfl | hp
            · exact ⟨heC, Ne.symm (lt1 L hLlt).2.2, new₀ _ (Nat.le_add_right I 2)⟩
            · rcases List.mem_cons.mp hp with rfl | hp
              · exact ⟨hDs, Ne.symm (lt1 L hLlt).2.1, new₀ _ (Nat.le_add_right I 1)⟩
              · exact ⟨k23 _ _ (newsLt p hp) (N'' p hp), (N p hp).2⟩
        refine wpAny_mono (turn i v ys I oI (I + 2) oC (I + 1) m' h₃ tk₃ _ hv hJ hoC F₃ N₃ off ⟨l02, l01, Ne.symm l12⟩) (fun ok s₄ h₄ => ?_) fun _ _ e => e
        have next : ∀ h₅ : Heap, News h₀ L h₅ ((I, oI) :: (I + 2, oC) :: (I + 1, lst ys) :: news) → (h₅.IsListIter I ax (i + 1) ∧ h₅.IsList ax its.toArray) := fun h₅ N₅ =>
          ⟨by
            have z := (N₅ (I, oI) List.mem_cons_self).1
            obtain ⟨o', e', r'⟩ := hst₂.1
            rw [heI] at e'
            cases e'
            exact ⟨oI, z, r'⟩, ⟨_, (N₅ _ (List.mem_cons_of_mem _ (List.mem_cons_of_mem _ (List.mem_cons_of_mem _ hax)))).1, rfl, nn, rfl⟩⟩
        cases ok with
        | true =>
          simp only [if_true] at h₄ ⊢
          refine wpAny_mono h₄ (fun y s₅ h₅ => ?_) fun _ _ e => e
          obtain ⟨⟨h₅, tk₅, rfl, F₅, N₅⟩, hJ₅⟩ := h₅
          have zD := (N₅ (I + 1, lst ys) (List.mem_cons_of_mem _ (List.mem_cons_of_mem _ List.mem_cons_self))).1
          have zC := (N₅ (I + 2, oC) (List.mem_cons_of_mem _ List.mem_cons_self)).1
          refine append_at (hsz := by show ys.toArray.size ≤ sizeLine; rw [List.size_toArray]; exact Nat.le_trans (Nat.le_trans hyl hi) hsz) zD fun h₆ hs₆ hD₆ => ?_
          have nx := next h₅ N₅
          refine ⟨its.length + 1 - (i + 1), by omega, h₆, tk₅, i + 1, ys ++ [y], _, rfl, hlt', rfl, by rw [List.length_append, List.length_singleton]; omega, ⟨nx.1.at fun o e => hs₆.extBut _ _ l01 e, nx.2.at fun o e => hs₆.extBut _ _ (lt1 ax hlt).2.1 e⟩,
            F₅.change hs₆ (Ne.symm (lt1 L hLlt).2.1) (new₀ _ (Nat.le_add_right I 1)), (hoC.ns zC).sameBut hs₆ (Ne.symm l12), fun p hp => ?_, hJ₅⟩
          rcases List.mem_cons.mp hp with rfl | hp
          · exact ⟨hD₆.trans (congrArg some (lst_snoc ys y)), Ne.symm (lt1 L hLlt).2.1, new₀ _ (Nat.le_add_right I 1)⟩
          · have z := N₅ p (List.mem_cons_of_mem _ (List.mem_cons_of_mem _ (List.mem_cons_of_mem _ hp)))
            exact ⟨hs₆.extBut _ _ (lt1 _ (newsLt p hp)).2.1 z.1, z.2⟩
        | false =>
          simp only [Bool.false_eq_true, if_false] at h₄ ⊢
          obtain ⟨⟨h₅, tk₅, rfl, F₅, N₅⟩, hJ₅⟩ := h₄
          have zC := (N₅ (I + 2, oC) (List.mem_cons_of_mem _ List.mem_cons_self)).1
          exact ⟨its.length + 1 - (i + 1), by omega, h₅, tk₅, i + 1, ys, _, rfl, hlt', rfl, by omega, next h₅ N₅, F₅, hoC.ns zC, fun p hp => by
            rcases List.mem_cons.mp hp with rfl | hp
            · exact N₅ _ (List.mem_cons_of_mem _ (List.mem_cons_of_mem _ List.mem_cons_self))
            · exact N₅ p (List.mem_cons_of_mem _ (List.mem_cons_of_mem _ (List.mem_cons_of_mem _ hp))), hJ₅⟩
      · obtain rfl : i = its.length := Nat.le_antisymm hi (Nat.not_lt.mp hlt')
        refine W.done _ _ _ hst' fun h₂ tk₂ hk₂ => ?_
        have k2 : ∀ b o, b ≠ I → h'.get? b = some o → h₂.get? b = some o := fun b o hb e => hk₂ b o (by simpa using hb) e
        have F₂ : Fr h₀ L h₂ m := ⟨F'.ns.at' fun o e => k2 L o (lt1 L hLlt).1 e, fun b o e => k2 b o (lt1 b (by
            cases hb : decide (@LT.lt Nat _ b I) with
            | true => exact of_decide_eq_true hb
            | false => rw [new₀ b (Nat.not_lt.mp (of_decide_eq_false hb))] at e; cases e)).1 (F'.keep b o e), F'.above⟩
        refine post (I + 1) (I + 2) m' h₂ tk₂ F₂ (hn'.at' fun o e => k2 _ o (Ne.symm l02) e) (new₀ _ (Nat.le_add_right I 2)) (Ne.symm (lt1 L hLlt).2.2) (Ne.symm l12) (new₀ _ (Nat.le_add_right I 1)) (Ne.symm (lt1 L hLlt).2.1) news ys (fun p hp => ?_) (fun p hp => (lt1 _ (newsLt p hp)).2.2) (fun h'' tk'' F'' N₃ => fin (I + 1) h'' tk'' ys hJ F'' N₃ off.one)
        rcases List.mem_cons.mp hp with rfl | hp
        · exact ⟨k2 _ _ (Ne.symm l01) (N' _ List.mem_cons_self).1, (N' _ List.mem_cons_self).2⟩
        · exact ⟨k2 _ _ (lt1 _ (newsLt p hp)).1 (N'' p hp), (N p hp).2⟩
    · rcases List.mem_cons.mp hp with rfl | hp
      · exact ⟨hD₁, Ne.symm (lt1 L hLlt).2.1, new₀ _ (Nat.le_add_right I 1)⟩
      · exact ⟨old _ _ (N p hp).1, (N p hp).2⟩
  exact codeAny_compStart_list loop (W.self 0 _ _ _ ⟨⟨_, hI₁, rfl, rfl⟩, hls.at fun o e => old _ o e⟩ loop)
theorem comp_any {elt target iter : Expr} {ifs : List Expr} {scope : Scope} {cl : List (Str × Addr)} {pos : Pos} {Q : Value → Shared → Prop} (F₀ : Fr h₀ L s.heap m)
    (hclos : closureFor scope env = pure cl) (hcell : ∀ y ∈ scope.names, y.2 ≠ .cell) (hkind : scope.kind = .function)
    (hnames : ∀ y ∈ scope.names, y.2 = .local → scope.names.lookup y.1 = some .local)
    (h : wpAny (model prog w) A (eval iter env) (CompA prog w A h₀ L m env elt target ifs scope cl Q) E s)
    (hs : ∀ x, foldedSetIterable iter env x = pure x := by intro _; rfl) :
    wpAny (model prog w) A (eval (.ListComp elt [⟨target, iter, ifs, 0⟩] scope pos) env) Q E s := by
  rw [eval_ListComp]
  refine wpAny_comprehension_free (use := none) rfl hs hclos hkind hnames (wpAny_mono h (fun xv s₁ h₁ => ?_) fun _ _ e => e)
  refine comp_core hcell hkind h₁ fun D C m' h tk F hn hC hCL hCD hD hDL news ys N off fin => ?_
  refine ⟨m', hn, fun h'' hs'' => fin h'' tk ⟨F.ns.at' fun o e => hs''.extBut _ o (Ne.symm hCL) e, fun b o e => hs''.extBut b o (fun hb => by rw [hb, hC] at e; cases e) (F.keep b o e), F.above⟩ fun p hp => ?_⟩
  rcases List.mem_cons.mp hp with rfl | hp
  · exact ⟨hs''.extBut _ _ (Ne.symm hCD) (N _ List.mem_cons_self).1, (N _ List.mem_cons_self).2⟩
  · exact ⟨hs''.extBut _ _ (off p hp) (N _ (List.mem_cons_of_mem _ hp)).1, (N _ (List.mem_cons_of_mem _ hp)).2⟩
/-- `y = [.. for ..]`, where the store comes before the comprehension's names are let go -/
theorem assign_comp {elt target iter : Expr} {ifs : List Expr} {y : Str} {py : Pos} {scope : Scope} {cl : List (Str × Addr)} {pos spos : Pos} {Q : Flow → Shared → Prop} (F₀ : Fr h₀ L s.heap m) (hLe : env.locals = L)
    (hsw : swapsWith (.ListComp elt [⟨target, iter, ifs, 0⟩] scope pos) (some (.Name y py)) spos.line env = pure true)
    (hclos : closureFor scope env = pure cl) (hcell : ∀ z ∈ scope.names, z.2 ≠ .cell) (hkind : scope.kind = .function)
    (hnames : ∀ z ∈ scope.names, z.2 = .local → scope.names.lookup z.1 = some .local)
    (hy : env.kindOf y = some .local) (hp : (env.scope.kind == .class || (env.scope.kind == .module && env.locals != env.globals)) = false)
    (h : wpAny (model prog w) A (eval iter env) (CompG prog w A h₀ L m (fun D z => if z = y then some (.ref D) else m z) env elt target ifs scope cl (fun _ s' => Q .next s')) E s)
    (hs : ∀ x, foldedSetIterable iter env x = pure x := by intro _; rfl) :
    wpAny (model prog w) A (exec (.Assign [.Name y py] (.ListComp elt [⟨target, iter, ifs, 0⟩] scope pos) spos) env) Q E s := by
  subst hLe
  rw [exec_Assign_Name_used _ _ _ _ hsw]
  refine wpAny_bind (wpAny_standAt (wpAny_bind ?_))
  show wpAny _ A (do let _ ← comprehension (.ListComp elt [⟨target, iter, ifs, 0⟩] scope pos) scope env _ (newList []) false (eval iter env) (some (assign (.Name y py) env))) _ _ s
  refine wpAny_bind (wpAny_mono (wpAny_comprehension_free (use := some (assign (.Name y py) env)) (Q := fun _ s' => Q .next s') rfl hs hclos hkind hnames
    (wpAny_mono h (fun xv s₁ h₁ => ?_) fun _ _ e => e)) (fun _ s' hq => wpAny_pure (wpAny_pure hq)) fun _ _ e => e)
  refine comp_core hcell hkind h₁ fun D C m' h tk F hn hC hCL hCD hD hDL news ys N off fin => ?_
  show wpAny _ A (assign (.Name y py) env (.ref D)) _ _ _
  refine wpAny_assign_Name (wpAny_storeName_local hy F.ns (fun h₂ hn₂ hs₂ => ?_) hp)
  refine ⟨m', hn.sameBut hs₂ hCL, fun h'' hs'' => ?_⟩
  have k : ∀ b o, b ≠ env.locals → b ≠ C → h.get? b = some o → h''.get? b = some o := fun b o h1 h2 e => hs''.extBut b o h2 (hs₂.extBut b o h1 e)
  refine fin h'' _ ⟨hn₂.at' fun o e => hs''.extBut _ o (Ne.symm hCL) e, fun b o e => k b o (fun hb => absurd (Heap.lt_size (hb ▸ e)) (Nat.not_lt.mpr F.above)) (fun hb => by rw [hb, hC] at e; cases e) (F.keep b o e), F.above⟩ fun p hp => ?_
  rcases List.mem_cons.mp hp with rfl | hp
  · exact ⟨k _ _ hDL (Ne.symm hCD) (N _ List.mem_cons_self).1, (N _ List.mem_cons_self).2⟩
  · exact ⟨k _ _ (N _ (List.mem_cons_of_mem _ hp)).2.1 (off p hp) (N _ (List.mem_cons_of_mem _ hp)).1, (N _ (List.mem_cons_of_mem _ hp)).2⟩
end
end Mine
end
section
open PySem PySem.W PyProof.Rows PySem.Spec PySem.Calls
namespace Mine
open PyProof.Rows.LCg
section
variable {prog : Program} {w : World} {A : Around} {E : Value → Shared → Prop} {s s₁ : Shared} {h₀ : Heap} {L : Addr} {m : Str → Option Value} {env : Env}
/-- `[elt for x in texts]`, the elements texts -/
theorem compA_strs {mf : Addr → Str → Option Value} {elt : Expr} {x : Str} {px : Pos} {scope : Scope} {cl : List (Str × Addr)} {Q : Value → Shared → Prop} {nl : Addr} {nits : List Value} {nn : Nat} {ns : List Str} {news : List (Addr × Obj)} (f : Str → Str)
    (hh : A.handled = none) (F : Fr h₀ L s₁.heap m) (N : News h₀ L s₁.heap news) (hm : (nl, listOf nits.toArray nn) ∈ news) (hsz : ns.length ≤ sizeLine) (hS : StrsAre nits ns) (hkind : scope.kind = .function) (hx : scope.names.lookup x = some .local)
    (ok : ∀ (y : Str) (ty : Tok) I oI C oC D ys m₂ h tk (E' : Value → Shared → Prop), y ∈ ns → NsObj oC m₂ → m₂ x = some (.str y ty) → Fr h₀ L h m → News h₀ L h ((I, oI) :: (C, oC) :: (D, lst ys) :: news) → Off3 I C D news → ((@Ne Nat I C) ∧ (@Ne Nat I D) ∧ (@Ne Nat C D)) →
      wpAny (model prog w) A (eval elt (compEnvC scope cl C env)) (fun v s₄ => CEnd h₀ L m { s₁ with heap := h, toks := tk } ((I, oI) :: (C, oC) :: (D, lst ys) :: news) s₄ ∧ ∃ t, v = .str (f y) t) E' { s₁ with heap := h, toks := tk })
    (fin : ∀ D h tk ys, StrsAre ys (ns.map f) → Fr h₀ L h (mf D) → News h₀ L h ((D, lst ys) :: news) → Off1 D news → Q (.ref D) { s₁ with heap := h, toks := tk }) :
    CompG prog w A h₀ L m mf env elt (.Name x px) [] scope cl Q (.ref nl) s₁ := by
  have hlen := hS.length
  refine ⟨nl, nits, nn, news, fun i ys => StrsAre ys ((ns.take i).map f), fun i m' y => if y = x then nits[i]? else m' y, rfl, hh, F, N, hm, by rw [hlen]; exact hsz, .nil, ?_, ?_, ?_⟩
  · intro i v C m' s' Q' E' hv _ hn k
    refine wpAny_assign_Name (wpAny_storeName_local (lookup_relabel_local hx) hn (fun h₃ hn₃ hs₃ => k h₃ _ (fun b o hb e => hs₃.extBut b o hb e) ?_) (by simp [compEnvC, relabel, hkind]))
    show h₃.Ns C (fun y => if y = x then nits[i]? else m' y)
    rw [hv]; exact hn₃
  · intro i v ys I oI C oC D m' h tk E' hv hJ hC F₁ N₁ off ne
    refine wpAny_tests_nil ?_
    simp only [if_true]
    obtain ⟨y, ty, rfl, hy⟩ := hS.item i v hv
    refine wpAny_mono (ok y ty I oI C oC D ys _ h tk E' (List.mem_of_getElem? hy) hC (by simp [hv]) F₁ N₁ off ne) (fun v s₄ h₄ => ?_) fun _ _ e => e
    obtain ⟨hc, t, rfl⟩ := h₄
    refine ⟨hc, ?_⟩
    rw [List.take_add_one, hy, List.map_append]
    exact hJ.append' (.cons _ _ .nil)
  · intro D h tk ys hJ F₁ N₁ off
    refine fin D h tk ys ?_ F₁ N₁ off
    rw [hlen, List.take_length] at hJ
    exact hJ
/-- a pair, as a tuple or as a list -/
theorem assign_pair {x x₂ : Str} {px px₂ tp : Pos} {k : Nat} {scope : Scope} {cl : List (Str × Addr)} {C t : Addr} {ot : Obj} {v₁ v₂ : Value} {nt : Nat} {m' : Str → Option Value} {Q' : Unit → Shared → Prop} (hh : A.handled = none)
    (ho : s.heap.get? t = some ot) (hc : ot.cls = .type "tuple" ∨ ot.cls = .type "list") (hd : ot.data = .seq #[v₁, v₂] nt) (hn : s.heap.Ns C m') (hkind : scope.kind = .function) (hx : scope.names.lookup x = some .local) (hx₂ : scope.names.lookup x₂ = some .local)
    (k' : ∀ h' tk', (∀ b o, b ≠ C → s.heap.get? b = some o → h'.get? b = some o) → h'.Ns C (fun y => if y = x₂ then some v₂ else if y = x then some v₁ else m' y) → Q' () { s with heap := h', toks := tk' }) :
    wpAny (model prog w) A (assign (.Tuple [.Name x px, .Name x₂ px₂] k tp) (compEnvC scope cl C env) (.ref t)) Q' E s := by
  have fin : ∀ h₅, Heap.ExtBut s.heap.objs.size s.heap h₅ → wpAny (model prog w) A (assignInOrder ((assignEach [.Name x px, .Name x₂ px₂] (compEnvC scope cl C env)).map (·.2)) [v₁, v₂]) Q' E { s with heap := h₅ } := fun h₅ he => by
    have he' : ∀ b o, s.heap.get? b = some o → h₅.get? b = some o := fun b o e => he b o (Nat.ne_of_lt (Heap.lt_size e)) e
    refine assignInOrder_cons (wpAny_assign_Name (wpAny_storeName_local (lookup_relabel_local hx) (hn.at' fun o e => he' _ o e) (fun h₆ hn₆ hs₆ => ?_) (by simp [compEnvC, relabel, hkind])))
    refine assignInOrder_cons (wpAny_assign_Name (wpAny_storeName_local (lookup_relabel_local hx₂) hn₆ (fun h₃ hn₃ hs₃ => ?_) (by simp [compEnvC, relabel, hkind])))
    exact assignInOrder_nil (k' h₃ _ (fun b o hb e => hs₃.extBut b o hb (hs₆.extBut b o hb (he' b o e))) hn₃)
  rw [assign_Tuple]
  refine wpAny_bind (wpAny_standAt ?_)
  unfold unpack
  rcases hc with hc | hc
  · exact wpAny_bind (wpAny_holding (unpackItems_tuple (items := #[v₁, v₂]) hh ⟨ot, ho, hc, nt, hd⟩ fin))
  · exact wpAny_bind (wpAny_holding (kun_itemsOf (items := #[v₁, v₂]) hh ⟨ot, ho, hc, nt, hd⟩ fin))
/-- `[elt for x, x₂ in pairs if ..]` -/
theorem compA_pairs {mf : Addr → Str → Option Value} {elt : Expr} {x x₂ : Str} {px px₂ tp : Pos} {k : Nat} {ifs : List Expr} {scope : Scope} {cl : List (Str × Addr)} {Q : Value → Shared → Prop} {nl : Addr} {nits : List Value} {nn : Nat} {news : List (Addr × Obj)} (f : Nat → Value × Value) (J : Nat → List Value → Prop)
    (hh : A.handled = none) (F : Fr h₀ L s₁.heap m) (N : News h₀ L s₁.heap news) (hm : (nl, listOf nits.toArray nn) ∈ news) (hsz : nits.length ≤ sizeLine) (hkind : scope.kind = .function) (hx : scope.names.lookup x = some .local) (hx₂ : scope.names.lookup x₂ = some .local) (hxx : x ≠ x₂) (hJ : J 0 [])
    (prs : ∀ i v, nits[i]? = some v → ∃ t ot nt, v = .ref t ∧ (t, ot) ∈ news ∧ (ot.cls = .type "tuple" ∨ ot.cls = .type "list") ∧ ot.data = .seq #[(f i).1, (f i).2] nt)
    (turn : ∀ i ys I oI C oC D m₂ h tk (E' : Value → Shared → Prop), i < nits.length → J i ys → NsObj oC m₂ → m₂ x = some (f i).1 → m₂ x₂ = some (f i).2 → Fr h₀ L h m → News h₀ L h ((I, oI) :: (C, oC) :: (D, lst ys) :: news) → Off3 I C D news → ((@Ne Nat I C) ∧ (@Ne Nat I D) ∧ (@Ne Nat C D)) →
      wpAny (model prog w) A (testsOf ifs (compEnvC scope cl C env)) (fun ok s₃ => if ok = true then wpAny (model prog w) A (eval elt (compEnvC scope cl C env)) (fun y s₄ => CEnd h₀ L m { s₁ with heap := h, toks := tk } ((I, oI) :: (C, oC) :: (D, lst ys) :: news) s₄ ∧ J (i + 1) (ys ++ [y])) E' s₃
        else CEnd h₀ L m { s₁ with heap := h, toks := tk } ((I, oI) :: (C, oC) :: (D, lst ys) :: news) s₃ ∧ J (i + 1) ys) E' { s₁ with heap := h, toks := tk })
    (fin : ∀ D h tk ys, J nits.length ys → Fr h₀ L h (mf D) → News h₀ L h ((D, lst ys) :: news) → Off1 D news → Q (.ref D) { s₁ with heap := h, toks := tk }) :
    CompG prog w A h₀ L m mf env elt (.Tuple [.Name x px, .Name x₂ px₂] k tp) ifs scope cl Q (.ref nl) s₁ := by
  refine ⟨nl, nits, nn, news, J, fun i m' y => if y = x₂ then some (f i).2 else if y = x then some (f i).1 else m' y, rfl, hh, F, N, hm, hsz, hJ, ?_, ?_, fin⟩
  · intro i v C m' s' Q' E' hv hnews hn k'
    obtain ⟨t, ot, nt, rfl, hmt, hc, hd⟩ := prs i v hv
    exact assign_pair hh (hnews _ hmt) hc hd hn hkind hx hx₂ k'
  · intro i v ys I oI C oC D m' h tk E' hv hJ' hC F₁ N₁ off ne
    exact turn i ys I oI C oC D _ h tk E' (List.getElem?_eq_some_iff.mp hv).1 hJ' hC (by simp [hxx]) (by simp) F₁ N₁ off ne
end
/-- the pages, as the ledger bears them: lists of a list of names and a link -/
inductive PagIn (news : List (Addr × Obj)) : List Value → List Ent → Prop
  | nil : PagIn news [] []
  | cons {a b : Addr} {t : Tok} {n n' : Nat} {bs vs : List Value} {e : Ent} {T : List Ent} : (a, listOf #[.ref b, .str e.link t] n) ∈ news → (b, listOf bs.toArray n') ∈ news → StrsAre bs e.names → PagIn news vs T → PagIn news (.ref a :: vs) (e :: T)
theorem PagIn.mono {news news' : List (Addr × Obj)} (hs : ∀ p ∈ news, p ∈ news') {vs : List Value} {T : List Ent} (h : PagIn news vs T) : PagIn news' vs T := by
  induction h with
  | nil => exact .nil
  | cons h1 h2 h3 _ ih => exact .cons (hs _ h1) (hs _ h2) h3 ih
theorem PagIn.length {news : List (Addr × Obj)} {vs : List Value} {T : List Ent} (h : PagIn news vs T) : vs.length = T.length := by
  induction h with
  | nil => rfl
  | cons _ _ _ _ ih => simp [ih]
theorem PagIn.snoc {news : List (Addr × Obj)} {vs : List Value} {T : List Ent} {e : Ent} {a b : Addr} {t : Tok} {n n' : Nat} {bs : List Value} (h : PagIn news vs T) (h1 : (a, listOf #[.ref b, .str e.link t] n) ∈ news) (h2 : (b, listOf bs.toArray n') ∈ news) (h3 : StrsAre bs e.names) : PagIn news (vs ++ [.ref a]) (T ++ [e]) := by
  induction h with
  | nil => exact .cons h1 h2 h3 .nil
  | cons k1 k2 k3 _ ih => exact .cons k1 k2 k3 ih
theorem PagIn.get {news : List (Addr × Obj)} {vs : List Value} {T : List Ent} (h : PagIn news vs T) : ∀ {i : Nat} {v : Value}, vs[i]? = some v →
    ∃ (e : Ent) (a b : Addr) (t : Tok) (n n' : Nat) (bs : List Value), T[i]? = some e ∧ v = .ref a ∧ (a, listOf #[.ref b, .str e.link t] n) ∈ news ∧ (b, listOf bs.toArray n') ∈ news ∧ StrsAre bs e.names := by
  induction h with
  | nil => intro i v hv; simp at hv
  | @cons a b t n n' bs vs e T h1 h2 h3 _ ih =>
    intro i v hv
    cases i with
    | zero => simp at hv; exact ⟨e, a, b, t, n, n', bs, rfl, hv.symm, h1, h2, h3⟩
    | succ i => exact ih (by simpa using hv)
/-- its pairs, place by place -/
theorem PagIn.prs {news : List (Addr × Obj)} {vs : List Value} {T : List Ent} (h : PagIn news vs T) : ∃ f : Nat → Value × Value,
    (∀ i v, vs[i]? = some v → ∃ t ot nt, v = .ref t ∧ (t, ot) ∈ news ∧ (ot.cls = .type "tuple" ∨ ot.cls = .type "list") ∧ ot.data = .seq #[(f i).1, (f i).2] nt) ∧
    ∀ i e, T[i]? = some e → ∃ (b : Addr) (t : Tok) (n' : Nat) (bs : List Value), (f i).1 = .ref b ∧ (f i).2 = .str e.link t ∧ (b, listOf bs.toArray n') ∈ news ∧ StrsAre bs e.names := by
  induction h with
  | nil => exact ⟨fun _ => (.none, .none), fun i v hv => by simp at hv, fun i e he => by simp at he⟩
  | @cons a b t n n' bs vs e T h1 h2 h3 _ ih =>
    obtain ⟨f, p1, p2⟩ := ih
    refine ⟨fun i => match i with | 0 => (.ref b, .str e.link t) | i + 1 => f i, fun i v hv => ?_, fun i e' he => ?_⟩
    · cases i with
      | zero => simp at hv; exact ⟨a, _, n, hv.symm, h1, .inr rfl, rfl⟩
      | succ i => exact p1 i v (by simpa using hv)
    · cases i with
      | zero => simp at he; subst he; exact ⟨b, t, n', bs, rfl, rfl, h2, h3⟩
      | succ i => exact p2 i e' (by simpa using he)
theorem TabIn.prs {news : List (Addr × Obj)} {vs : List Value} {T : List Ent} (h : TabIn news vs T) : ∃ f : Nat → Value × Value,
    (∀ i v, vs[i]? = some v → ∃ t ot nt, v = .ref t ∧ (t, ot) ∈ news ∧ (ot.cls = .type "tuple" ∨ ot.cls = .type "list") ∧ ot.data = .seq #[(f i).1, (f i).2] nt) ∧
    ∀ i e, T[i]? = some e → ∃ (t1 t2 : Tok), (f i).1 = .str e.page t1 ∧ (f i).2 = .str e.link t2 := by
  induction h with
  | nil => exact ⟨fun _ => (.none, .none), fun i v hv => by simp at hv, fun i e he => by simp at he⟩
  | @cons a t1 t2 n vs e T h1 _ ih =>
    obtain ⟨f, p1, p2⟩ := ih
    refine ⟨fun i => match i with | 0 => (.str e.page t1, .str e.link t2) | i + 1 => f i, fun i v hv => ?_, fun i e' he => ?_⟩
    · cases i with
      | zero => simp at hv; exact ⟨a, _, n, hv.symm, h1, .inl rfl, rfl⟩
      | succ i => exact p1 i v (by simpa using hv)
    · cases i with
      | zero => simp at he; subst he; exact ⟨t1, t2, rfl, rfl⟩
      | succ i => exact p2 i e' (by simpa using he)
end Mine
end
section
open PySem PySem.W PyProof.Rows PySem.Spec PySem.Calls
namespace Mine
open PySem.SeqAt
theorem canLayAll0_strs : ∀ {xs : List Str}, (∀ x ∈ xs, PyData.strOk x = true) → PyData.canLayAll0 (xs.map PyData.str) = true
  | [], _ => by simp [PyData.canLayAll0]
  | x :: r, h => by
    simp only [List.map_cons, PyData.canLayAll0, PyData.canLay0, Bool.and_eq_true]
    exact ⟨h x (by simp), canLayAll0_strs fun y hy => h y (by simp [hy])⟩
theorem depthAll_strs : ∀ xs : List Str, PyData.depthAll (xs.map PyData.str) ≤ 1
  | [] => by simp [PyData.depthAll]
  | n :: r => by
    have := depthAll_strs r
    simp only [List.map_cons, PyData.depthAll, PyData.depth]
    omega
theorem shaped_strs {xs : List Str} (h : ∀ x ∈ xs, PyData.strOk x = true) : shaped (.list (xs.map PyData.str)) = true := by
  have h1 := depthAll_strs xs
  have h2 : PyData.depth (.list (xs.map PyData.str)) ≤ 64 := by simp only [PyData.depth]; omega
  show (PyData.canLay0 (.list (xs.map PyData.str)) && decide (PyData.depth (.list (xs.map PyData.str)) ≤ 64)) = true
  rw [Bool.and_eq_true]
  exact ⟨by simp only [PyData.canLay0]; exact canLayAll0_strs h, decide_eq_true h2⟩
theorem noMix_strs : ∀ ns ms : List Str, noMixAll (ns.map PyData.str) (ms.map PyData.str) = true
  | [], [] => by simp [noMixAll]
  | [], _ :: _ => by simp [noMixAll]
  | _ :: _, [] => by simp [noMixAll]
  | _ :: r, _ :: q => by simp [noMixAll, noMix, noMix_strs r q]
theorem same_strs : ∀ ns ms : List Str, PySem.Spec.sameAll (ns.map PyData.str) (ms.map PyData.str) = decide (ns = ms)
  | [], [] => by simp [PySem.Spec.sameAll]
  | [], _ :: _ => by simp [PySem.Spec.sameAll]
  | _ :: _, [] => by simp [PySem.Spec.sameAll]
  | n :: r, k :: q => by
    simp only [List.map_cons, PySem.Spec.sameAll, PySem.Spec.same, same_strs r q]
    by_cases h : n = k <;> simp [h]
section
variable {prog : Program} {w : World} {A : Around} {E : Value → Shared → Prop} {s : Shared} {h₀ : Heap} {L : Addr} {news : List (Addr × Obj)}
theorem reads_of_strs {h : Heap} {a : Addr} {o : Obj} {n : Nat} {vs : List Value} {xs : List Str} (ho : h.get? a = some o) (hc : o.cls = .type "list") (hd : o.data = .seq vs.toArray n) (hi : StrsAre vs xs) : Reads h (.ref a) (.list (xs.map PyData.str)) [a] :=
  Reads.list ho hc hd (by simpa using hi.reads h)
theorem eq_strs {a b : Addr} {oa ob : Obj} {na nb : Nat} {vs us : List Value} {xs ys : List Str} {Q : Value → Shared → Prop} (N : News h₀ L s.heap news) (ma : (a, oa) ∈ news) (ca : oa.cls = .type "list") (da : oa.data = .seq vs.toArray na) (hi : StrsAre vs xs)
    (mb : (b, ob) ∈ news) (cb : ob.cls = .type "list") (db : ob.data = .seq us.toArray nb) (hi' : StrsAre us ys) (hx : ∀ x ∈ xs, PyData.strOk x = true) (hy : ∀ y ∈ ys, PyData.strOk y = true) (hu : A.units + 64 < cLine)
    (h : Q (.bool (decide (xs = ys))) s) : wpAny (model prog w) A (compareOp .Eq (.ref a) (.ref b)) Q E s :=
  eq_dataH_same (reads_of_strs (N _ ma).1 ca da hi) (reads_of_strs (N _ mb).1 cb db hi') (shaped_strs hx) (shaped_strs hy) hu (by simp only [noMix]; exact noMix_strs xs ys) (by simp only [PySem.Spec.same]; rw [same_strs]; exact h)
theorem ne_strs {a b : Addr} {oa ob : Obj} {na nb : Nat} {vs us : List Value} {xs ys : List Str} {Q : Value → Shared → Prop} (N : News h₀ L s.heap news) (ma : (a, oa) ∈ news) (ca : oa.cls = .type "list") (da : oa.data = .seq vs.toArray na) (hi : StrsAre vs xs)
    (mb : (b, ob) ∈ news) (cb : ob.cls = .type "list") (db : ob.data = .seq us.toArray nb) (hi' : StrsAre us ys) (hx : ∀ x ∈ xs, PyData.strOk x = true) (hy : ∀ y ∈ ys, PyData.strOk y = true) (hu : A.units + 64 < cLine)
    (h : Q (.bool (!decide (xs = ys))) s) : wpAny (model prog w) A (compareOp .NotEq (.ref a) (.ref b)) Q E s :=
  ne_dataH_same (reads_of_strs (N _ ma).1 ca da hi) (reads_of_strs (N _ mb).1 cb db hi') (shaped_strs hx) (shaped_strs hy) hu (by simp only [noMix]; exact noMix_strs xs ys) (by simp only [PySem.Spec.same]; rw [same_strs]; exact h)
end
/-- slices of lists: up to 1, from 1, all but the last -/
theorem slice_upto1 (vs : List Value) : slicePick vs.toArray none (some 1) none = (vs.take 1).toArray := by
  have e : sliceBounds none (some 1) none vs.toArray.size = (((0 : Nat) : Int), ((min 1 vs.toArray.size : Nat) : Int), 1) := by
    simp only [sliceBounds, Option.getD_none, show (1 : Int) > 0 by decide, if_true, if_neg (show ¬ ((1 : Int) < 0) by omega)]
    congr 1
    congr 1
    omega
  rw [kmk_pick_nat _ e]
  show ((vs.drop 0).take (min 1 vs.toArray.size - 0)).toArray = _
  rw [List.drop_zero, Nat.sub_zero, List.size_toArray, kmk_take_min]
theorem slice_from1 (vs : List Value) : slicePick vs.toArray (some 1) none none = (vs.drop 1).toArray := by
  have e : sliceBounds (some 1) none none vs.toArray.size = (((min 1 vs.toArray.size : Nat) : Int), ((vs.toArray.size : Nat) : Int), 1) := by
    simp only [sliceBounds, Option.getD_none, show (1 : Int) > 0 by decide, if_true, if_neg (show ¬ ((1 : Int) < 0) by omega)]
    congr 1
    omega
  rw [kmk_pick_nat _ e]
  show ((vs.drop (min 1 vs.toArray.size)).take (vs.toArray.size - min 1 vs.toArray.size)).toArray = _
  rw [List.size_toArray, kmk_drop_min, List.take_of_length_le (by rw [List.length_drop]; omega)]
theorem slice_last (vs : List Value) : slicePick vs.toArray none (some (-1)) none = (vs.take (vs.length - 1)).toArray := by
  have e : sliceBounds none (some (-1)) none vs.toArray.size = (((0 : Nat) : Int), ((vs.toArray.size - 1 : Nat) : Int), 1) := by
    simp only [sliceBounds, Option.getD_none, show (1 : Int) > 0 by decide, if_true, if_pos (show (-1 : Int) < 0 by omega)]
    congr 1
    congr 1
    omega
  rw [kmk_pick_nat _ e]
  show ((vs.drop 0).take (vs.toArray.size - 1 - 0)).toArray = _
  rw [List.drop_zero, Nat.sub_zero, List.size_toArray]
/-- an end's ledger, a part of it, in another order -/
theorem news_sub {h₀ h : Heap} {L : Addr} {news news' : List (Addr × Obj)} (N : News h₀ L h news') (hs : ∀ p ∈ news, p ∈ news') : News h₀ L h news := fun p hp => N p (hs p hp)
theorem filter_take_succ {α : Type} (p : α → Bool) {l : List α} {i : Nat} {v : α} (h : l[i]? = some v) : (l.take (i + 1)).filter p = (l.take i).filter p ++ (if p v then [v] else []) := by
  rw [List.take_add_one, h, List.filter_append]
  cases hp : p v <;> simp [hp]
theorem allLt_mem {d : Addr} {l : List (Addr × Obj)} (h : AllLt d l) : ∀ p ∈ l, @LT.lt Nat _ p.1 d := by
  induction l with
  | nil => intro p hp; cases hp
  | cons q r ih =>
    intro p hp
    rcases List.mem_cons.mp hp with e | hp
    · rw [e]; exact h.1
    · exact ih h.2 p hp
end Mine
end
section
open PySem PySem.W PyProof.Rows PySem.Spec PySem.Calls
namespace Mine
local macro_rules | `(tactic| walk_at $s:str) => `(tactic| k_extra $s)
open PyProof.Rows.LCg
theorem allLt_ne {d c : Addr} {l : List (Addr × Obj)} (h : AllLt d l) (hc : @LE.le Nat _ d c) : ∀ p ∈ l, p.1 ≠ c := fun p hp => Nat.ne_of_lt (Nat.lt_of_lt_of_le (allLt_mem h p hp) hc)
local macro_rules | `(tactic| k_all) => `(tactic| exact allLt_ne (by with_reducible assumption) (by first | with_reducible exact Nat.le_refl _ | with_reducible exact Nat.le_succ _ | omega))
def foundL (T : List Ent) (ns : List Str) : List Str := ((T.filter fun e => e.names.map Txt.lower == ns.map Txt.lower).map (·.link)).take 1
theorem found_c (w : World) (pl nl : Addr) (pits nits : List Value) (np nn : Nat) (T : List Ent) (ns : List Str) (rest : List (Addr × Obj)) (hT : PagIn rest pits T) (hN : StrsAre nits ns) (hB : ∀ x ∈ ns, x.length ≤ 100 ∧ PyData.strOk (Txt.lower x) = true) (hlen : ns.length ≤ 10) (hTl : T.length ≤ 20) (hTb : ∀ e ∈ T, e.names.length ≤ 10 ∧ ∀ x ∈ e.names, x.length ≤ 100 ∧ PyData.strOk (Txt.lower x) = true)
   (mean : ExcName → Option Value) (mg mb : Str → Option Value) (gd : Option (List Code)) (cn : Str) (nms) (ig ic) (mo) (a : Addr) (ccd : Value) (cl : List (Str × Addr)) (outer : List Env) (A₀ : Around) (base h₀ : Heap) (L : Addr) (m : Str → Option Value) (s : Shared) (Q E : Value → Shared → Prop)
    (B : Below A₀ base outer h₀) (F : Fr h₀ L s.heap m) (KX : (Mine.fr.heap_1 w.params).In h₀) (N : News h₀ L s.heap ((pl, listOf pits.toArray np) :: (nl, listOf nits.toArray nn) :: rest)) (TT : Top Mine.q loose mean mg mb h₀)
    (hret : ∀ (D : Addr) (h' : Heap) (tk' : Nat) (out : List Value) (n' : Nat), StrsAre out (foundL T ns) → (∀ p ∈ rest, p.1 ≠ D) → Fr h₀ L h' m → News h₀ L h' ((D, listOf out.toArray n') :: (pl, listOf pits.toArray np) :: (nl, listOf nits.toArray nn) :: rest) → Q (.ref D) { s with heap := h', toks := tk' }) :
      wpAny (model PySem.Challenge.rw_pd0177_01.row.prog w) (ktrTop 800 8000 gd cn ⟨.function, nms, ig, ic, mo⟩ L a ccd cl outer) (call (.ref 321) [.ref pl, .ref nl]) Q E s := by
  k_with_none
  k_with "eval ListComp" => (k_here; k_dflt (refine comp_any (F₀ := by k_asm) (by with_unfolding_all rfl) (by decide) (by rfl) (by decide) ?_))
  k_with "compareOp Eq ref ref" => (k_here; (with_reducible show wpAny _ _ (compareOp CmpOp.Eq (Value.ref _) (Value.ref _)) _ _ _); k_dflt (refine' eq_strs (by k_asm) (by k_mem) (by exact rfl) (by exact rfl) (by with_reducible assumption) (by k_mem) (by exact rfl) (by exact rfl) (by with_reducible assumption) (by with_reducible assumption) (by with_reducible assumption) (by exact Nat.le_of_ble_eq_true rfl) ?_; k_whole))
  have hok : ∀ y ∈ ns.map Txt.lower, PyData.strOk y = true := fun y hy => by obtain ⟨x, hx, rfl⟩ := List.mem_map.mp hy; exact (hB x hx).2
  revert KX; k_fill; intro KX
  refine wpAny_call ?_
  k_dflt k_enter
  (with_reducible rename (_ ∧ _ ∧ AllLt _ _) => l1x); obtain ⟨lp, ln, la⟩ := l1x
  k_steps
  refine compA_strs Txt.lower rfl (by k_asm) (by k_asm) (List.Mem.tail _ (List.Mem.tail _ (List.Mem.head _))) (by rw [sizeLine_eq]; omega) hN rfl rfl ?_ ?_
  · intro y ty I oI C oC D ys m₂ h tk2 E' hy hC hx F1 N1 off ne
    have hyl := (hB y hy).1
    k_steps
    exact ⟨_, _, rfl, by assumption, by assumption⟩
  · intro D h tk2 ys hys F1 N1 off
    simp only [LCg.Off1] at off
    k_steps
    obtain ⟨f, p1, p2⟩ := hT.prs
    refine compA_pairs f (fun i out => StrsAre out (((T.take i).filter fun e => e.names.map Txt.lower == ns.map Txt.lower).map (·.link))) rfl (by k_asm) (by k_asm) (List.Mem.tail _ (List.Mem.tail _ (List.Mem.head _))) (by rw [hT.length, sizeLine_eq]; omega) rfl rfl rfl (by decide) .nil ?prs ?turn ?fin
    case prs =>
      intro i v hv
      obtain ⟨t, ot, nt, h1, h2, h3⟩ := p1 i v hv
      exact ⟨t, ot, nt, h1, List.Mem.tail _ (List.Mem.tail _ (List.Mem.tail _ (List.Mem.tail _ h2))), h3⟩
    case turn =>
      intro i out I oI C oC D2 m₂ h2 tk3 E' hi hJ hC hx1 hx2 F2 N2 off2 ne2
      obtain ⟨e, hTi⟩ : ∃ e, T[i]? = some e := ⟨T[i]'(by rw [← hT.length]; exact hi), by simp⟩
      obtain ⟨b, t, n', bs, e1, e2, hb, hbs⟩ := p2 i e hTi
      rw [e1] at hx1
      rw [e2] at hx2
      obtain ⟨hl1, hl2⟩ := hTb e (List.mem_of_getElem? hTi)
      simp only [LCg.Off3] at off2
      have N3 : News _ _ h2 ((b, listOf bs.toArray n') :: _) := fun p hp => (List.mem_cons.mp hp).elim (fun h9 => N2 p (by rw [h9]; exact List.Mem.tail _ (List.Mem.tail _ (List.Mem.tail _ (List.Mem.tail _ (List.Mem.tail _ (List.Mem.tail _ (List.Mem.tail _ hb)))))))) (fun h9 => N2 p h9)
      clear N2
      refine wpAny_tests_one ?_
      k_steps
      refine compA_strs Txt.lower rfl (by k_asm) (by k_asm) (List.Mem.head _) (by rw [sizeLine_eq]; omega) hbs rfl rfl ?_ ?_
      · intro y ty I3 oI3 C3 oC3 D3 ys3 m₃ h3 tk4 E3 hy hC3 hx3 F4 N4 off4 ne4
        have hyl := (hl2 y hy).1
        k_steps
        exact ⟨_, _, rfl, by assumption, by assumption⟩
      · intro D3 h3 tk4 ys3 hys3 F4 N4 off4
        simp only [LCg.Off1] at off4
        have hok3 : ∀ y ∈ e.names.map Txt.lower, PyData.strOk y = true := fun y hy => by obtain ⟨x, hx, rfl⟩ := List.mem_map.mp hy; exact (hl2 x hx).2
        k_steps
        · exact ⟨_, _, rfl, by assumption, news_sub (by assumption) fun p hp => List.Mem.tail _ (List.Mem.tail _ hp)⟩
        · have hcd : e.names.map Txt.lower = ns.map Txt.lower := by assumption
          have hc : (e.names.map Txt.lower == ns.map Txt.lower) = true := by simpa using hcd
          rw [filter_take_succ _ hTi, hc, if_pos rfl, List.map_append]
          exact hJ.append' (.cons _ _ .nil)
        · exact ⟨_, _, rfl, by assumption, news_sub (by assumption) fun p hp => List.Mem.tail _ (List.Mem.tail _ hp)⟩
        · have hcd : ¬ (e.names.map Txt.lower = ns.map Txt.lower) := by assumption
          have hc : (e.names.map Txt.lower == ns.map Txt.lower) = false := by simpa using hcd
          rw [filter_take_succ _ hTi, hc, if_neg Bool.false_ne_true, List.append_nil]
          exact hJ
    case fin =>
      intro D2 h2 tk3 out hout F2 N2 off2
      simp only [LCg.Off1] at off2
      k_steps
      (rename News _ _ _ _ => nE)
      rw [slice_upto1] at nE
      refine hret _ _ _ (out.take 1) 0 ?_ (fun p hp => Nat.ne_of_lt (Nat.lt_succ_of_lt (Heap.lt_size (N2 p (.tail _ (.tail _ (.tail _ (.tail _ (.tail _ hp)))))).1))) (by assumption) (news_sub nE fun p hp => ?_)
      · rw [hT.length, List.take_length] at hout
        exact hout.take' 1
      · rcases List.mem_cons.mp hp with h9 | h9
        · rw [h9]; exact List.Mem.head _
        · exact List.Mem.tail _ (List.Mem.tail _ (List.Mem.tail _ (List.Mem.tail _ h9)))
end Mine
end
section
open PySem PySem.W PyProof.Rows PySem.Spec PySem.Calls
namespace Mine
local macro_rules | `(tactic| walk_at $s:str) => `(tactic| k_extra $s)
theorem ne_false {b : Bool} (h : b = true) : ¬ b = false := by rw [h]; exact fun h => nomatch h
theorem ne_true {b : Bool} (h : b = false) : ¬ b = true := by rw [h]; exact fun h => nomatch h
/-- the text up to its last stroke -/
def headF (p : Str) : Str := Txt.slice p none (some (Txt.rfind p (Str.ofString "/") + 1))
def dirnameF (p : Str) : Str := if ((headF p).length : Int) = 0 then headF p else if (headF p != Txt.mul (Str.ofString "/") ((headF p).length : Int)) = false then headF p else Txt.rstripChars (headF p) (Str.ofString "/")
def basenameF (p : Str) : Str := Txt.slice p (some (Txt.rfind p (Str.ofString "/") + 1)) none
theorem dirname_c (w : World) (p : Str) (t : Tok) (hp : p.length ≤ 1000) : Call w 850 8500 160 [.str p t] (fun v => ∃ t, v = .str (dirnameF p) t) := by
  k_with_none
  k_with "call ref" => (k_here; (with_reducible show wpAny _ _ (call (Value.ref 111) [Value.str _ _]) _ _ _); k_dflt (refine' Call.use (fspath_c _ _ _) (by exact Nat.le_of_ble_eq_true rfl) (by exact Nat.le_of_ble_eq_true rfl) (by k_asm) (by k_asm) (by k_asm) (by k_asm) (by k_asm) (by first | exact rfl | assumption) ?_); k_whole; (intro v9 h9 tk9 R9 F9 N9); (obtain ⟨_, R9⟩ := R9); subst R9; (try dsimp only); (try k_fold))
  unfold Call
  k_fill
  intro mean mg mb d u gd cn cs a ccd cl outer A₀ base h₀ L m s Q E news hd hu B F KX N T hk hret
  refine wpAny_le (A' := ktrTop 850 8500 gd cn cs L a ccd cl outer) rfl hd (fun _ e => e) (fun _ e => e) hu ?_
  obtain ⟨kd, nms, ig, ic, mo⟩ := cs
  dsimp only at hk
  subst hk
  refine wpAny_call ?_
  k_dflt k_enter
  k_steps
  · refine hret _ _ _ ⟨_, congrArg (fun z => Value.str z _) ?_⟩ (by assumption) (by assumption)
    unfold dirnameF
    rw [if_neg (by assumption), if_neg (ne_false (by assumption))]; rfl
  · refine hret _ _ _ ⟨_, congrArg (fun z => Value.str z _) ?_⟩ (by assumption) (by assumption)
    unfold dirnameF
    rw [if_neg (by assumption), if_pos (by assumption)]; rfl
  · refine hret _ _ _ ⟨_, congrArg (fun z => Value.str z _) ?_⟩ (by assumption) (by assumption)
    unfold dirnameF
    rw [if_pos (by assumption)]; rfl
theorem basename_c (w : World) (p : Str) (t : Tok) (hp : p.length ≤ 1000) : Call w 850 8500 153 [.str p t] (fun v => ∃ t, v = .str (basenameF p) t) := by
  k_with_none
  k_with "call ref" => (k_here; (with_reducible show wpAny _ _ (call (Value.ref 111) [Value.str _ _]) _ _ _); k_dflt (refine' Call.use (fspath_c _ _ _) (by exact Nat.le_of_ble_eq_true rfl) (by exact Nat.le_of_ble_eq_true rfl) (by k_asm) (by k_asm) (by k_asm) (by k_asm) (by k_asm) (by first | exact rfl | assumption) ?_); k_whole; (intro v9 h9 tk9 R9 F9 N9); (obtain ⟨_, R9⟩ := R9); subst R9; (try dsimp only); (try k_fold))
  unfold Call
  k_fill
  intro mean mg mb d u gd cn cs a ccd cl outer A₀ base h₀ L m s Q E news hd hu B F KX N T hk hret
  refine wpAny_le (A' := ktrTop 850 8500 gd cn cs L a ccd cl outer) rfl hd (fun _ e => e) (fun _ e => e) hu ?_
  obtain ⟨kd, nms, ig, ic, mo⟩ := cs
  dsimp only at hk
  subst hk
  refine wpAny_call ?_
  k_dflt k_enter
  k_steps
  exact hret _ _ _ ⟨_, rfl⟩ (by assumption) (by assumption)
/-- a call that hands back a new object of the ledger -/
abbrev CallO (w : World) (dp un : Nat) (f : Addr) (vs : List Value) (R : Obj → Prop) : Prop :=
  ∀ (mean : ExcName → Option Value) (mg mb : Str → Option Value) (d u : Nat) (gd : Option (List Code)) (cn : Str) (cs : Scope) (a : Addr) (ccd : Value) (cl : List (Str × Addr)) (outer : List Env) (A₀ : Around) (base h₀ : Heap) (L : Addr) (m : Str → Option Value) (s : Shared) (Q E : Value → Shared → Prop) (news : List (Addr × Obj)),
    d ≤ dp → u ≤ un → Below A₀ base outer h₀ → Fr h₀ L s.heap m → (Mine.fr.heap_1 w.params).In h₀ → News h₀ L s.heap news → Top Mine.q loose mean mg mb h₀ → cs.kind = .function →
    (∀ (D : Addr) (o : Obj) (h' : Heap) (tk' : Nat), R o → Fr h₀ L h' m → News h₀ L h' ((D, o) :: news) → Q (.ref D) { s with heap := h', toks := tk' }) →
      wpAny (model PySem.Challenge.rw_pd0177_01.row.prog w) (ktrTop d u gd cn cs L a ccd cl outer) (call (.ref f) vs) Q E s
theorem CallO.use {w : World} {dp un : Nat} {f : Addr} {vs : List Value} {R : Obj → Prop} (C : CallO w dp un f vs R)
    {mean : ExcName → Option Value} {mg mb : Str → Option Value} {d u : Nat} {gd : Option (List Code)} {cn : Str} {cs : Scope} {a : Addr} {ccd : Value} {cl : List (Str × Addr)} {outer : List Env} {A₀ : Around} {base h₀ : Heap} {L : Addr} {m : Str → Option Value} {s : Shared} {Q E : Value → Shared → Prop} {news : List (Addr × Obj)}
    (kd : d ≤ dp) (ku : u ≤ un) (B : Below A₀ base outer h₀) (F : Fr h₀ L s.heap m) (X : (Mine.fr.heap_1 w.params).In h₀) (N : News h₀ L s.heap news) (T : Top Mine.q loose mean mg mb h₀) (hk : cs.kind = .function)
    (ret : ∀ (D : Addr) (o : Obj) (h' : Heap) (tk' : Nat), R o → Fr h₀ L h' m → News h₀ L h' ((D, o) :: news) → Q (.ref D) { s with heap := h', toks := tk' }) :
    wpAny (model PySem.Challenge.rw_pd0177_01.row.prog w) (ktrTop d u gd cn cs L a ccd cl outer) (call (.ref f) vs) Q E s :=
  C _ _ _ _ _ _ _ _ _ _ _ _ _ _ _ _ _ _ _ _ _ kd ku B F X N T hk ret
/-- a text's root and the rest -/
def srF (p : Str) : Str × Str := if (Txt.slice p none (some 1) != Str.ofString "/") = true then (Str.ofString "", p) else if (Txt.slice p (some 1) (some 2) != Str.ofString "/") = true then (Str.ofString "/", Txt.slice p (some 1) none)
  else if (Txt.slice p (some 2) (some 3) == Str.ofString "/") = true then (Str.ofString "/", Txt.slice p (some 1) none) else (Txt.slice p none (some 2), Txt.slice p (some 2) none)
theorem splitroot_c (w : World) (p : Str) (t : Tok) (hp : p.length ≤ 1000) : CallO w 880 8800 146 [.str p t] (fun o => ∃ t0 t1 t2, o = { cls := .type "tuple", data := .seq #[.str (Str.ofString "") t0, .str (srF p).1 t1, .str (srF p).2 t2] }) := by
  k_with_none
  k_with "call ref" => (k_here; (with_reducible show wpAny _ _ (call (Value.ref 111) [Value.str _ _]) _ _ _); k_dflt (refine' Call.use (fspath_c _ _ _) (by exact Nat.le_of_ble_eq_true rfl) (by exact Nat.le_of_ble_eq_true rfl) (by k_asm) (by k_asm) (by k_asm) (by k_asm) (by k_asm) (by first | exact rfl | assumption) ?_); k_whole; (intro v9 h9 tk9 R9 F9 N9); (obtain ⟨_, R9⟩ := R9); subst R9; (try dsimp only); (try k_fold))
  unfold CallO
  k_fill
  intro mean mg mb d u gd cn cs a ccd cl outer A₀ base h₀ L m s Q E news hd hu B F KX N T hk hret
  refine wpAny_le (A' := ktrTop 880 8800 gd cn cs L a ccd cl outer) rfl hd (fun _ e => e) (fun _ e => e) hu ?_
  obtain ⟨kd, nms, ig, ic, mo⟩ := cs
  dsimp only at hk
  subst hk
  refine wpAny_call ?_
  k_dflt k_enter
  k_steps
  · have e : srF p = (Str.ofString "", p) := by unfold srF; rw [if_pos (by assumption)]
    rw [e] at hret
    exact hret _ _ _ _ ⟨_, _, _, rfl⟩ (by assumption) (by assumption)
  · have e : srF p = (Str.ofString "/", Txt.slice p (some 1) none) := by unfold srF; rw [if_neg (ne_true (by assumption)), if_pos (by assumption)]
    rw [e] at hret
    exact hret _ _ _ _ ⟨_, _, _, rfl⟩ (by assumption) (by assumption)
  · have e : srF p = (Str.ofString "/", Txt.slice p (some 1) none) := by unfold srF; rw [if_neg (ne_true (by assumption)), if_neg (ne_true (by assumption)), if_pos (by assumption)]
    rw [e] at hret
    exact hret _ _ _ _ ⟨_, _, _, rfl⟩ (by assumption) (by assumption)
  · have e : srF p = (Txt.slice p none (some 2), Txt.slice p (some 2) none) := by unfold srF; rw [if_neg (ne_true (by assumption)), if_neg (ne_true (by assumption)), if_neg (ne_true (by assumption))]
    rw [e] at hret
    exact hret _ _ _ _ ⟨_, _, _, rfl⟩ (by assumption) (by assumption)
end Mine
end
section
open PySem PySem.W PyProof.Rows PySem.Spec PySem.Calls
namespace Mine
theorem kl_snoc (g : List Value) (x : Value) : kl_last (g ++ [x]) = some (g, x) := by
  induction g with
  | nil => rfl
  | cons y g ih =>
    show (match kl_last (g ++ [x]) with | some (p, z) => some (y :: p, z) | none => some ([], y)) = _
    rw [ih]
section
variable {prog : Program} {w : World} {A : Around} {E : Value → Shared → Prop} {s : Shared} {h₀ : Heap} {L nc : Addr} {m : Str → Option Value} {g : List Value} {x : Value} {n : Nat} {tl : List (Addr × Obj)}
/-- a list at the ledger's head: append, pop, its truth, its last item -/
theorem g_append {Q : Value → Shared → Prop} (F : Fr h₀ L s.heap m) (N : News h₀ L s.heap ((nc, listOf g.toArray n) :: tl)) (hne : ∀ p ∈ tl, p.1 ≠ nc) (hz : g.length ≤ sizeLine)
    (h : ∀ h', Fr h₀ L h' m → News h₀ L h' ((nc, listOf (g ++ [x]).toArray (n + 1)) :: tl) → Q .none { s with heap := h' }) : wpAny (model prog w) A (call (.builtin "list.append") [.ref nc, x]) Q E s :=
  append_K F N (Upd.head hne) (fun h' F' N' => h h' F' (by simpa only [List.push_toArray] using N')) (by rw [List.size_toArray]; exact hz)
theorem g_pop {Q : Value → Shared → Prop} (F : Fr h₀ L s.heap m) (N : News h₀ L s.heap ((nc, listOf (g ++ [x]).toArray n) :: tl)) (hne : ∀ p ∈ tl, p.1 ≠ nc) (hz : (g ++ [x]).length ≤ sizeLine)
    (h : ∀ h', Fr h₀ L h' m → News h₀ L h' ((nc, listOf g.toArray (n + 1)) :: tl) → Q x { s with heap := h' }) : wpAny (model prog w) A (call (.builtin "list.pop") [.ref nc]) Q E s := by
  refine kl_pop (p := g) (y := x) F N ?_ (Upd.head hne) (by simpa using hz) h
  exact kl_snoc g x
theorem g_true {Q : Bool → Shared → Prop} (N : News h₀ L s.heap ((nc, listOf (g ++ [x]).toArray n) :: tl)) (hz : (g ++ [x]).length ≤ sizeLine) (h : Q true { s with toks := s.toks + 1 + 1 }) : wpAny (model prog w) A (truthy (.ref nc)) Q E s := by
  have hl : s.heap.IsList nc (g ++ [x]).toArray := ⟨_, (N _ (List.Mem.head _)).1, rfl, n, rfl⟩
  refine wpAny_truthy_list hl (by rw [List.size_toArray]; rw [sizeLine_eq] at hz; omega) ?_
  have : (!(g ++ [x]).toArray.isEmpty) = true := by simp
  rw [this]; exact h
theorem g_nil {Q : Bool → Shared → Prop} (N : News h₀ L s.heap ((nc, listOf ([] : List Value).toArray n) :: tl)) (h : Q false { s with toks := s.toks + 1 + 1 }) : wpAny (model prog w) A (truthy (.ref nc)) Q E s := by
  have hl : s.heap.IsList nc ([] : List Value).toArray := ⟨_, (N _ (List.Mem.head _)).1, rfl, n, rfl⟩
  exact wpAny_truthy_list hl (by decide) h
theorem g_last {value slice : Expr} {u : Tok} {Q : Value → Shared → Prop} (N : News h₀ L s.heap ((nc, listOf (g ++ [x]).toArray n) :: tl)) (h : Q x s)
    (hs : subscripted slice false (.ref nc) (.int (-1) u) = operate [.ref nc, .int (-1) u] (getItem (.ref nc) (.int (-1) u)) := by with_unfolding_all rfl) : wpAny (model prog w) A (subscriptTail value slice (.ref nc) (.int (-1) u)) Q E s := by
  have hl : s.heap.IsList nc (g ++ [x]).toArray := ⟨_, (N _ (List.Mem.head _)).1, rfl, n, rfl⟩
  refine tail_any hl.typeIs slot_list_getitem.lookup (wpAny_getItem_list_neg hl (by decide) (by rw [List.size_toArray, List.length_append]; simp; omega) (by decide) ?_ h) hs
  rw [List.size_toArray, List.length_append]
  have : ((-1 : Int) + ((g.length + [x].length : Nat) : Int)).toNat = g.length := by simp; omega
  rw [this]; simp
/-- texts of a ledger's list, joined -/
theorem g_join {sep : Str} {t : Tok} {D : Addr} {o : Obj} {k : Nat} {news : List (Addr × Obj)} {ys : List Str} {Q : Value → Shared → Prop} (N : News h₀ L s.heap news) (hm : (D, o) ∈ news) (hc : o.cls = .type "list") (hd : o.data = .seq g.toArray k) (hi : StrsAre g ys) (hsep : sep.length ≤ 64) (hok : (ys.map (·.length)).sum + ys.length * 64 ≤ 16777216)
    (h : ∀ t' k, Q (.str (Txt.join sep ys) t') { s with toks := k }) : wpAny (model prog w) A (call (.builtin "str.join") [.str sep t, .ref D]) Q E s :=
  join_listC ⟨o, (N _ hm).1, hc, k, hd⟩ (by simpa using hi) hsep hok h
theorem sum_len_le {ys : List Str} {b : Nat} (h : ∀ y ∈ ys, y.length ≤ b) : (ys.map (·.length)).sum ≤ ys.length * b := by
  induction ys with
  | nil => simp
  | cons y r ih =>
    have h1 := h y (by simp)
    have h2 := ih fun z hz => h z (by simp [hz])
    simp only [List.map_cons, List.sum_cons, List.length_cons, Nat.add_mul, Nat.one_mul]
    omega
end
end Mine
end
section
open PySem PySem.W PyProof.Rows PySem.Spec PySem.Calls
namespace Mine
local macro_rules | `(tactic| walk_at $s:str) => `(tactic| k_extra $s)
section
variable {prog : Program} {w : World} {A : Around} {E : Value → Shared → Prop} {s : Shared} {env : Env} {h₀ : Heap} {target : Expr} {body : List Stmt} {Q : Flow → Shared → Prop}
/-- a for whose turns change one list of the ledger and the names ys -/
theorem fold_grow {l nc : Addr} {vs g₀ : List Value} {nn n₀ : Nat} {m₀ : Str → Option Value} {tail : List (Addr × Obj)} (ys : List Str) (P : Nat → List Value → Prop)
    (hh : A.handled = none) (hl : (l, listOf vs.toArray nn) ∈ tail) (hnc : ∀ p ∈ tail, p.1 ≠ nc) (F : Fr h₀ env.locals s.heap m₀) (N : News h₀ env.locals s.heap ((nc, listOf g₀.toArray n₀) :: tail)) (hp : P 0 g₀)
    (turn : ∀ i v g n (u : Str → Option Value) h tk own tl, vs[i]? = some v → OwnOff own (nc :: tail.map (·.1)) → P i g → (∀ p ∈ tail, p ∈ tl) → (∀ p ∈ own, p ∈ tl) → (∀ p ∈ tl, p.1 ≠ nc) → Fr h₀ env.locals h (fun y => if ys.contains y then u y else m₀ y) → News h₀ env.locals h ((nc, listOf g.toArray n) :: tl) →
      wpAny (model prog w) A (assign target env v) (fun _ s₃ => wpAny (model prog w) A (execs body env) (InvPostG h₀ env.locals (fun m' nx => (∃ c' : List Value × Nat, nx = (nc, listOf c'.1.toArray c'.2) :: tail ∧ P (i + 1) c'.1) ∧ ∀ y, ys.contains y = false → m' y = m₀ y) own { s with heap := h, toks := tk } Q) E s₃) E { s with heap := h, toks := tk })
    (done : ∀ g n (u : Str → Option Value) h tk, P vs.length g → Fr h₀ env.locals h (fun y => if ys.contains y then u y else m₀ y) → News h₀ env.locals h ((nc, listOf g.toArray n) :: tail) → Q .next { s with heap := h, toks := tk }) :
    wpAny (model prog w) A (pyIter (.ref l)) (fun it s₂ => TurnsAt prog w A h₀ env target body Q E it s₂) E s :=
  fold_list (fun c : List Value × Nat => (nc, listOf c.1.toArray c.2) :: tail) ys (fun i c => P i c.1) (g₀, n₀) hh (fun _ => List.Mem.tail _ hl) F N hp
    (fun i v c u h tk own hv hoff hP F₁ N₁ => turn i v c.1 c.2 u h tk own (tail ++ own) hv hoff hP (fun _ hp => List.mem_append_left _ hp) (fun _ hp => List.mem_append_right _ hp)
      (fun p hp => (List.mem_append.mp hp).elim (hnc p) fun ho e => hoff p ho nc (List.Mem.head _) e) F₁ N₁) fun c u h tk hP F₁ N₁ => done c.1 c.2 u h tk hP F₁ N₁
/-- a turn's end there -/
theorem grow_end {nc : Addr} {m₀ m' : Str → Option Value} {tail own news' : List (Addr × Obj)} {ys : List Str} {P : List Value → Prop} {s₁ : Shared} {L : Addr} {h' : Heap} {tk : Nat} (g : List Value) (n : Nat) (F : Fr h₀ L h' m') (N : News h₀ L h' news') (hoff : OwnOff own (nc :: tail.map (·.1)))
    (hn : (nc, listOf g.toArray n) ∈ news') (ht : ∀ p ∈ tail, p ∈ news') (ho : ∀ p ∈ own, p ∈ news') (hP : P g) (hm : ∀ y, ys.contains y = false → m' y = m₀ y) :
    InvEndG h₀ L (fun m' nx => (∃ c' : List Value × Nat, nx = (nc, listOf c'.1.toArray c'.2) :: tail ∧ P c'.1) ∧ ∀ y, ys.contains y = false → m' y = m₀ y) own s₁ { s₁ with heap := h', toks := tk } :=
  InvEndG.intro F N ⟨⟨(g, n), rfl, hP⟩, hm⟩ hoff (fun p hp => (List.mem_cons.mp hp).elim (fun e => e ▸ hn) (ht p)) ho
end
theorem not_one {a y : Str} (h : [a].contains y = false) : y ≠ a := by
  simpa only [List.contains_cons, List.contains_nil, Bool.or_false, beq_eq_false_iff_ne] using h
/-- one part of a path: what is left of the way -/
def npStep (ini : Str) (acc : List Str) (c : Str) : List Str :=
  if (c.length : Int) = 0 then acc else if (c == Str.ofString ".") = true then acc else if (c != Str.ofString "..") = true then acc ++ [c]
  else if (ini.length : Int) = 0 ∧ acc = [] then acc ++ [c] else if acc.getLast? = some (Str.ofString "..") then acc ++ [c] else acc.dropLast
def npFold (ini : Str) (cs : List Str) : List Str := cs.foldl (npStep ini) []
theorem strs_snoc {vs : List Value} {v : Value} {ss : List Str} (h : StrsAre (vs ++ [v]) ss) : ∃ ss' x t, ss = ss' ++ [x] ∧ StrsAre vs ss' ∧ v = .str x t := by
  induction vs generalizing ss with
  | nil =>
    cases h with
    | cons y t r => cases r; exact ⟨[], y, t, rfl, .nil, rfl⟩
  | cons u vs ih =>
    cases h with
    | cons y t r =>
      obtain ⟨ss', x, t', rfl, h1, h2⟩ := ih r
      exact ⟨y :: ss', x, t', rfl, .cons _ _ h1, h2⟩
theorem npStep_len (ini : Str) (acc : List Str) (c : Str) : (npStep ini acc c).length ≤ acc.length + 1 := by
  unfold npStep
  repeat' split
  all_goals first | (simp; done) | (rw [List.length_dropLast]; omega) | omega
theorem npFold_len (ini : Str) (cs : List Str) : (npFold ini cs).length ≤ cs.length := by
  have : ∀ (cs : List Str) (a : List Str), (cs.foldl (npStep ini) a).length ≤ a.length + cs.length := by
    intro cs
    induction cs with
    | nil => intro a; simp
    | cons c r ih => intro a; have h1 := ih (npStep ini a c); have h2 := npStep_len ini a c; simp only [List.foldl_cons, List.length_cons]; omega
  have h9 := this cs []
  unfold npFold
  simpa using h9
theorem npFold_succ (ini : Str) {cs : List Str} {i : Nat} {c : Str} (h : cs[i]? = some c) : npFold ini (cs.take (i + 1)) = npStep ini (npFold ini (cs.take i)) c := by
  unfold npFold
  rw [List.take_add_one, h, List.foldl_append]
  rfl
/-- the parts that are left of a way, and their sizes -/
def npParts (p : Str) : List Str := npFold (srF p).1 (Txt.split (srF p).2 (Str.ofString "/"))
def NpOk (p : Str) : Prop := (Txt.split (srF p).2 (Str.ofString "/")).length ≤ 1000 ∧ ((npParts p).map (·.length)).sum + (npParts p).length * 64 ≤ 16777216 ∧ (Txt.join (Str.ofString "/") (npParts p)).length ≤ 1000
def normF (p : Str) : Str := if (p.length : Int) = 0 then Str.ofString "." else if (((srF p).1 ++ Txt.join (Str.ofString "/") (npParts p)).length : Int) = 0 then Str.ofString "." else (srF p).1 ++ Txt.join (Str.ofString "/") (npParts p)
theorem normpath_c (w : World) (p : Str) (t : Tok) (hp : p.length ≤ 1000) (h1 : (srF p).1.length ≤ 1000) (h2 : (srF p).2.length ≤ 1000) (hok : NpOk p) : Call w 860 8600 167 [.str p t] (fun v => ∃ t, v = .str (normF p) t) := by
  k_with_none
  k_with "call builtin:list.append" => (k_here; (with_reducible show wpAny _ _ (call (Value.builtin "list.append") [Value.ref _, _]) _ _ _); k_dflt (refine' g_append (by with_reducible assumption) (by with_reducible assumption) (by with_reducible assumption) (by first | with_reducible assumption | exact Nat.zero_le _) ?_; k_whole); intro h9 F9 N9)
  k_with "call builtin:list.pop" => (k_here; (with_reducible show wpAny _ _ (call (Value.builtin "list.pop") [Value.ref _]) _ _ _); k_dflt (refine' g_pop (by with_reducible assumption) (by with_reducible assumption) (by with_reducible assumption) (by first | with_reducible assumption | exact Nat.zero_le _) ?_; k_whole); intro h9 F9 N9)
  k_with "truthy ref" => (k_here; (with_reducible show wpAny _ _ (truthy (Value.ref _)) _ _ _); k_dflt (first | (refine' g_true (by with_reducible assumption) (by with_reducible assumption) ?_; k_whole) | (refine' g_nil (by with_reducible assumption) ?_; k_whole)))
  k_with "subscriptTail Name UnaryOp ref int" => (k_here; (with_reducible show wpAny _ _ (subscriptTail _ _ (Value.ref _) _) _ _ _); k_dflt (refine' g_last (by with_reducible assumption) ?_ (by with_unfolding_all rfl); k_whole))
  k_with "call builtin:str.join" => (k_here; (with_reducible show wpAny _ _ (call (Value.builtin "str.join") [Value.str _ _, Value.ref _]) _ _ _); k_dflt (refine' g_join (by with_reducible assumption) (by k_mem) (by exact rfl) (by exact rfl) (by with_reducible assumption) (by decide +kernel) (by with_reducible assumption) ?_; k_whole); intro t9 k9)
  k_with "binaryOp Add str str" => (k_here; (with_reducible show wpAny _ _ (binaryOp Operator.Add (Value.str _ _) (Value.str _ _)) _ _ _); (refine' PyProof.Rows.add_str ?_ (by with_reducible assumption)); intro t9 k9)
  k_with "call ref" => (k_here; (with_reducible show wpAny _ _ (call (Value.ref 111) [Value.str _ _]) _ _ _); k_dflt (refine' Call.use (fspath_c _ _ _) (by exact Nat.le_of_ble_eq_true rfl) (by exact Nat.le_of_ble_eq_true rfl) (by k_asm) (by k_asm) (by k_asm) (by k_asm) (by k_asm) (by first | exact rfl | assumption) ?_); k_whole; (intro v9 h9 tk9 R9 F9 N9); (obtain ⟨_, R9⟩ := R9); subst R9; (try dsimp only); (try k_fold))
  k_with "call ref" => (k_here; (with_reducible show wpAny _ _ (call (Value.ref 146) [Value.str _ _]) _ _ _); k_dflt (refine' CallO.use (splitroot_c _ _ _ (by assumption)) (by exact Nat.le_of_ble_eq_true rfl) (by exact Nat.le_of_ble_eq_true rfl) (by k_asm) (by k_asm) (by k_asm) (by k_asm) (by k_asm) (by first | exact rfl | assumption) ?_); k_whole; (intro D9 o9 h9 tk9 R9 F9 N9); (obtain ⟨_, _, _, R9⟩ := R9); subst R9; (try dsimp only); (try k_fold))
  k_with "exec For Name Name cons nil" => (k_here; (rename Fr _ _ _ _ => lF'); (with_unfolding_all refine' For_turns lF' ?_; k_whole))
  unfold Call
  k_fill
  intro mean mg mb d u gd cn cs a ccd cl outer A₀ base h₀ L m s Q E news hd hu B F KX N T hk hret
  refine wpAny_le (A' := ktrTop 860 8600 gd cn cs L a ccd cl outer) rfl hd (fun _ e => e) (fun _ e => e) hu ?_
  obtain ⟨kd, nms, ig, ic, mo⟩ := cs
  dsimp only at hk
  subst hk
  refine wpAny_call ?_
  k_dflt k_enter
  k_steps
  · (with_reducible rename StrsAre _ _ => hS)
    (with_reducible rename (List.map _ _ = Txt.split _ _) => hE)
    (with_reducible rename (∀ a ∈ _, Str.length a ≤ _) => hLe)
    (with_reducible rename (_ ∧ _ ∧ AllLt _ _) => l1x)
    (rename Fr _ _ _ _ => lF'); (rename News _ _ _ _ => lN')
    rw [hE] at hS hLe
    have hlS := hS.length
    refine' fold_grow (g₀ := []) [Str.ofString "comp"] (fun i g => StrsAre g (npFold (srF p).1 ((Txt.split (srF p).2 (Str.ofString "/")).take i))) rfl (List.Mem.head _) ?nc lF' lN' .nil ?turn ?done
    case nc =>
      refine List.forall_mem_cons.mpr ⟨Nat.ne_of_lt l1x.1, List.forall_mem_cons.mpr ⟨Nat.ne_of_lt l1x.2.1, fun q hq => Nat.ne_of_lt (allLt_mem l1x.2.2 q hq)⟩⟩
    case turn =>
      intro i v g n u h tk2 own tl hv hoff hP ht ho hne9 F1 N1
      clear lF' lN'
      obtain ⟨c, tc, rfl, hc⟩ := hS.item i v hv
      have hcl := hLe c (List.mem_of_getElem? hc)
      have hgz : g.length ≤ sizeLine := by
        have h7 := npFold_len (srF p).1 ((Txt.split (srF p).2 (Str.ofString "/")).take i)
        have h8 := hok.1
        rw [List.length_take] at h7
        rw [hP.length, sizeLine_eq]; omega
      rcases List.eq_nil_or_concat g with rfl | ⟨g', gv, rfl⟩
      · have hnil : npFold (srF p).1 ((Txt.split (srF p).2 (Str.ofString "/")).take i) = [] := by cases hq : npFold (srF p).1 ((Txt.split (srF p).2 (Str.ofString "/")).take i) with
          | nil => rfl
          | cons y r => rw [hq] at hP; cases hP
        k_steps
        · refine grow_end (P := fun g => StrsAre g (npFold (srF p).1 ((Txt.split (srF p).2 (Str.ofString "/")).take (i + 1)))) _ _ (by assumption) (by assumption) hoff (List.Mem.head _) (fun q hq => List.Mem.tail _ (ht q hq)) (fun q hq => List.Mem.tail _ (ho q hq)) ?_ (fun y hy => ?_)
          · rw [npFold_succ _ hc]; unfold npStep
            rw [if_neg (by assumption), if_pos (by assumption)]
            exact hP
          · (have h1y := not_one hy; simp only [if_neg h1y, hy, Bool.false_eq_true, if_false])
        · refine grow_end (P := fun g => StrsAre g (npFold (srF p).1 ((Txt.split (srF p).2 (Str.ofString "/")).take (i + 1)))) _ _ (by assumption) (by assumption) hoff (List.Mem.head _) (fun q hq => List.Mem.tail _ (ht q hq)) (fun q hq => List.Mem.tail _ (ho q hq)) ?_ (fun y hy => ?_)
          · rw [npFold_succ _ hc]; unfold npStep
            rw [if_neg (by assumption), if_neg (ne_true (by assumption)), if_pos (by assumption)]
            exact hP.append' (.cons _ _ .nil)
          · (have h1y := not_one hy; simp only [if_neg h1y, hy, Bool.false_eq_true, if_false])
        · refine grow_end (P := fun g => StrsAre g (npFold (srF p).1 ((Txt.split (srF p).2 (Str.ofString "/")).take (i + 1)))) _ _ (by assumption) (by assumption) hoff (List.Mem.head _) (fun q hq => List.Mem.tail _ (ht q hq)) (fun q hq => List.Mem.tail _ (ho q hq)) ?_ (fun y hy => ?_)
          · rw [npFold_succ _ hc]; unfold npStep
            rw [if_neg (by assumption), if_neg (ne_true (by assumption)), if_neg (ne_true (by assumption)), hnil, if_neg (fun h9 => absurd h9.1 (by assumption)), if_neg (by simp)]
            exact .nil
          · (have h1y := not_one hy; simp only [if_neg h1y, hy, Bool.false_eq_true, if_false])
        · refine grow_end (P := fun g => StrsAre g (npFold (srF p).1 ((Txt.split (srF p).2 (Str.ofString "/")).take (i + 1)))) _ _ (by assumption) (by assumption) hoff (List.Mem.head _) (fun q hq => List.Mem.tail _ (ht q hq)) (fun q hq => List.Mem.tail _ (ho q hq)) ?_ (fun y hy => ?_)
          · rw [npFold_succ _ hc]; unfold npStep
            rw [if_neg (by assumption), if_neg (ne_true (by assumption)), if_neg (ne_true (by assumption)), hnil, if_pos ⟨by assumption, rfl⟩]
            exact .cons _ _ .nil
          · (have h1y := not_one hy; simp only [if_neg h1y, hy, Bool.false_eq_true, if_false])
        · refine grow_end (P := fun g => StrsAre g (npFold (srF p).1 ((Txt.split (srF p).2 (Str.ofString "/")).take (i + 1)))) _ _ (by assumption) (by assumption) hoff (List.Mem.head _) (fun q hq => List.Mem.tail _ (ht q hq)) (fun q hq => List.Mem.tail _ (ho q hq)) ?_ (fun y hy => ?_)
          · rw [npFold_succ _ hc]; unfold npStep
            rw [if_pos (by assumption)]
            exact hP
          · (have h1y := not_one hy; simp only [if_neg h1y, hy, Bool.false_eq_true, if_false])
      · rw [List.concat_eq_append] at hP hgz N1
        obtain ⟨acc, lx, lt, hacc, hP', rfl⟩ := strs_snoc hP
        k_steps
        · refine grow_end (P := fun g => StrsAre g (npFold (srF p).1 ((Txt.split (srF p).2 (Str.ofString "/")).take (i + 1)))) _ _ (by assumption) (by assumption) hoff (List.Mem.head _) (fun q hq => List.Mem.tail _ (ht q hq)) (fun q hq => List.Mem.tail _ (ho q hq)) ?_ (fun y hy => ?_)
          · rw [npFold_succ _ hc]; unfold npStep
            rw [if_neg (by assumption), if_pos (by assumption)]
            exact hP
          · (have h1y := not_one hy; simp only [if_neg h1y, hy, Bool.false_eq_true, if_false])
        · refine grow_end (P := fun g => StrsAre g (npFold (srF p).1 ((Txt.split (srF p).2 (Str.ofString "/")).take (i + 1)))) _ _ (by assumption) (by assumption) hoff (List.Mem.head _) (fun q hq => List.Mem.tail _ (ht q hq)) (fun q hq => List.Mem.tail _ (ho q hq)) ?_ (fun y hy => ?_)
          · rw [npFold_succ _ hc]; unfold npStep
            rw [if_neg (by assumption), if_neg (ne_true (by assumption)), if_pos (by assumption)]
            exact hP.append' (.cons _ _ .nil)
          · (have h1y := not_one hy; simp only [if_neg h1y, hy, Bool.false_eq_true, if_false])
        · refine grow_end (P := fun g => StrsAre g (npFold (srF p).1 ((Txt.split (srF p).2 (Str.ofString "/")).take (i + 1)))) _ _ (by assumption) (by assumption) hoff (List.Mem.head _) (fun q hq => List.Mem.tail _ (ht q hq)) (fun q hq => List.Mem.tail _ (ho q hq)) ?_ (fun y hy => ?_)
          · rw [npFold_succ _ hc]; unfold npStep
            rw [if_neg (by assumption), if_neg (ne_true (by assumption)), if_neg (ne_true (by assumption)), hacc, if_neg (fun h9 => absurd h9.2 (by simp)), if_pos (by rw [List.getLast?_concat, eq_of_beq (by assumption : (lx == Str.ofString "..") = true)])]
            rw [← hacc]; exact hP.append' (.cons _ _ .nil)
          · (have h1y := not_one hy; simp only [if_neg h1y, hy, Bool.false_eq_true, if_false])
        · refine grow_end (P := fun g => StrsAre g (npFold (srF p).1 ((Txt.split (srF p).2 (Str.ofString "/")).take (i + 1)))) _ _ (by assumption) (by assumption) hoff (List.Mem.head _) (fun q hq => List.Mem.tail _ (ht q hq)) (fun q hq => List.Mem.tail _ (ho q hq)) ?_ (fun y hy => ?_)
          · rw [npFold_succ _ hc]; unfold npStep
            rw [if_neg (by assumption), if_neg (ne_true (by assumption)), if_neg (ne_true (by assumption)), hacc, if_neg (fun h9 => absurd h9.2 (by simp)), if_neg (by rw [List.getLast?_concat]; exact fun h9 => ne_true (by assumption : (lx == Str.ofString "..") = false) (by rw [Option.some.inj h9]; exact beq_self_eq_true _)), List.dropLast_concat]
            exact hP'
          · (have h1y := not_one hy; simp only [if_neg h1y, hy, Bool.false_eq_true, if_false])
        · refine grow_end (P := fun g => StrsAre g (npFold (srF p).1 ((Txt.split (srF p).2 (Str.ofString "/")).take (i + 1)))) _ _ (by assumption) (by assumption) hoff (List.Mem.head _) (fun q hq => List.Mem.tail _ (ht q hq)) (fun q hq => List.Mem.tail _ (ho q hq)) ?_ (fun y hy => ?_)
          · rw [npFold_succ _ hc]; unfold npStep
            rw [if_neg (by assumption), if_neg (ne_true (by assumption)), if_neg (ne_true (by assumption)), hacc, if_neg (fun h9 => absurd h9.2 (by simp)), if_pos (by rw [List.getLast?_concat, eq_of_beq (by assumption : (lx == Str.ofString "..") = true)])]
            rw [← hacc]; exact hP.append' (.cons _ _ .nil)
          · (have h1y := not_one hy; simp only [if_neg h1y, hy, Bool.false_eq_true, if_false])
        · refine grow_end (P := fun g => StrsAre g (npFold (srF p).1 ((Txt.split (srF p).2 (Str.ofString "/")).take (i + 1)))) _ _ (by assumption) (by assumption) hoff (List.Mem.head _) (fun q hq => List.Mem.tail _ (ht q hq)) (fun q hq => List.Mem.tail _ (ho q hq)) ?_ (fun y hy => ?_)
          · rw [npFold_succ _ hc]; unfold npStep
            rw [if_neg (by assumption), if_neg (ne_true (by assumption)), if_neg (ne_true (by assumption)), hacc, if_neg (fun h9 => absurd h9.2 (by simp)), if_neg (by rw [List.getLast?_concat]; exact fun h9 => ne_true (by assumption : (lx == Str.ofString "..") = false) (by rw [Option.some.inj h9]; exact beq_self_eq_true _)), List.dropLast_concat]
            exact hP'
          · (have h1y := not_one hy; simp only [if_neg h1y, hy, Bool.false_eq_true, if_false])
        · refine grow_end (P := fun g => StrsAre g (npFold (srF p).1 ((Txt.split (srF p).2 (Str.ofString "/")).take (i + 1)))) _ _ (by assumption) (by assumption) hoff (List.Mem.head _) (fun q hq => List.Mem.tail _ (ht q hq)) (fun q hq => List.Mem.tail _ (ho q hq)) ?_ (fun y hy => ?_)
          · rw [npFold_succ _ hc]; unfold npStep
            rw [if_pos (by assumption)]
            exact hP
          · (have h1y := not_one hy; simp only [if_neg h1y, hy, Bool.false_eq_true, if_false])
    case done =>
      intro g n u h tk2 hP F1 N1
      clear lF' lN'
      rw [hlS, List.take_length] at hP
      have hjl : (Txt.join (Str.ofString "/") (npFold (srF p).1 (Txt.split (srF p).2 (Str.ofString "/")))).length ≤ 1000 := hok.2.2
      k_steps
      refine' g_join ?N ?m ?c ?d ?i ?s ?o ?_
      case N => with_reducible assumption
      case m => k_mem
      case c => exact rfl
      case d => exact rfl
      case i => exact hP
      case s => decide +kernel
      case o => exact hok.2.1
      intro t9 k9
      have hsum : (srF p).1.length + (Txt.join (Str.ofString "/") (npFold (srF p).1 (Txt.split (srF p).2 (Str.ofString "/")))).length ≤ sizeLine := by rw [sizeLine_eq]; omega
      have hcat : ((srF p).1 ++ Txt.join (Str.ofString "/") (npFold (srF p).1 (Txt.split (srF p).2 (Str.ofString "/")))).length ≤ 2000 := by rw [Str.length_append]; omega
      generalize hJ : Txt.join (Str.ofString "/") (npFold (srF p).1 (Txt.split (srF p).2 (Str.ofString "/"))) = jn at *
      k_steps
      · refine hret _ _ _ ⟨_, congrArg (fun z => Value.str z _) ?_⟩ (by assumption) (news_sub (by assumption) fun q hq => List.Mem.tail _ (List.Mem.tail _ (List.Mem.tail _ hq)))
        unfold normF npParts
        rw [hJ, if_neg (by assumption), if_neg (by assumption)]
      · refine hret _ _ _ ⟨_, congrArg (fun z => Value.str z _) ?_⟩ (by assumption) (news_sub (by assumption) fun q hq => List.Mem.tail _ (List.Mem.tail _ (List.Mem.tail _ hq)))
        unfold normF npParts
        rw [hJ, if_neg (by assumption), if_pos (by assumption)]
  · refine hret _ _ _ ⟨_, congrArg (fun z => Value.str z _) ?_⟩ (by assumption) (by assumption)
    unfold normF
    rw [if_pos (by assumption)]
end Mine
end
section
open PySem PySem.W PyProof.Rows PySem.Spec PySem.Calls
namespace Mine
local macro_rules | `(tactic| walk_at $s:str) => `(tactic| k_extra $s)
/-- os.path.join of two -/
def joinF (p q : Str) : Str := if Txt.startswith q (Str.ofString "/") = true then q else if (p.length : Int) = 0 then q else if Txt.endswith p (Str.ofString "/") = true then p ++ q else p ++ (Str.ofString "/" ++ q)
theorem join_c (w : World) (p q : Str) (t t2 : Tok) (hp : p.length ≤ 1000) (hq : q.length ≤ 1000) : Call w 850 8500 132 [.str p t, .str q t2] (fun v => ∃ t, v = .str (joinF p q) t) := by
  k_with_none
  k_with "call ref" => (k_here; (with_reducible show wpAny _ _ (call (Value.ref 111) [Value.str _ _]) _ _ _); k_dflt (refine' Call.use (fspath_c _ _ _) (by exact Nat.le_of_ble_eq_true rfl) (by exact Nat.le_of_ble_eq_true rfl) (by k_asm) (by k_asm) (by k_asm) (by k_asm) (by k_asm) (by first | exact rfl | assumption) ?_); k_whole; (intro v9 h9 tk9 R9 F9 N9); (obtain ⟨_, R9⟩ := R9); subst R9; (try dsimp only); (try k_fold))
  k_with "exec For Name Name cons nil" => (k_here; (refine wpAny_mono (E := fun _ _ => False) ?_ (fun _ _ q => q) (fun _ _ f => f.elim)); (rename Fr _ _ _ _ => lF'); (with_unfolding_all refine' For_turns lF' ?_; k_whole))
  unfold Call
  k_fill
  intro mean mg mb d u gd cn cs a ccd cl outer A₀ base h₀ L m s Q E news hd hu B F KX N T hk hret
  refine wpAny_le (A' := ktrTop 850 8500 gd cn cs L a ccd cl outer) rfl hd (fun _ e => e) (fun _ e => e) hu ?_
  obtain ⟨kd, nms, ig, ic, mo⟩ := cs
  dsimp only at hk
  subst hk
  refine wpAny_call ?_
  k_dflt k_enter
  k_steps
  (rename Fr _ _ _ _ => lF'); (rename News _ _ _ _ => lN')
  refine iter_tupTurns rfl lF' lN' (List.Mem.head _) rfl rfl (fun I9 hI9 => ?_)
  clear lF' lN'
  k_steps
  all_goals (refine ⟨_, _, _, _ :: news, rfl, by assumption, by assumption, fun q1 hq1 q2 hq2 => (by rw [List.mem_singleton.mp hq2]; exact Nat.ne_of_lt (hI9 q1 hq1)), ⟨⟨List.Mem.head _, trivial⟩, ?_⟩⟩)
  all_goals (refine ItemsRest.zero ?_; intro h7 tk7 F7 N7)
  all_goals k_steps
  all_goals refine hret _ _ _ ⟨_, congrArg (fun z => Value.str z _) ?_⟩ (by assumption) (news_sub (by assumption) fun q hq => List.Mem.tail _ hq)
  · unfold joinF; rw [if_pos (by assumption)]
  · unfold joinF; rw [if_neg (ne_true (by assumption)), if_neg (by assumption), if_pos (by assumption)]
  · unfold joinF; rw [if_neg (ne_true (by assumption)), if_neg (by assumption), if_neg (ne_true (by assumption))]
  · unfold joinF; rw [if_neg (ne_true (by assumption)), if_pos (by assumption)]
end Mine
end
section
open PySem PySem.W PyProof.Rows PySem.Spec PySem.Calls
namespace Mine
local macro_rules | `(tactic| walk_at $s:str) => `(tactic| k_extra $s)
theorem split_c (w : World) (p : Str) (t : Tok) (hp : p.length ≤ 1000) : CallO w 850 8500 139 [.str p t] (fun o => ∃ t0 t1, o = { cls := .type "tuple", data := .seq #[.str (dirnameF p) t0, .str (basenameF p) t1] }) := by
  k_with_none
  k_with "call ref" => (k_here; (with_reducible show wpAny _ _ (call (Value.ref 111) [Value.str _ _]) _ _ _); k_dflt (refine' Call.use (fspath_c _ _ _) (by exact Nat.le_of_ble_eq_true rfl) (by exact Nat.le_of_ble_eq_true rfl) (by k_asm) (by k_asm) (by k_asm) (by k_asm) (by k_asm) (by first | exact rfl | assumption) ?_); k_whole; (intro v9 h9 tk9 R9 F9 N9); (obtain ⟨_, R9⟩ := R9); subst R9; (try dsimp only); (try k_fold))
  unfold CallO
  k_fill
  intro mean mg mb d u gd cn cs a ccd cl outer A₀ base h₀ L m s Q E news hd hu B F KX N T hk hret
  refine wpAny_le (A' := ktrTop 850 8500 gd cn cs L a ccd cl outer) rfl hd (fun _ e => e) (fun _ e => e) hu ?_
  obtain ⟨kd, nms, ig, ic, mo⟩ := cs
  dsimp only at hk
  subst hk
  refine wpAny_call ?_
  k_dflt k_enter
  k_steps
  · have e : dirnameF p = Txt.rstripChars (headF p) (Str.ofString "/") := by unfold dirnameF; rw [if_neg (by assumption), if_neg (ne_false (by assumption))]
    rw [e] at hret
    exact hret _ _ _ _ ⟨_, _, rfl⟩ (by assumption) (news_sub (by assumption) fun q hq => by first | exact hq | (cases hq with | head => exact .head _ | tail _ hq => exact .tail _ (.tail _ hq)))
  · have e : dirnameF p = headF p := by unfold dirnameF; rw [if_neg (by assumption), if_pos (by assumption)]
    rw [e] at hret
    exact hret _ _ _ _ ⟨_, _, rfl⟩ (by assumption) (news_sub (by assumption) fun q hq => by first | exact hq | (cases hq with | head => exact .head _ | tail _ hq => exact .tail _ (.tail _ hq)))
  · have e : dirnameF p = headF p := by unfold dirnameF; rw [if_pos (by assumption)]
    rw [e] at hret
    exact hret _ _ _ _ ⟨_, _, rfl⟩ (by assumption) (news_sub (by assumption) fun q hq => by first | exact hq | (cases hq with | head => exact .head _ | tail _ hq => exact .tail _ (.tail _ hq)))
end Mine
end
section
open PySem PySem.W PyProof.Rows PySem.Spec PySem.Calls
set_option maxHeartbeats 0
namespace Mine
open PySem.W.X
set_option hygiene false in
local macro_rules | `(tactic| x_close) => `(tactic| first | exact hret _ _ _ (mem_keeps (by assumption)) | fail)
theorem convN_0 (w : World) : Conv w true ⟨#[47]⟩ := by
  unfold Conv
  intro b t fr s Q E KX hret
  have hb9 := b_at w _ KX
  generalize PySem.Challenge.rw_pd0177_01.row.prog = prg9
  x_run
theorem convN_1 (w : World) : Conv w true ⟨#[47,65]⟩ := by
  unfold Conv
  intro b t fr s Q E KX hret
  have hb9 := b_at w _ KX
  generalize PySem.Challenge.rw_pd0177_01.row.prog = prg9
  x_run
theorem convN_2 (w : World) : Conv w true ⟨#[47,65,47,65]⟩ := by
  unfold Conv
  intro b t fr s Q E KX hret
  have hb9 := b_at w _ KX
  generalize PySem.Challenge.rw_pd0177_01.row.prog = prg9
  x_run
theorem convN_3 (w : World) : Conv w true ⟨#[47,65,47,97]⟩ := by
  unfold Conv
  intro b t fr s Q E KX hret
  have hb9 := b_at w _ KX
  generalize PySem.Challenge.rw_pd0177_01.row.prog = prg9
  x_run
theorem convN_4 (w : World) : Conv w true ⟨#[47,65,47,98]⟩ := by
  unfold Conv
  intro b t fr s Q E KX hret
  have hb9 := b_at w _ KX
  generalize PySem.Challenge.rw_pd0177_01.row.prog = prg9
  x_run
theorem convN_5 (w : World) : Conv w true ⟨#[47,97]⟩ := by
  unfold Conv
  intro b t fr s Q E KX hret
  have hb9 := b_at w _ KX
  generalize PySem.Challenge.rw_pd0177_01.row.prog = prg9
  x_run
theorem convN_6 (w : World) : Conv w true ⟨#[47,97,47,65]⟩ := by
  unfold Conv
  intro b t fr s Q E KX hret
  have hb9 := b_at w _ KX
  generalize PySem.Challenge.rw_pd0177_01.row.prog = prg9
  x_run
theorem convN_7 (w : World) : Conv w true ⟨#[47,97,47,97]⟩ := by
  unfold Conv
  intro b t fr s Q E KX hret
  have hb9 := b_at w _ KX
  generalize PySem.Challenge.rw_pd0177_01.row.prog = prg9
  x_run
theorem convN_8 (w : World) : Conv w true ⟨#[47,97,47,97,47,98]⟩ := by
  unfold Conv
  intro b t fr s Q E KX hret
  have hb9 := b_at w _ KX
  generalize PySem.Challenge.rw_pd0177_01.row.prog = prg9
  x_run
theorem convN_9 (w : World) : Conv w true ⟨#[47,97,47,98]⟩ := by
  unfold Conv
  intro b t fr s Q E KX hret
  have hb9 := b_at w _ KX
  generalize PySem.Challenge.rw_pd0177_01.row.prog = prg9
  x_run
theorem convN_10 (w : World) : Conv w true ⟨#[47,98]⟩ := by
  unfold Conv
  intro b t fr s Q E KX hret
  have hb9 := b_at w _ KX
  generalize PySem.Challenge.rw_pd0177_01.row.prog = prg9
  x_run
theorem convN_11 (w : World) : Conv w true ⟨#[47,98,47,65]⟩ := by
  unfold Conv
  intro b t fr s Q E KX hret
  have hb9 := b_at w _ KX
  generalize PySem.Challenge.rw_pd0177_01.row.prog = prg9
  x_run
theorem convN_12 (w : World) : Conv w true ⟨#[47,98,47,97]⟩ := by
  unfold Conv
  intro b t fr s Q E KX hret
  have hb9 := b_at w _ KX
  generalize PySem.Challenge.rw_pd0177_01.row.prog = prg9
  x_run
theorem convN_13 (w : World) : Conv w true ⟨#[47,98,47,97,47,98]⟩ := by
  unfold Conv
  intro b t fr s Q E KX hret
  have hb9 := b_at w _ KX
  generalize PySem.Challenge.rw_pd0177_01.row.prog = prg9
  x_run
theorem convN_14 (w : World) : Conv w true ⟨#[47,98,47,98]⟩ := by
  unfold Conv
  intro b t fr s Q E KX hret
  have hb9 := b_at w _ KX
  generalize PySem.Challenge.rw_pd0177_01.row.prog = prg9
  x_run
def names_ : List Str := [⟨#[47]⟩, ⟨#[47,65]⟩, ⟨#[47,65,47,65]⟩, ⟨#[47,65,47,97]⟩, ⟨#[47,65,47,98]⟩, ⟨#[47,97]⟩, ⟨#[47,97,47,65]⟩, ⟨#[47,97,47,97]⟩, ⟨#[47,97,47,97,47,98]⟩, ⟨#[47,97,47,98]⟩, ⟨#[47,98]⟩, ⟨#[47,98,47,65]⟩, ⟨#[47,98,47,97]⟩, ⟨#[47,98,47,97,47,98]⟩, ⟨#[47,98,47,98]⟩]
theorem convN (w : World) (x : Str) (h : x ∈ names_) : Conv w true x := by
  unfold names_ at h
  simp only [List.mem_cons, List.not_mem_nil, or_false] at h
  rcases h with rfl | rfl | rfl | rfl | rfl | rfl | rfl | rfl | rfl | rfl | rfl | rfl | rfl | rfl | rfl
  · exact convN_0 w
  · exact convN_1 w
  · exact convN_2 w
  · exact convN_3 w
  · exact convN_4 w
  · exact convN_5 w
  · exact convN_6 w
  · exact convN_7 w
  · exact convN_8 w
  · exact convN_9 w
  · exact convN_10 w
  · exact convN_11 w
  · exact convN_12 w
  · exact convN_13 w
  · exact convN_14 w
theorem convV_0 (w : World) : Conv w false ⟨#[98]⟩ := by
  unfold Conv
  intro b t fr s Q E KX hret
  have hb9 := b_at w _ KX
  generalize PySem.Challenge.rw_pd0177_01.row.prog = prg9
  x_run
theorem convV_1 (w : World) : Conv w false ⟨#[46,46,47,98]⟩ := by
  unfold Conv
  intro b t fr s Q E KX hret
  have hb9 := b_at w _ KX
  generalize PySem.Challenge.rw_pd0177_01.row.prog = prg9
  x_run
theorem convV_2 (w : World) : Conv w false ⟨#[47,65,47,98]⟩ := by
  unfold Conv
  intro b t fr s Q E KX hret
  have hb9 := b_at w _ KX
  generalize PySem.Challenge.rw_pd0177_01.row.prog = prg9
  x_run
theorem convV_3 (w : World) : Conv w false ⟨#[46,47,97]⟩ := by
  unfold Conv
  intro b t fr s Q E KX hret
  have hb9 := b_at w _ KX
  generalize PySem.Challenge.rw_pd0177_01.row.prog = prg9
  x_run
theorem convV_4 (w : World) : Conv w false ⟨#[46,46]⟩ := by
  unfold Conv
  intro b t fr s Q E KX hret
  have hb9 := b_at w _ KX
  generalize PySem.Challenge.rw_pd0177_01.row.prog = prg9
  x_run
theorem convV_5 (w : World) : Conv w false ⟨#[65,47,46,47,98,47]⟩ := by
  unfold Conv
  intro b t fr s Q E KX hret
  have hb9 := b_at w _ KX
  generalize PySem.Challenge.rw_pd0177_01.row.prog = prg9
  x_run
theorem convV_6 (w : World) : Conv w false ⟨#[46,46,47,46,46,47,97,47,47,98]⟩ := by
  unfold Conv
  intro b t fr s Q E KX hret
  have hb9 := b_at w _ KX
  generalize PySem.Challenge.rw_pd0177_01.row.prog = prg9
  x_run
theorem convV_7 (w : World) : Conv w false ⟨#[47]⟩ := by
  unfold Conv
  intro b t fr s Q E KX hret
  have hb9 := b_at w _ KX
  generalize PySem.Challenge.rw_pd0177_01.row.prog = prg9
  x_run
def links_ : List Str := [⟨#[98]⟩, ⟨#[46,46,47,98]⟩, ⟨#[47,65,47,98]⟩, ⟨#[46,47,97]⟩, ⟨#[46,46]⟩, ⟨#[65,47,46,47,98,47]⟩, ⟨#[46,46,47,46,46,47,97,47,47,98]⟩, ⟨#[47]⟩]
theorem convV (w : World) (x : Str) (h : x ∈ links_) : Conv w false x := by
  unfold links_ at h
  simp only [List.mem_cons, List.not_mem_nil, or_false] at h
  rcases h with rfl | rfl | rfl | rfl | rfl | rfl | rfl | rfl
  · exact convV_0 w
  · exact convV_1 w
  · exact convV_2 w
  · exact convV_3 w
  · exact convV_4 w
  · exact convV_5 w
  · exact convV_6 w
  · exact convV_7 w
end Mine
end
section
open PySem PySem.W PyProof.Rows PySem.Spec PySem.Calls
namespace Mine
theorem fmod8 (n : Int) : n.fmod 8 = 0 ∨ n.fmod 8 = 1 ∨ n.fmod 8 = 2 ∨ n.fmod 8 = 3 ∨ n.fmod 8 = 4 ∨ n.fmod 8 = 5 ∨ n.fmod 8 = 6 ∨ n.fmod 8 = 7 := by
  rw [Int.fmod_eq_emod_of_nonneg _ (by decide)]; omega
/-- the eight links, by the remainder -/
def linkR (r : Int) : Str := if r = 0 then Str.ofString "b" else if r = 1 then Str.ofString "../b" else if r = 2 then Str.ofString "/A/b" else if r = 3 then Str.ofString "./a" else if r = 4 then Str.ofString ".." else if r = 5 then Str.ofString "A/./b/" else if r = 6 then Str.ofString "../../a//b" else Str.ofString "/"
theorem link_c (w : World) (n : Int) (t : Tok) : Call w 850 8500 316 [.int n t] (fun v => ∃ t, v = .str (linkR ((n.fdiv 18).fmod 8)) t) := by
  k_with_none
  unfold Call
  k_fill
  intro mean mg mb d u gd cn cs a ccd cl outer A₀ base h₀ L m s Q E news hd hu B F KX N T hk hret
  refine wpAny_le (A' := ktrTop 850 8500 gd cn cs L a ccd cl outer) rfl hd (fun _ e => e) (fun _ e => e) hu ?_
  obtain ⟨kd, nms, ig, ic, mo⟩ := cs
  dsimp only at hk
  subst hk
  have h8 := fmod8 (n.fdiv 18)
  refine wpAny_call ?_
  k_dflt k_enter
  k_steps
  generalize (n.fdiv 18).fmod 8 = r at hret h8 ⊢
  rcases h8 with rfl | rfl | rfl | rfl | rfl | rfl | rfl | rfl
  all_goals k_steps
  all_goals exact hret _ _ _ ⟨_, rfl⟩ (by assumption) (news_sub (by assumption) fun q hq => List.Mem.tail _ hq)
end Mine
end
section
open PySem PySem.W PyProof.Rows PySem.Spec PySem.Calls
namespace Mine
local macro_rules | `(tactic| walk_at $s:str) => `(tactic| k_extra $s)
theorem fmod2 (n : Int) : 1 + n.fmod 2 = 1 ∨ 1 + n.fmod 2 = 2 := by
  rw [Int.fmod_eq_emod_of_nonneg _ (by decide)]; omega
theorem by3 {P : Int → Prop} (x : Int) (h0 : x.fmod 3 = 0 → P 0) (h1 : x.fmod 3 = 1 → P 1) (h2 : x.fmod 3 = 2 → P 2) : P (x.fmod 3) := by
  have h : x.fmod 3 = 0 ∨ x.fmod 3 = 1 ∨ x.fmod 3 = 2 := by rw [Int.fmod_eq_emod_of_nonneg _ (by decide)]; omega
  rcases h with e | e | e
  · rw [e]; exact h0 e
  · rw [e]; exact h1 e
  · rw [e]; exact h2 e
/-- the twelve pages -/
def pages_ : List Str := [⟨#[47,97]⟩, ⟨#[47,65]⟩, ⟨#[47,98]⟩, ⟨#[47,97,47,97]⟩, ⟨#[47,97,47,65]⟩, ⟨#[47,97,47,98]⟩, ⟨#[47,65,47,97]⟩, ⟨#[47,65,47,65]⟩, ⟨#[47,65,47,98]⟩, ⟨#[47,98,47,97]⟩, ⟨#[47,98,47,65]⟩, ⟨#[47,98,47,98]⟩]
theorem page_c (w : World) (n : Int) (t : Tok) : Call w 850 8500 309 [.int n t] (fun v => ∃ p ∈ pages_, ∃ t, v = .str p t) := by
  k_with_none
  k_with "CompSrc" => (k_here; (with_reducible rename IsRange _ _ _ _ _ _ _ _ => hR'); (rw [h2] at hR'); k_dflt (refine LCg.CompSrc.range (by rfl) (by k_asm) (by k_asm) (by assumption) (by first | decide | rfl) (by first | rfl | decide) (by exact Nat.le_of_ble_eq_true rfl) ?_; intro g'; lcg_lit))
  k_with "subscriptTail" => (k_here; (with_reducible show wpAny _ _ (subscriptTail _ _ (Value.ref _) (Value.int (Int.fmod _ 3) _)) _ _ _); refine by3 (P := fun r => wpAny _ _ (subscriptTail _ _ (Value.ref _) (Value.int r _)) _ _ _) _ (fun e3 => ?_) (fun e3 => ?_) (fun e3 => ?_))
  k_with "CompRest" => (
    with_unfolding_all first
    | (refine LCg.CompRest.succ ?_; intro v' I' oI' C' oC' D' m' h' tk' E' hv' hC' hx' F' N' off' ne'; (obtain ⟨t9', hv9'⟩ := hv'; subst hv9'))
    | refine LCg.CompRest.zero ?_)
  k_with "CompEnd" => ((with_reducible rename LCg.Off3 _ _ _ _ => off9); k_dflt (refine LCg.CompEnd.intro (by assumption) (by assumption) _ (fun p hp => List.Mem.tail _ hp) off9 trivial ?_))
  unfold Call
  k_fill
  intro mean mg mb d u gd cn cs a ccd cl outer A₀ base h₀ L m s Q E news hd hu B F KX N T hk hret
  refine wpAny_le (A' := ktrTop 850 8500 gd cn cs L a ccd cl outer) rfl hd (fun _ e => e) (fun _ e => e) hu ?_
  obtain ⟨kd, nms, ig, ic, mo⟩ := cs
  dsimp only at hk
  subst hk
  refine wpAny_call ?_
  rcases fmod2 n with h2 | h2
  · k_dflt k_enter
    k_steps
    all_goals refine hret _ _ _ ⟨_, ?_, _, rfl⟩ (by assumption) (news_sub (by assumption) fun q hq => by repeat (first | exact hq | refine List.Mem.tail _ ?_))
    all_goals decide +kernel
  · k_dflt k_enter
    k_steps
    all_goals refine hret _ _ _ ⟨_, ?_, _, rfl⟩ (by assumption) (news_sub (by assumption) fun q hq => by repeat (first | exact hq | refine List.Mem.tail _ ?_))
    all_goals decide +kernel
end Mine
end
section
open PySem PySem.W PyProof.Rows PySem.Spec PySem.Calls
namespace Mine
section
variable {prog : Program} {w : World} {A : Around} {E : Value → Shared → Prop} {s : Shared} {h₀ : Heap} {env : Env} {target : Expr} {body : List Stmt} {Q : Flow → Shared → Prop}
/-- a for over a ledger's list, where a turn stores the names `ys` and binds `nm` anew to a list of the ledger -/
theorem fold_bind {l nc₀ : Addr} {vs g₀ : List Value} {nn n₀ : Nat} {m₀ : Str → Option Value} {tail : List (Addr × Obj)} (nm : Str) (ys : List Str) (P : Nat → Addr → List Value → Prop)
    (hh : A.handled = none) (hl : (l, listOf vs.toArray nn) ∈ tail) (F : Fr h₀ env.locals s.heap m₀) (hm₀ : m₀ nm = some (.ref nc₀)) (N : News h₀ env.locals s.heap ((nc₀, listOf g₀.toArray n₀) :: tail)) (hp : P 0 nc₀ g₀)
    (turn : ∀ i v nc g n (u : Str → Option Value) h tk own, vs[i]? = some v → OwnOff own (nc :: tail.map (·.1)) → P i nc g → Fr h₀ env.locals h (fun y => if ys.contains y then u y else if y == nm then some (.ref nc) else m₀ y) → News h₀ env.locals h ((nc, listOf g.toArray n) :: (tail ++ own)) →
      wpAny (model prog w) A (assign target env v) (fun _ s₃ => wpAny (model prog w) A (execs body env) (InvPostG h₀ env.locals (fun m' nx => (∃ nc' g' n', nx = (nc', listOf (g' : List Value).toArray n') :: tail ∧ P (i + 1) nc' g' ∧ m' nm = some (.ref nc')) ∧ ∀ y, ys.contains y = false → (y == nm) = false → m' y = m₀ y) own { s with heap := h, toks := tk } Q) E s₃) E { s with heap := h, toks := tk })
    (done : ∀ nc g n (u : Str → Option Value) h tk, P vs.length nc g → Fr h₀ env.locals h (fun y => if ys.contains y then u y else if y == nm then some (.ref nc) else m₀ y) → News h₀ env.locals h ((nc, listOf g.toArray n) :: tail) → Q .next { s with heap := h, toks := tk }) :
    wpAny (model prog w) A (pyIter (.ref l)) (fun it s₂ => TurnsAt prog w A h₀ env target body Q E it s₂) E s := by
  have ex : ∀ (m : Str → Option Value) (nc : Addr), m nm = some (.ref nc) → (∀ y, ys.contains y = false → (y == nm) = false → m y = m₀ y) → m = fun y => if ys.contains y then m y else if y == nm then some (.ref nc) else m₀ y := fun m nc h1 hm => by
    funext y
    cases h : ys.contains y with
    | true => simp
    | false =>
      cases h' : y == nm with
      | true => rw [eq_of_beq h', h1]; simp
      | false => simp [hm y h h']
  refine turns_list (fun i m nx => (∃ nc g n, nx = (nc, listOf (g : List Value).toArray n) :: tail ∧ P i nc g ∧ m nm = some (.ref nc)) ∧ ∀ y, ys.contains y = false → (y == nm) = false → m y = m₀ y) hh (List.Mem.tail _ hl) F N ⟨⟨nc₀, g₀, n₀, rfl, hp, hm₀⟩, fun _ _ _ => rfl⟩ ?_ ?_
  · rintro i v m₁ nx h tk own hv hoff _ ⟨⟨nc, g, n, rfl, hP, hn1⟩, hm⟩ F₁ N₁
    rw [ex m₁ nc hn1 hm] at F₁
    refine wpAny_mono (turn i v nc g n m₁ h tk own hv hoff hP F₁ N₁) (fun _ s₃ x => wpAny_mono x (fun f s₄ p => ?_) fun _ _ e => e) fun _ _ e => e
    have up : InvEndG h₀ env.locals (fun m' nx' => (∃ nc' g' n', nx' = (nc', listOf (g' : List Value).toArray n') :: tail ∧ P (i + 1) nc' g' ∧ m' nm = some (.ref nc')) ∧ ∀ y, ys.contains y = false → (y == nm) = false → m' y = m₀ y) own { s with heap := h, toks := tk } s₄ →
        InvEndG h₀ env.locals (fun m' nx' => (l, listOf vs.toArray nn) ∈ nx' ∧ (∃ nc' g' n', nx' = (nc', listOf (g' : List Value).toArray n') :: tail ∧ P (i + 1) nc' g' ∧ m' nm = some (.ref nc')) ∧ ∀ y, ys.contains y = false → (y == nm) = false → m' y = m₀ y) own { s with heap := h, toks := tk } s₄ := by
      rintro ⟨h', tk', m', news', nx', e, F', N', hn, ho, ha, ⟨nc', g', n', rfl, hP'⟩, hr⟩
      exact ⟨h', tk', m', news', _, e, F', N', hn, ho, ha, List.Mem.tail _ hl, ⟨nc', g', n', rfl, hP'⟩, hr⟩
    cases f with
    | ret v => exact p
    | brk => exact p
    | next => exact up p
    | cont => exact up p
  · rintro m₁ nx h tk ⟨⟨nc, g, n, rfl, hP, hn1⟩, hm⟩ F₁ N₁
    rw [ex m₁ nc hn1 hm] at F₁
    exact done nc g n m₁ h tk hP F₁ N₁
/-- two lists of the ledger, one behind the other -/
theorem g_add {L nc b : Addr} {g ws : List Value} {n n2 : Nat} {m : Str → Option Value} {news : List (Addr × Obj)} {Q : Value → Shared → Prop} (F : Fr h₀ L s.heap m) (N : News h₀ L s.heap news) (ma : (nc, listOf g.toArray n) ∈ news) (mb : (b, listOf ws.toArray n2) ∈ news) (hz : g.length + ws.length ≤ sizeLine)
    (h : ∀ (D : Addr) h', (∀ p ∈ news, p.1 ≠ D) → Fr h₀ L h' m → News h₀ L h' ((D, listOf (g ++ ws).toArray 0) :: news) → Q (.ref D) { s with heap := h' }) : wpAny (model prog w) A (binaryOp .Add (.ref nc) (.ref b)) Q E s :=
  PyProof.Rows.add_lists F N ⟨_, (N _ ma).1, rfl, n, rfl⟩ ⟨_, (N _ mb).1, rfl, n2, rfl⟩ (fun h' F' N' => h s.heap.objs.size h' (fun p hp => Nat.ne_of_lt (Heap.lt_size (N p hp).1)) F' N') hz
/-- a list of the ledger without its last item -/
theorem g_cut {value slice : Expr} {L nc : Addr} {g : List Value} {n : Nat} {m : Str → Option Value} {news : List (Addr × Obj)} {vl vu : Value} {Q : Value → Shared → Prop} (F : Fr h₀ L s.heap m) (N : News h₀ L s.heap news) (ma : (nc, listOf g.toArray n) ∈ news) (pl : IsPart vl none) (pu : IsPart vu (some (-1))) (hz : g.length ≤ sizeLine)
    (h : ∀ (D : Addr) h', (∀ p ∈ news, p.1 ≠ D) → Fr h₀ L h' m → News h₀ L h' ((D, listOf (g.take (g.length - 1)).toArray 0) :: news) → Q (.ref D) { s with heap := h' })
    (hs : subscripted slice false (.ref nc) (.ref s.heap.objs.size) = operate [.ref s.heap.objs.size, .ref nc] (getItem (.ref nc) (.ref s.heap.objs.size))) (ht : ∀ r, letTemporaryGo value (.ref nc) r = pure ()) :
    wpAny (model prog w) A (subscriptTail value slice (.ref nc) (.ref s.heap.objs.size)) Q E { s with heap := s.heap.push { cls := .type "slice", data := .fields #[vl, vu, .none] } } :=
  kmk_slice F N ⟨_, (N _ ma).1, rfl, n, rfl⟩ pl pu (fun D h' F' N' l1 => h D h' (fun p hp => Nat.ne_of_lt (l1 p hp)) F' (by rw [slice_last] at N'; exact N')) hs ht (by rw [List.size_toArray]; exact hz)
/-- a turn's end under fold_bind -/
theorem bind_end {nm : Str} {m₀ m' : Str → Option Value} {tail own news' : List (Addr × Obj)} {ys : List Str} {P : Addr → List Value → Prop} {s₁ : Shared} {L : Addr} {h' : Heap} {tk : Nat} (nc : Addr) (g : List Value) (n : Nat) (F : Fr h₀ L h' m') (N : News h₀ L h' news') (hoff : OwnOff own (tail.map (·.1))) (hnc : ∀ p ∈ own, p.1 ≠ nc)
    (hn : (nc, listOf g.toArray n) ∈ news') (ht : ∀ p ∈ tail, p ∈ news') (ho : ∀ p ∈ own, p ∈ news') (hP : P nc g) (hm1 : m' nm = some (.ref nc)) (hm : ∀ y, ys.contains y = false → (y == nm) = false → m' y = m₀ y) :
    InvEndG h₀ L (fun m' nx => (∃ nc' g' n', nx = (nc', listOf (g' : List Value).toArray n') :: tail ∧ P nc' g' ∧ m' nm = some (.ref nc')) ∧ ∀ y, ys.contains y = false → (y == nm) = false → m' y = m₀ y) own s₁ { s₁ with heap := h', toks := tk } :=
  InvEndG.intro F N ⟨⟨nc, g, n, rfl, hP, hm1⟩, hm⟩ (fun p hp b hb => (List.mem_cons.mp hb).elim (fun e => e ▸ hnc p hp) (hoff p hp b)) (fun p hp => (List.mem_cons.mp hp).elim (fun e => e ▸ hn) (ht p)) ho
/-- bind_end, in the order in which its parts are found -/
theorem bind_end2 {nm : Str} {m₀ m' : Str → Option Value} {tail own news' : List (Addr × Obj)} {ys : List Str} {P : Addr → List Value → Prop} {s₁ : Shared} {L : Addr} {h' : Heap} {tk : Nat} {nc : Addr} {g : List Value} {n : Nat} (F : Fr h₀ L h' m') (N : News h₀ L h' news') (hm1 : m' nm = some (.ref nc)) (hn : (nc, listOf g.toArray n) ∈ news') (hnc : ∀ p ∈ own, p.1 ≠ nc) (hoff : OwnOff own (tail.map (·.1)))
    (ht : ∀ p ∈ tail, p ∈ news') (ho : ∀ p ∈ own, p ∈ news') (hP : P nc g) (hm : ∀ y, ys.contains y = false → (y == nm) = false → m' y = m₀ y) :
    InvEndG h₀ L (fun m' nx => (∃ nc' g' n', nx = (nc', listOf (g' : List Value).toArray n') :: tail ∧ P nc' g' ∧ m' nm = some (.ref nc')) ∧ ∀ y, ys.contains y = false → (y == nm) = false → m' y = m₀ y) own s₁ { s₁ with heap := h', toks := tk } :=
  bind_end nc g n F N hoff hnc hn ht ho hP hm1 hm
end
end Mine
end
section
open PySem PySem.W PyProof.Rows PySem.Spec PySem.Calls
namespace Mine
section
variable {prog : Program} {w : World} {A : Around} {E : Value → Shared → Prop} {s : Shared}
theorem rmul_bs (b : Bool) (x : Str) (t : Tok) : Gives (Builtin.«int.__rmul__» ⟨[.bool b, .str x t], []⟩) (.val (Value.notImplemented)) :=
  .of_wp fun M A E s Q h => by obtain ⟨hp, g, d, tk, os⟩ := s; wp_walk; exact ⟨_, rfl, h⟩
theorem mul_true (x : Str) (t : Tok) : Gives (Builtin.«str.__mul__» ⟨[.str x t, .bool true], []⟩) (.val (.str x t)) := by
  refine .of_wp fun M A E s Q h => ?_
  obtain ⟨hp, g, d, tk, os⟩ := s
  wp_walk
  exact ⟨_, rfl, h⟩
theorem mul_false (x : Str) (t : Tok) : Gives (Builtin.«str.__mul__» ⟨[.str x t, .bool false], []⟩) (.str Str.empty) := by
  refine .of_wp fun M A E s Q h => ?_
  obtain ⟨hp, g, d, tk, os⟩ := s
  wp_walk
  exact ⟨_, rfl, h.2⟩
/-- a text times a bool -/
theorem str_times_bool {x : Str} {t : Tok} (b : Bool) {Q : Value → Shared → Prop} (h : ∀ t' k, Q (.str (if b then x else Str.empty) t') { s with toks := k }) : wpAny (model prog w) A (binaryOp .Mult (.str x t) (.bool b)) Q E s := by
  refine wpAny_binaryOp_repeat (T := "str") (U := "bool") (by decide) (fun s' => typeIs_str s' x t) (fun s' => PySem.typeIs_bool s' b) noFill_str_mul F.fills_bool_mul F.slot_bool_rmul repeat_str F.slot_bool_index.lookup
    (call_gives F.slot_bool_rmul (PySem.typeIs_bool s b) F.entry_int_rmul (F.args_int_rmul_2 _ _) (rmul_bs b x t) ⟨rfl, ?_⟩)
  cases b
  · exact call_gives F.slot_str_mul (typeIs_str s x t) F.entry_str_mul (F.args_str_mul_2 _ _) (mul_false x t) ⟨by decide, h _ _⟩
  · exact call_gives F.slot_str_mul (typeIs_str s x t) F.entry_str_mul (F.args_str_mul_2 _ _) (mul_true x t) (h _ _)
theorem str_times_true {x : Str} {t : Tok} {Q : Value → Shared → Prop} (h : ∀ t' k, Q (.str x t') { s with toks := k }) : wpAny (model prog w) A (binaryOp .Mult (.str x t) (.bool true)) Q E s := str_times_bool true h
theorem str_times_false {x : Str} {t : Tok} {Q : Value → Shared → Prop} (h : ∀ t' k, Q (.str Str.empty t') { s with toks := k }) : wpAny (model prog w) A (binaryOp .Mult (.str x t) (.bool false)) Q E s := str_times_bool false h
end
end Mine
end
section
open PySem PySem.W PyProof.Rows PySem.Spec PySem.Calls
namespace Mine
local macro_rules | `(tactic| walk_at $s:str) => `(tactic| k_extra $s)
/-- one part of a way, in the law's own words -/
def stStep (top : Bool) (acc : List Str) (c : Str) : List Str :=
  if ((c == Str.ofString "..") && (!decide (acc = []) && (acc.getLastD Str.empty != Str.ofString ".."))) = true then acc.dropLast
  else if (((c == Str.ofString "..") && !top) || !([Str.ofString "", Str.ofString ".", Str.ofString ".."].any fun x => x == c)) = true then acc ++ [c] else acc
theorem st_nil (top : Bool) (c : Str) : stStep top [] c = if (((c == Str.ofString "..") && !top) || !([Str.ofString "", Str.ofString ".", Str.ofString ".."].any fun x => x == c)) = true then [c] else [] := by
  simp [stStep]
theorem st_snoc (top : Bool) (acc : List Str) (lx c : Str) : stStep top (acc ++ [lx]) c = if ((c == Str.ofString "..") && (lx != Str.ofString "..")) = true then acc else if (((c == Str.ofString "..") && !top) || !([Str.ofString "", Str.ofString ".", Str.ofString ".."].any fun x => x == c)) = true then acc ++ [lx] ++ [c] else acc ++ [lx] := by
  simp [stStep]
theorem getD_snoc (acc : List Str) (lx d : Str) : (acc ++ [lx]).getD (-1 + ((acc ++ [lx]).length : Int)).toNat d = lx := by
  have : (-1 + ((acc ++ [lx]).length : Int)).toNat = acc.length := by simp; omega
  rw [this]; simp
theorem own_lt {h₀ h : Heap} {L : Addr} {own news : List (Addr × Obj)} (N : News h₀ L h news) (ho : ∀ q ∈ own, q ∈ news) : ∀ q ∈ own, q.1 ≠ h.objs.size := fun q hq => Nat.ne_of_lt (Heap.lt_size (N q (ho q hq)).1)
def stFold (top : Bool) (l : List Str) : List Str := l.foldl (stStep top) []
theorem stFold_sub (top : Bool) (l : List Str) : ∀ x ∈ stFold top l, x ∈ l := by
  have h : ∀ (l acc : List Str), ∀ x ∈ l.foldl (stStep top) acc, x ∈ acc ∨ x ∈ l := by
    intro l
    induction l with
    | nil => intro acc x hx; exact .inl hx
    | cons c r ih =>
      intro acc x hx
      rcases ih _ x hx with h | h
      · unfold stStep at h
        split at h
        · exact .inl ((List.dropLast_sublist _).subset h)
        · split at h
          · rcases List.mem_append.mp h with h | h
            · exact .inl h
            · exact .inr (List.mem_singleton.mp h ▸ List.Mem.head _)
          · exact .inl h
      · exact .inr (List.Mem.tail _ h)
  exact fun x hx => (h l [] x hx).elim (fun h => nomatch h) id
theorem stFold_len (top : Bool) (l : List Str) : (stFold top l).length ≤ l.length := by
  have h : ∀ (l acc : List Str), (l.foldl (stStep top) acc).length ≤ acc.length + l.length := by
    intro l
    induction l with
    | nil => intro acc; exact Nat.le_refl _
    | cons c r ih =>
      intro acc
      have := ih (stStep top acc c)
      have h2 : (stStep top acc c).length ≤ acc.length + 1 := by
        unfold stStep
        split
        · rw [List.length_dropLast]; omega
        · split
          · rw [List.length_append]; exact Nat.le_refl _
          · omega
      rw [List.foldl_cons, List.length_cons]; omega
  have := h l []; rw [List.length_nil] at this; unfold stFold; omega
theorem stFold_succ (top : Bool) {cs : List Str} {i : Nat} {c : Str} (h : cs[i]? = some c) : stFold top (cs.take (i + 1)) = stStep top (stFold top (cs.take i)) c := by
  unfold stFold
  rw [List.take_add_one, h, List.foldl_append]
  rfl
/-- the names that are left of a way, in the law's own words; their sizes -/
def stParts (p : Str) : List Str := stFold (Txt.slice p none (some 1) == Str.ofString "/") (Txt.split p (Str.ofString "/"))
def StOk (p : Str) : Prop := ((stParts p).map (·.length)).sum + (stParts p).length * 64 ≤ 16777216 ∧ (Txt.join (Str.ofString "/") (stParts p)).length ≤ 1000
def straightF (p : Str) : Str := if (Txt.slice p none (some 1) == Str.ofString "/") = true then Str.ofString "/" ++ Txt.join (Str.ofString "/") (stParts p)
  else if stParts p = [] then Str.ofString "." else Str.empty ++ Txt.join (Str.ofString "/") (stParts p)
theorem straight_c (w : World) (p : Str) (t : Tok) (hp : p.length ≤ 1000) (hok : StOk p) (hso : ∀ c ∈ Txt.split p (Str.ofString "/"), PyData.strOk c = true) (hsn : (Txt.split p (Str.ofString "/")).length ≤ 1000) : Call w 850 8500 335 [.str p t] (fun v => ∃ t, v = .str (straightF p) t) := by
  k_with_none
  k_with "exec For Name Call cons nil" => (k_here; (rename Fr _ _ _ _ => lF'); (with_unfolding_all refine' For_turns lF' ?_; k_whole))
  k_with "binaryOp Add ref ref" => (k_here; (with_reducible show wpAny _ _ (binaryOp Operator.Add (Value.ref _) (Value.ref _)) _ _ _); k_dflt (refine' g_add (by with_reducible assumption) (by with_reducible assumption) (by k_mem) (by k_mem) (by ((with_reducible rename (_ + 1 ≤ sizeLine) => z9); exact z9)) ?_; k_whole); intro D9 h9 nD9 F9 N9)
  k_with "compareOp NotEq ref ref" => (k_here; (with_reducible show wpAny _ _ (compareOp CmpOp.NotEq (Value.ref _) (Value.ref _)) _ _ _); k_dflt (refine' ne_strs (by k_asm) (by k_mem) (by exact rfl) (by exact rfl) (by with_reducible assumption) (by k_mem) (by exact rfl) (by exact rfl) (by exact StrsAre.nil) (by with_reducible assumption) (by exact fun _ h => nomatch h) (by exact Nat.le_of_ble_eq_true rfl) ?_; k_whole))
  k_with "subscriptTail Name UnaryOp ref int" => (k_here; (with_reducible show wpAny _ _ (subscriptTail _ _ (Value.ref _) _) _ _ _); k_dflt (refine' g_last (by with_reducible assumption) ?_ (by with_unfolding_all rfl); k_whole))
  k_with "binaryOp Mult str bool" => (k_here; (first | refine' str_times_true ?_ | refine' str_times_false ?_); intro t9 k9)
  k_with "call builtin:str.join" => (k_here; (with_reducible show wpAny _ _ (call (Value.builtin "str.join") [Value.str _ _, Value.ref _]) _ _ _); k_dflt (refine' g_join (by assumption) (by k_mem) (by exact rfl) (by exact rfl) (by with_reducible assumption) (by decide +kernel) (by with_reducible assumption) ?_; k_whole); intro t9 k9)
  k_with "binaryOp Add str str" => (k_here; (with_reducible show wpAny _ _ (binaryOp Operator.Add (Value.str _ _) (Value.str _ _)) _ _ _); (refine' PyProof.Rows.add_str ?_ (by with_reducible assumption)); intro t9 k9)
  k_with "subscriptTail Name Slice ref ref" => (k_here; (with_reducible show wpAny _ _ (subscriptTail _ (PySem.Expr.Slice _ _ none _) (Value.ref _) (Value.ref _)) _ _ _); k_dflt (refine' g_cut (by k_asm) (by k_asm) (by k_mem) (by kmk_part) (by kmk_part) (by (with_reducible rename (_ + 1 ≤ sizeLine) => z9); exact Nat.le_of_succ_le z9) ?_ (by with_unfolding_all rfl) (by kmk_pure)); intro D9 h9 nD9 F9 N9)
  k_with "my own" => (intro q9 hq9; (repeat (first | exact List.mem_append_right _ hq9 | refine List.Mem.tail _ ?_)))
  k_with "my nc" => (
    first
    | exact fun q9 hq9 => hoff q9 hq9 _ (List.Mem.head _)
    | ((with_reducible rename (∀ p : Addr × Obj, p ∈ _ → p.1 ≠ _) => nD9); (intro q9 hq9; refine nD9 q9 ?_; (repeat (first | exact List.mem_append_right _ hq9 | refine List.Mem.tail _ ?_))))
    | (refine own_lt (by assumption) ?_; walk_at "my own")
    | ((with_reducible rename (@LT.lt Addr _ _ _ ∧ _) => l9); (repeat (obtain ⟨_, l9⟩ := l9)); (intro q9 hq9; refine Nat.ne_of_lt (allLt_mem l9 q9 ?_); (repeat (first | exact List.mem_append_right _ hq9 | refine List.Mem.tail _ ?_)))))
  k_with "my val" => (
    rw [stFold_succ _ hc, hX];
    (first | rw [st_nil] | rw [st_snoc]);
    (try (have e1 : (c == Str.ofString "..") = true := by with_reducible assumption); rw [e1]);
    (try (have e1 : (c == Str.ofString "..") = false := by with_reducible assumption); rw [e1]);
    (try (have e1 : top = true := by with_reducible assumption); rw [e1]);
    (try (have e1 : top = false := by with_reducible assumption); rw [e1]);
    (try (have e1 : ([Str.ofString "", Str.ofString ".", Str.ofString ".."].any fun x => x == c) = true := by with_reducible assumption); rw [e1]);
    (try (have e1 : ([Str.ofString "", Str.ofString ".", Str.ofString ".."].any fun x => x == c) = false := by with_reducible assumption); rw [e1]);
    (try (have e1 : (lx != Str.ofString "..") = true := by with_reducible assumption); rw [e1]);
    (try (have e1 : (lx != Str.ofString "..") = false := by with_reducible assumption); rw [e1]);
    simp only [Bool.and_true, Bool.true_and, Bool.and_false, Bool.false_and, Bool.or_true, Bool.true_or, Bool.or_false, Bool.false_or, Bool.not_true, Bool.not_false, if_true, if_false, Bool.false_eq_true];
    (first | exact hP | exact StrsAre.cons _ _ StrsAre.nil | exact hP.append' (StrsAre.cons _ _ StrsAre.nil) | simpa using hP'))
  k_with "my end" => (
    refine bind_end2 (nm := Str.ofString "names") (P := fun _ g => StrsAre g (stFold top (List.take (i + 1) (Txt.split p (Str.ofString "/")))))
      (by assumption) (by assumption) (by with_unfolding_all rfl) (by repeat (first | exact List.Mem.head _ | refine List.Mem.tail _ ?_)) (by walk_at "my nc") (fun q9 hq9 b9 hb9 => hoff q9 hq9 b9 (List.Mem.tail _ hb9))
      (by (intro q9 hq9; (repeat (first | exact List.mem_append_left own hq9 | refine List.Mem.tail _ ?_)))) (by walk_at "my own") (by walk_at "my val")
      (fun y9 hy9 hz9 => by ((have h1y := not_one hy9); (have h2y := ne_of_beq_false hz9); simp only [if_neg h1y, if_neg h2y, hy9, hz9, Bool.false_eq_true, if_false])))
  unfold Call
  k_fill
  intro mean mg mb d u gd cn cs a ccd cl outer A₀ base h₀ L m s Q E news hd hu B F KX N T hk hret
  refine wpAny_le (A' := ktrTop 850 8500 gd cn cs L a ccd cl outer) rfl hd (fun _ e => e) (fun _ e => e) hu ?_
  obtain ⟨kd, nms, ig, ic, mo⟩ := cs
  dsimp only at hk
  subst hk
  refine wpAny_call ?_
  k_dflt k_enter
  k_steps
  (rename Fr _ _ _ _ => lF'); (rename News _ _ _ _ => lN')
  unfold straightF at hret
  unfold StOk at hok
  unfold stParts at hret hok
  generalize (Txt.slice p none (some 1) == Str.ofString "/") = top at *
  have lN2 := news_sub (news := _ :: _ :: news) lN' (List.forall_mem_cons.mpr ⟨List.Mem.tail _ (List.Mem.tail _ (List.Mem.head _)), List.forall_mem_cons.mpr ⟨List.Mem.head _, fun q hq => List.Mem.tail _ (List.Mem.tail _ (List.Mem.tail _ hq))⟩⟩)
  (with_reducible rename StrsAre _ _ => hS)
  (with_reducible rename (List.map _ _ = Txt.split _ _) => hE)
  (with_reducible rename (∀ a ∈ _, Str.length a ≤ _) => hLe)
  rw [hE] at hS hLe
  clear lN'
  refine' fold_bind (g₀ := []) (Str.ofString "names") [Str.ofString "part"] (fun i _ g => StrsAre g (stFold top ((Txt.split p (Str.ofString "/")).take i))) rfl (List.Mem.head _) lF' rfl lN2 .nil ?turn ?done
  case turn =>
    intro i v nc g n u h tk2 own hv hoff hP F1 N1
    clear lF' lN2
    obtain ⟨c, tc, rfl, hc⟩ := hS.item i v hv
    have hcl := hLe c (List.mem_of_getElem? hc)
    have hgz : g.length + 1 ≤ sizeLine := by
      have h7 := stFold_len top ((Txt.split p (Str.ofString "/")).take i)
      rw [List.length_take] at h7
      rw [hP.length, sizeLine_eq]; omega
    have hxo : ∀ x ∈ stFold top ((Txt.split p (Str.ofString "/")).take i), PyData.strOk x = true := fun x hx => hso x (List.mem_of_mem_take (stFold_sub _ _ x hx))
    clear hsn hso
    rcases List.eq_nil_or_concat g with rfl | ⟨g', gv, rfl⟩
    · have hnil : stFold top ((Txt.split p (Str.ofString "/")).take i) = [] := by cases hq : stFold top ((Txt.split p (Str.ofString "/")).take i) with
          | nil => rfl
          | cons y r => rw [hq] at hP; cases hP
      generalize hX : stFold top ((Txt.split p (Str.ofString "/")).take i) = X at *
      subst hnil
      k_steps
      all_goals walk_at "my end"
    · rw [List.concat_eq_append] at hP hgz N1
      generalize hX : stFold top ((Txt.split p (Str.ofString "/")).take i) = X at *
      obtain ⟨acc, lx, lt, hacc, hP', rfl⟩ := strs_snoc hP
      subst hacc
      have hds : (decide (acc ++ [lx] = [])) = false := by simp
      have hgd := getD_snoc acc lx Str.empty
      k_steps
      all_goals try rw [getD_snoc] at *
      all_goals try (exfalso; exact Bool.noConfusion ((by assumption : decide (acc ++ [lx] = []) = true).symm.trans hds))
      all_goals walk_at "my end"
  case done =>
    intro nc g n u h tk2 hP F1 N1
    clear lF' lN2
    rw [hS.length, List.take_length] at hP
    have hxo : ∀ x ∈ stFold top (Txt.split p (Str.ofString "/")), PyData.strOk x = true := fun x hx => hso x (stFold_sub _ _ x hx)
    generalize hX : stFold top (Txt.split p (Str.ofString "/")) = X at *
    clear hsn hso hS hE hLe
    obtain ⟨hok1, hok2⟩ := hok
    have hs1 : (Str.ofString "/").length + (Txt.join (Str.ofString "/") X).length ≤ sizeLine := by rw [sizeLine_eq]; exact Nat.le_trans (Nat.add_le_add (show (Str.ofString "/").length ≤ 10 by decide +kernel) hok2) (by decide)
    have hs0 : Str.empty.length + (Txt.join (Str.ofString "/") X).length ≤ sizeLine := by rw [sizeLine_eq]; exact Nat.le_trans (Nat.add_le_add (show Str.empty.length ≤ 10 by decide +kernel) hok2) (by decide)
    cases top
    · k_steps
      · (with_reducible rename (decide (X = []) = true) => hXd)
        have hXe : X = [] := of_decide_eq_true hXd
        exact hret _ _ _ ⟨_, by rw [if_neg Bool.false_ne_true, if_pos hXe]⟩ (by assumption) (news_sub (by assumption) fun q hq => List.Mem.tail _ (List.Mem.tail _ (List.Mem.tail _ hq)))
      · (with_reducible rename (decide (X = []) = false) => hXd)
        have hXe : ¬ X = [] := of_decide_eq_false hXd
        exact hret _ _ _ ⟨_, by rw [if_neg Bool.false_ne_true, if_neg hXe]⟩ (by assumption) (news_sub (by assumption) fun q hq => List.Mem.tail _ (List.Mem.tail _ (List.Mem.tail _ hq)))
    · k_steps
      exact hret _ _ _ ⟨_, by rw [if_pos rfl]⟩ (by assumption) (news_sub (by assumption) fun q hq => List.Mem.tail _ (List.Mem.tail _ hq))
end Mine
end
section
open PySem PySem.W PyProof.Rows PySem.Spec PySem.Calls
namespace Mine
section
variable {prog : Program} {w : World} {A : Around} {E : Value → Shared → Prop} {s : Shared} {env : Env} {h₀ : Heap} {target : Expr} {body : List Stmt} {Q : Flow → Shared → Prop}
theorem letGo_rangeiter {I : Addr} {x left step : Int} {v : Value} {Q' : Unit → Shared → Prop} {s' : Shared} (hit : IsRangeIter s'.heap I x left step) (h : Q' () s') :
    wpAny (model prog w) A (letOwnedTupleGo target (.ref I) v) Q' E s' := by
  unfold letOwnedTupleGo
  cases target <;> first
    | exact wpAny_pure h
    | (cases v <;> first
        | exact wpAny_pure h
        | (refine wpAny_bind (wpAny_load hit ?_)
           exact wpAny_pure h))
/-- a for over range(nn): by a word of the turn's number, the names and the ledger -/
theorem turns_range {r : Addr} {nn : Nat} {t₀ u₀ v₀ : Tok} {m₀ : Str → Option Value} {news : List (Addr × Obj)} (J : Nat → (Str → Option Value) → List (Addr × Obj) → Prop)
    (hh : A.handled = none) (hr : IsRange s.heap r 0 (nn : Int) 1 t₀ u₀ v₀) (hsmall : Builtin.Range.small 0 (nn : Int) 1 = true) (hn : Builtin.Range.rangeSize 0 (nn : Int) 1 = (nn : Int)) (F : Fr h₀ env.locals s.heap m₀) (N : News h₀ env.locals s.heap news) (hj : J 0 m₀ news)
    (turn : ∀ i t m₁ nx h tk own, i < nn → OwnOff own (nx.map (·.1)) → J i m₁ nx → Fr h₀ env.locals h m₁ → News h₀ env.locals h (nx ++ own) →
      wpAny (model prog w) A (assign target env (.int (i : Int) t)) (fun _ s₃ => wpAny (model prog w) A (execs body env) (InvPostG h₀ env.locals (J (i + 1)) own { s with heap := h, toks := tk } Q) E s₃) E { s with heap := h, toks := tk })
    (done : ∀ m₁ nx h tk, J nn m₁ nx → Fr h₀ env.locals h m₁ → News h₀ env.locals h nx → Q .next { s with heap := h, toks := tk }) :
    wpAny (model prog w) A (pyIter (.ref r)) (fun it s₂ => TurnsAt prog w A h₀ env target body Q E it s₂) E s := by
  refine wpAny_pyIter_range hr hsmall ?_
  have W := KTurns.ofWalks (target := target) ((Walks.range (prog := prog) (w := w) hh s.heap.objs.size 0 1 nn)) fun i v s Q E st q => letGo_rangeiter st q
  have hI0 : h₀.get? s.heap.objs.size = none := next_is_new F
  refine ⟨_, _, _, nn, _, _, _, m₀, news, J, rfl, W, ?_, ?_, ?_, (by show IsRangeIter _ _ _ _ _; rw [hn]; simpa using Heap.get?_push_size _ rfl), F.push _, (fun p hp => ⟨Heap.get?_push_of_some _ (N p hp).1, (N p hp).2⟩), hj, ?_, ?_⟩
  · intro hm
    exact absurd F.ns.lt ((List.mem_singleton.mp hm) ▸ Nat.lt_irrefl _)
  · intro b hb
    rw [List.mem_singleton.mp hb]
    exact hI0
  · intro p hp hI
    exact absurd (Heap.lt_size (N p hp).1) ((List.mem_singleton.mp hI) ▸ Nat.lt_irrefl _)
  · rintro i v m₁ nx h₁ tk₁ own hin hP hJ hoff hown hget hfp hst F₁ N₁
    obtain ⟨t, rfl⟩ := hP
    have hoI : h₁.get? s.heap.objs.size = some _ := hst
    have hIm : (s.heap.objs.size, _) ∈ own := hfp _ (List.mem_singleton.mpr rfl) hI0 _ hoI
    have hsep : OwnOff own (nx.map (·.1)) := by
      intro p hp b hb e
      obtain ⟨q, hq, rfl⟩ := List.mem_map.mp hb
      exact hoff q hq (e ▸ hown p hp)
    have N₂ : News h₀ env.locals h₁ (nx ++ own) := fun p hp => N₁ p ((List.mem_append.mp hp).elim (List.mem_append_right _) (List.mem_append_left _))
    have e0 : (0 : Int) + (i : Int) * 1 = (i : Int) := by omega
    rw [e0]
    refine wpAny_mono (turn i t m₁ nx h₁ tk₁ own hin hsep hJ F₁ N₂) (fun _ s₂ x => wpAny_mono x (fun f s₃ p => ?_) fun _ _ e => e) fun _ _ e => e
    have fin : InvEndG h₀ env.locals (J (i + 1)) own { s with heap := h₁, toks := tk₁ } s₃ → LoopStepU h₀ env.locals [s.heap.objs.size] own (J (i + 1)) { s with heap := h₁, toks := tk₁ } .next s₃ := by
      rintro ⟨h', tk, m', news', nx', e, F', N', hn, ho, ha, hm⟩
      refine ⟨rfl, h', tk, m', nx', e, F', fun p hp => N' p ((List.mem_append.mp hp).elim (ho p) (hn p)), fun p hp hq => ?_, hm⟩
      exact ha _ hIm p.1 (List.mem_map.mpr ⟨p, hp, rfl⟩) (List.mem_singleton.mp hq).symm
    cases f with
    | ret v => exact p
    | brk => exact p
    | next => exact fin p
    | cont => exact fin p
  · rintro h' tk m' news' F' N' _ hJ
    exact done m' news' h' tk hJ F' N'
/-- a for over range(nn) whose turns store the names ys and turn a part of the ledger that a state c says -/
theorem fold_range {σ : Type} {r : Addr} {nn : Nat} {t₀ u₀ v₀ : Tok} {m₀ : Str → Option Value} (Led : σ → List (Addr × Obj)) (ys : List Str) (P : Nat → σ → Prop) (c₀ : σ)
    (hh : A.handled = none) (hr : IsRange s.heap r 0 (nn : Int) 1 t₀ u₀ v₀) (hsmall : Builtin.Range.small 0 (nn : Int) 1 = true) (hn : Builtin.Range.rangeSize 0 (nn : Int) 1 = (nn : Int)) (F : Fr h₀ env.locals s.heap m₀) (N : News h₀ env.locals s.heap (Led c₀)) (hp : P 0 c₀)
    (turn : ∀ i t c (u : Str → Option Value) h tk own, i < nn → OwnOff own ((Led c).map (·.1)) → P i c → Fr h₀ env.locals h (fun y => if ys.contains y then u y else m₀ y) → News h₀ env.locals h (Led c ++ own) →
      wpAny (model prog w) A (assign target env (.int (i : Int) t)) (fun _ s₃ => wpAny (model prog w) A (execs body env) (InvPostG h₀ env.locals (fun m' nx => (∃ c', nx = Led c' ∧ P (i + 1) c') ∧ ∀ y, ys.contains y = false → m' y = m₀ y) own { s with heap := h, toks := tk } Q) E s₃) E { s with heap := h, toks := tk })
    (done : ∀ c (u : Str → Option Value) h tk, P nn c → Fr h₀ env.locals h (fun y => if ys.contains y then u y else m₀ y) → News h₀ env.locals h (Led c) → Q .next { s with heap := h, toks := tk }) :
    wpAny (model prog w) A (pyIter (.ref r)) (fun it s₂ => TurnsAt prog w A h₀ env target body Q E it s₂) E s := by
  have ex : ∀ m : Str → Option Value, (∀ y, ys.contains y = false → m y = m₀ y) → m = fun y => if ys.contains y then m y else m₀ y := fun m hm => by
    funext y
    cases h : ys.contains y with
    | true => simp
    | false => simp [hm y h]
  refine turns_range (fun i m nx => (∃ c, nx = Led c ∧ P i c) ∧ ∀ y, ys.contains y = false → m y = m₀ y) hh hr hsmall hn F N ⟨⟨c₀, rfl, hp⟩, fun _ _ => rfl⟩ ?_ ?_
  · rintro i t m₁ nx h tk own hi hoff ⟨⟨c, rfl, hP⟩, hm⟩ F₁ N₁
    rw [ex m₁ hm] at F₁
    exact turn i t c m₁ h tk own hi hoff hP F₁ N₁
  · rintro m₁ nx h tk ⟨⟨c, rfl, hP⟩, hm⟩ F₁ N₁
    rw [ex m₁ hm] at F₁
    exact done c m₁ h tk hP F₁ N₁
end
end Mine
end
section
open PySem PySem.W PyProof.Rows PySem.Spec PySem.Calls
namespace Mine
/-- Headers.get, upon any ledger that bears the table -/
theorem get_use {w : World} {P : Str} {t tq : Tok} {x dd hl : Addr} {items : List Value} {n : Nat} {T : List Ent} {news : List (Addr × Obj)} {mean : ExcName → Option Value} {mg mb : Str → Option Value} {d u : Nat} {gd : Option (List Code)} {cn : Str} {cs : Scope} {a : Addr} {ccd : Value} {cl : List (Str × Addr)} {outer : List Env} {A₀ : Around} {base h₀ : Heap} {L : Addr} {m : Str → Option Value} {s : Shared} {Q E : Value → Shared → Prop}
    (hP : P.length ≤ 100) (hc : Conv w true (Txt.lower P)) (hB : ∀ e ∈ T, e.page.length ≤ 100)
    (kd : d ≤ 800) (ku : u ≤ 8000) (B : Below A₀ base outer h₀) (F : Fr h₀ L s.heap m) (KX : (Mine.fr.heap_1 w.params).In h₀) (N : News h₀ L s.heap news) (TT : Top Mine.q loose mean mg mb h₀) (hk : cs.kind = .function)
    (hT : TabIn news items T) (mx : (x, instObj 300 dd) ∈ news) (md : (dd, hdrObj w tq hl) ∈ news) (ml : (hl, listOf items.toArray n) ∈ news)
    (ret : ∀ (v : Value) (h' : Heap) (tk' : Nat), GetR T (Txt.lower P) v → Fr h₀ L h' m → News h₀ L h' news → Q v { s with heap := h', toks := tk' }) :
    wpAny (model PySem.Challenge.rw_pd0177_01.row.prog w) (ktrTop d u gd cn cs L a ccd cl outer) (call (.ref 247) [.ref x, .str P t]) Q E s := by
  refine wpAny_le (A' := ktrTop 800 8000 gd cn cs L a ccd cl outer) rfl kd (fun _ e => e) (fun _ e => e) ku ?_
  obtain ⟨kd, nms, ig, ic, mo⟩ := cs
  dsimp only at hk
  subst hk
  refine get_c w P t tq x dd hl items n T news hP hc hT hB mean mg mb gd cn nms ig ic mo a ccd cl outer A₀ base h₀ L m s Q E B F KX (fun p hp => ?_) TT (fun v h' tk' hg F' N' => ret v h' tk' hg F' fun p hp => N' p (.tail _ (.tail _ (.tail _ hp))))
  rcases List.mem_cons.mp hp with rfl | hp
  · exact N _ mx
  · rcases List.mem_cons.mp hp with rfl | hp
    · exact N _ md
    · rcases List.mem_cons.mp hp with rfl | hp
      · exact N _ ml
      · exact N _ hp
/-- the next path -/
def nextP (q l : Str) : Str := normF (joinF (dirnameF q) l)
/-- the way from a path, k turns -/
def toldL (T : List Ent) : Nat → Str → List Str
  | 0, q => [q]
  | k + 1, q => match look T (Txt.lower q) with
    | none => [q]
    | some l => q :: toldL T k (nextP q l)
/-- the paths that can be come to -/
def reach_ : List Str := [⟨#[47]⟩, ⟨#[47,97]⟩, ⟨#[47,65]⟩, ⟨#[47,98]⟩, ⟨#[47,97,47,97]⟩, ⟨#[47,97,47,65]⟩, ⟨#[47,97,47,98]⟩, ⟨#[47,65,47,97]⟩, ⟨#[47,65,47,65]⟩, ⟨#[47,65,47,98]⟩, ⟨#[47,98,47,97]⟩, ⟨#[47,98,47,65]⟩, ⟨#[47,98,47,98]⟩, ⟨#[47,65,47,65,47,98]⟩, ⟨#[47,97,47,65,47,98]⟩, ⟨#[47,98,47,65,47,98]⟩]
theorem step_ok : ∀ q ∈ pages_, ∀ l ∈ links_, (dirnameF q).length ≤ 1000 ∧ (joinF (dirnameF q) l).length ≤ 1000 ∧ (srF (joinF (dirnameF q) l)).1.length ≤ 1000 ∧ (srF (joinF (dirnameF q) l)).2.length ≤ 1000 ∧ nextP q l ∈ reach_ := by decide +kernel
theorem step_np : ∀ q ∈ pages_, ∀ l ∈ links_, (Txt.split (srF (joinF (dirnameF q) l)).2 (Str.ofString "/")).length ≤ 1000 ∧ ((npParts (joinF (dirnameF q) l)).map (·.length)).sum + (npParts (joinF (dirnameF q) l)).length * 64 ≤ 16777216 ∧ (Txt.join (Str.ofString "/") (npParts (joinF (dirnameF q) l))).length ≤ 1000 := by decide +kernel
theorem reach_len : ∀ q ∈ reach_, q.length ≤ 100 ∧ Txt.lower q ∈ names_ := by decide +kernel
theorem pages_len : ∀ q ∈ pages_, q.length ≤ 100 ∧ q ∈ reach_ ∧ q ∈ names_ := by decide +kernel
theorem links_len : ∀ q ∈ links_, q.length ≤ 1000 := by decide +kernel
theorem low_pages : ∀ q ∈ reach_, ∀ e ∈ pages_, (Txt.lower e == Txt.lower q) = true → q ∈ pages_ := by decide +kernel
theorem look_mem {T : List Ent} {key l : Str} (h : look T key = some l) : ∃ e ∈ T, e.link = l ∧ (Txt.lower e.page == key) = true := by
  unfold look at h
  obtain ⟨e, he, rfl⟩ := Option.map_eq_some_iff.mp h
  exact ⟨e, List.mem_of_find?_eq_some he, rfl, by have h9 := List.find?_some he; exact h9⟩
/-- what a table's entries are -/
def TOk (T : List Ent) : Prop := ∀ e ∈ T, e.page ∈ pages_ ∧ e.link ∈ links_ ∧ e.names = (Txt.split e.page (Str.ofString "/")).drop 1
theorem look_step {T : List Ent} (hT : TOk T) {q l : Str} (hq : q ∈ reach_) (h : look T (Txt.lower q) = some l) : q ∈ pages_ ∧ l ∈ links_ := by
  obtain ⟨e, he, rfl, hk⟩ := look_mem h
  exact ⟨low_pages q hq e.page (hT e he).1 hk, (hT e he).2.1⟩
end Mine
end
section
open PySem PySem.W PyProof.Rows PySem.Spec PySem.Calls
namespace Mine
local macro_rules | `(tactic| walk_at $s:str) => `(tactic| k_extra $s)
/-- table.get at a path that can be come to: nothing, or a link and what is known of the next path -/
theorem get_told {w : World} {q : Str} {t tq : Tok} {x dd hl : Addr} {items : List Value} {n : Nat} {T : List Ent} {rest news : List (Addr × Obj)} {mean : ExcName → Option Value} {mg mb : Str → Option Value} {d u : Nat} {gd : Option (List Code)} {cn : Str} {cs : Scope} {a : Addr} {ccd : Value} {cl : List (Str × Addr)} {outer : List Env} {A₀ : Around} {base h₀ : Heap} {L : Addr} {m : Str → Option Value} {s : Shared} {Q E : Value → Shared → Prop}
    (hq : q ∈ reach_) (hTb : TOk T) (hT : TabIn rest items T) (hs : ∀ p ∈ rest, p ∈ news)
    (kd : d ≤ 800) (ku : u ≤ 8000) (B : Below A₀ base outer h₀) (F : Fr h₀ L s.heap m) (KX : (Mine.fr.heap_1 w.params).In h₀) (N : News h₀ L s.heap news) (TT : Top Mine.q loose mean mg mb h₀) (hk : cs.kind = .function)
    (mx : (x, instObj 300 dd) ∈ news) (md : (dd, hdrObj w tq hl) ∈ news) (ml : (hl, listOf items.toArray n) ∈ news)
    (ret0 : ∀ (h' : Heap) (tk' : Nat), look T (Txt.lower q) = none → Fr h₀ L h' m → News h₀ L h' news → Q .none { s with heap := h', toks := tk' })
    (ret1 : ∀ (l : Str) (t' : Tok) (h' : Heap) (tk' : Nat), look T (Txt.lower q) = some l → l.length ≤ 1000 → (dirnameF q).length ≤ 1000 → (joinF (dirnameF q) l).length ≤ 1000 → (srF (joinF (dirnameF q) l)).1.length ≤ 1000 → (srF (joinF (dirnameF q) l)).2.length ≤ 1000 → NpOk (joinF (dirnameF q) l) → nextP q l ∈ reach_ → Fr h₀ L h' m → News h₀ L h' news → Q (.str l t') { s with heap := h', toks := tk' }) :
    wpAny (model PySem.Challenge.rw_pd0177_01.row.prog w) (ktrTop d u gd cn cs L a ccd cl outer) (call (.ref 247) [.ref x, .str q t]) Q E s := by
  obtain ⟨hp9, hn9⟩ := reach_len q hq
  refine get_use hp9 (convN w _ hn9) (fun e he => (pages_len e.page (hTb e he).1).1) kd ku B F KX N TT hk (hT.mono hs) mx md ml ?_
  rintro v h' tk' (⟨R9, rfl⟩ | ⟨l9, t9, R9, rfl⟩) F' N'
  · exact ret0 h' tk' R9 F' N'
  · obtain ⟨hq9, hl9⟩ := look_step hTb hq R9
    obtain ⟨ha9, hb9, hc9, hd9, he9⟩ := step_ok _ hq9 _ hl9
    exact ret1 l9 t9 h' tk' R9 (links_len _ hl9) ha9 hb9 hc9 hd9 (step_np _ hq9 _ hl9) he9 F' N'
theorem toldL_none {T : List Ent} {q : Str} (h : look T (Txt.lower q) = none) : ∀ k, toldL T k q = [q]
  | 0 => rfl
  | k + 1 => by show (match look T (Txt.lower q) with | none => [q] | some l => q :: toldL T k (nextP q l)) = [q]; rw [h]
theorem toldL_some {T : List Ent} {q l : Str} (h : look T (Txt.lower q) = some l) {i n : Nat} (hi : i < n) : toldL T (n - i) q = q :: toldL T (n - (i + 1)) (nextP q l) := by
  have e : n - i = (n - (i + 1)) + 1 := by omega
  rw [e]
  show (match look T (Txt.lower q) with | none => [q] | some l => q :: toldL T (n - (i + 1)) (nextP q l)) = _
  rw [h]
theorem sub4 {h₀ h : Heap} {L : Addr} {a b c d : Addr × Obj} {rest own : List (Addr × Obj)} (_ : News h₀ L h (a :: b :: c :: d :: (rest ++ own))) : ∀ p ∈ rest, p ∈ a :: b :: c :: d :: (rest ++ own) := fun _ hp => .tail _ (.tail _ (.tail _ (.tail _ (List.mem_append_left _ hp))))
theorem told_end {h₀ h' : Heap} {L rl : Addr} {m₀ m' : Str → Option Value} {a b c : Addr × Obj} {T : List Ent} {rest own : List (Addr × Obj)} {g' : List Value} {q l page : Str} {lt tok : Tok} {gn i tk : Nat} {acc : List Str} {s₁ : Shared} {ys : List Str} (F : Fr h₀ L h' m') (N : News h₀ L h' ((rl, listOf (g' ++ [Value.str q lt] ++ [Value.str (normF (joinF (dirnameF q) l)) tok]).toArray (gn + 1)) :: a :: b :: c :: (rest ++ own)))
    (hP : StrsAre (g' ++ [Value.str q lt]) (acc ++ [q])) (hnx : nextP q l ∈ reach_) (hacc : acc.length = i) (hrow : acc ++ toldL T (6 - i) q = toldL T 6 page) (R9 : look T (Txt.lower q) = some l) (hi : i < 6) (hoff : OwnOff own (rl :: a.1 :: b.1 :: c.1 :: rest.map (·.1))) (hm : ∀ y, ys.contains y = false → m' y = m₀ y) :
    InvEndG h₀ L (fun m' nx => (∃ c' : (List Value × Nat) × (List Str × Str), nx = (rl, listOf c'.1.1.toArray c'.1.2) :: a :: b :: c :: rest ∧ StrsAre c'.1.1 (c'.2.1 ++ [c'.2.2]) ∧ c'.2.2 ∈ reach_ ∧ c'.2.1.length = i + 1 ∧ c'.2.1 ++ toldL T (6 - (i + 1)) c'.2.2 = toldL T 6 page) ∧ ∀ y, ys.contains y = false → m' y = m₀ y) own s₁ { s₁ with heap := h', toks := tk } := by
  refine InvEndG.intro F N ⟨⟨((g' ++ [Value.str q lt] ++ [Value.str (normF (joinF (dirnameF q) l)) tok], gn + 1), (acc ++ [q], nextP q l)), rfl, hP.append' (.cons _ _ .nil), hnx, ?_, ?_⟩, hm⟩ hoff ?_ ?_
  · show (acc ++ [q]).length = i + 1
    rw [List.length_append, hacc]; rfl
  · rw [← hrow, toldL_some R9 hi]
    show acc ++ [q] ++ toldL T (6 - (i + 1)) (nextP q l) = _
    rw [List.append_assoc]; rfl
  · exact List.forall_mem_cons.mpr ⟨.head _, List.forall_mem_cons.mpr ⟨.tail _ (.head _), List.forall_mem_cons.mpr ⟨.tail _ (.tail _ (.head _)), List.forall_mem_cons.mpr ⟨.tail _ (.tail _ (.tail _ (.head _))), fun p hp => .tail _ (.tail _ (.tail _ (.tail _ (List.mem_append_left _ hp))))⟩⟩⟩⟩
  · exact fun p hp => .tail _ (.tail _ (.tail _ (.tail _ (List.mem_append_right _ hp))))
theorem told_c (w : World) (page : Str) (t tq : Tok) (x dd hl : Addr) (items : List Value) (n : Nat) (T : List Ent) (rest : List (Addr × Obj)) (hpg : page ∈ reach_) (hT : TabIn rest items T) (hTb : TOk T)
   (mean : ExcName → Option Value) (mg mb : Str → Option Value) (gd : Option (List Code)) (cn : Str) (nms) (ig ic) (mo) (a : Addr) (ccd : Value) (cl : List (Str × Addr)) (outer : List Env) (A₀ : Around) (base h₀ : Heap) (L : Addr) (m : Str → Option Value) (s : Shared) (Q E : Value → Shared → Prop)
    (B : Below A₀ base outer h₀) (F : Fr h₀ L s.heap m) (KX : (Mine.fr.heap_1 w.params).In h₀) (N : News h₀ L s.heap ((x, instObj 300 dd) :: (dd, hdrObj w tq hl) :: (hl, listOf items.toArray n) :: rest)) (TT : Top Mine.q loose mean mg mb h₀)
    (hret : ∀ (D : Addr) (g : List Value) (n' : Nat) (h' : Heap) (tk' : Nat), StrsAre g (toldL T 6 page) → Fr h₀ L h' m → News h₀ L h' ((D, listOf g.toArray n') :: (x, instObj 300 dd) :: (dd, hdrObj w tq hl) :: (hl, listOf items.toArray n) :: rest) → Q (.ref D) { s with heap := h', toks := tk' }) :
      wpAny (model PySem.Challenge.rw_pd0177_01.row.prog w) (ktrTop 750 7500 gd cn ⟨.function, nms, ig, ic, mo⟩ L a ccd cl outer) (call (.ref 342) [.ref x, .str page t]) Q E s := by
  k_with_none
  k_with "mine str" => ((intro v9 h9 tk9 R9 F9 N9); (obtain ⟨_, R9⟩ := R9); subst R9; (try dsimp only); (try k_fold))
  k_with "call ref" => (k_here; (with_reducible show wpAny _ _ (call (Value.ref 160) [Value.str _ _]) _ _ _); k_dflt (refine' Call.use (dirname_c _ _ _ (by with_reducible assumption)) (by exact Nat.le_of_ble_eq_true rfl) (by exact Nat.le_of_ble_eq_true rfl) (by k_asm) (by k_asm) (by k_asm) (by k_asm) (by k_asm) (by first | exact rfl | assumption) ?_); k_whole; walk_at "mine str")
  k_with "call ref" => (k_here; (with_reducible show wpAny _ _ (call (Value.ref 132) [Value.str _ _, Value.str _ _]) _ _ _); k_dflt (refine' Call.use (join_c _ _ _ _ _ (by with_reducible assumption) (by with_reducible assumption)) (by exact Nat.le_of_ble_eq_true rfl) (by exact Nat.le_of_ble_eq_true rfl) (by k_asm) (by k_asm) (by k_asm) (by k_asm) (by k_asm) (by first | exact rfl | assumption) ?_); k_whole; walk_at "mine str")
  k_with "call ref" => (k_here; (with_reducible show wpAny _ _ (call (Value.ref 167) [Value.str _ _]) _ _ _); k_dflt (refine' Call.use (normpath_c _ _ _ (by with_reducible assumption) (by with_reducible assumption) (by with_reducible assumption) (by with_reducible assumption)) (by exact Nat.le_of_ble_eq_true rfl) (by exact Nat.le_of_ble_eq_true rfl) (by k_asm) (by k_asm) (by k_asm) (by k_asm) (by k_asm) (by first | exact rfl | assumption) ?_); k_whole; walk_at "mine str")
  k_with "call ref" => (k_here; (with_reducible show wpAny _ _ (call (Value.ref 247) [Value.ref _, Value.str _ _]) _ _ _); k_dflt (refine' get_told hq hTb hT hs9 (by exact Nat.le_of_ble_eq_true rfl) (by exact Nat.le_of_ble_eq_true rfl) (by k_asm) (by k_asm) (by k_asm) (by k_asm) (by k_asm) (by first | exact rfl | assumption) (by k_mem) (by k_mem) (by k_mem) ?_ ?_); (first | (intro l9 t9 h9 tk9 R9 hg9 ha9 hb9 hc9 hd9 hi9 he9 F9 N9) | (intro h9 tk9 R9 F9 N9)); (try dsimp only); (try k_fold))
  k_with "exec For Name Call cons nil" => (k_here; (rename Fr _ _ _ _ => lF'); (with_unfolding_all refine' For_turns lF' ?_; k_whole))
  k_with "call builtin:list.append" => (k_here; (with_reducible show wpAny _ _ (call (Value.builtin "list.append") [Value.ref _, _]) _ _ _); k_dflt (refine' g_append (by with_reducible assumption) (by with_reducible assumption) (by with_reducible assumption) (by first | with_reducible assumption | exact Nat.zero_le _) ?_; k_whole); intro h9 F9 N9)
  k_with "subscriptTail Name UnaryOp ref int" => (k_here; (with_reducible show wpAny _ _ (subscriptTail _ _ (Value.ref _) _) _ _ _); k_dflt (refine' g_last (by with_reducible assumption) ?_ (by with_unfolding_all rfl); k_whole))
  have hB9 : ∀ e ∈ T, e.page.length ≤ 100 := fun e he => (pages_len e.page (hTb e he).1).1
  revert KX; k_fill; intro KX
  refine wpAny_call ?_
  k_dflt k_enter
  k_steps
  (with_reducible rename IsRange _ _ _ _ _ _ _ _ => hR)
  (with_reducible rename (_ ∧ _ ∧ _ ∧ AllLt _ _) => l1x)
  (rename Fr _ _ _ _ => lF'); (rename News _ _ _ _ => lN')
  refine' fold_range (nn := 6) (σ := (List Value × Nat) × (List Str × Str)) (fun c => (_, listOf c.1.1.toArray c.1.2) :: (x, instObj 300 dd) :: (dd, hdrObj w tq hl) :: (hl, listOf items.toArray n) :: rest) [Str.ofString "k", Str.ofString "link"]
    (fun i c => StrsAre c.1.1 (c.2.1 ++ [c.2.2]) ∧ c.2.2 ∈ reach_ ∧ c.2.1.length = i ∧ c.2.1 ++ toldL T (6 - i) c.2.2 = toldL T 6 page) (([.str page t], 0), ([], page)) rfl hR (by decide) (by decide) lF' lN' ?h0 ?turn ?done
  case h0 => exact ⟨.cons _ _ .nil, hpg, rfl, rfl⟩
  case turn =>
    rintro i t1 ⟨⟨g, gn⟩, ⟨acc, q⟩⟩ u h tk2 own hi hoff ⟨hP, hq, hacc, hrow⟩ F1 N1
    clear lF' lN'
    dsimp only at hP hq hacc hrow hoff N1
    simp only [List.cons_append] at N1
    have hgz : g.length ≤ sizeLine := by
      rw [hP.length, List.length_append, hacc, sizeLine_eq]; simp; omega
    have hs9 := sub4 N1
    have hne9 : ∀ p ∈ (x, instObj 300 dd) :: (dd, hdrObj w tq hl) :: (hl, listOf items.toArray n) :: (rest ++ own), p.1 ≠ _ := List.forall_mem_cons.mpr ⟨Nat.ne_of_lt l1x.1, List.forall_mem_cons.mpr ⟨Nat.ne_of_lt l1x.2.1, List.forall_mem_cons.mpr ⟨Nat.ne_of_lt l1x.2.2.1, fun p hp => (List.mem_append.mp hp).elim (fun h => Nat.ne_of_lt (allLt_mem l1x.2.2.2 p h)) fun h => hoff p h _ (List.Mem.head _)⟩⟩⟩
    rcases List.eq_nil_or_concat g with rfl | ⟨g', gv, rfl⟩
    · have := hP.length; simp at this
    rw [List.concat_eq_append] at hP hgz N1 hs9
    obtain ⟨acc', q', lt, hacc', hP', rfl⟩ := strs_snoc hP
    obtain ⟨rfl, hq'⟩ := List.append_inj' hacc' rfl
    obtain rfl : q = q' := by simpa using hq'
    clear hacc' hq'
    have hql : q.length ≤ 1000 := Nat.le_trans (reach_len q hq).1 (by decide)
    k_steps
    · (with_reducible rename (look T _ = none) => R9)
      refine hret _ _ gn _ _ (by rw [← hrow, toldL_none R9]; exact hP) (by assumption) (news_sub (by assumption) ?_)
      exact List.forall_mem_cons.mpr ⟨.head _, List.forall_mem_cons.mpr ⟨.tail _ (.head _), List.forall_mem_cons.mpr ⟨.tail _ (.tail _ (.head _)), List.forall_mem_cons.mpr ⟨.tail _ (.tail _ (.tail _ (.head _))), fun p hp => .tail _ (.tail _ (.tail _ (.tail _ (List.mem_append_left _ hp))))⟩⟩⟩⟩
    · (with_reducible rename (look T _ = some _) => R9)
      (with_reducible rename (nextP q _ ∈ reach_) => hnx)
      refine told_end (by assumption) (by assumption) hP hnx hacc hrow R9 hi hoff fun y hy => ?_
      obtain ⟨h1, h2⟩ := not_two hy
      simp only [if_neg h1, if_neg h2, hy, Bool.false_eq_true, if_false]
  case done =>
    rintro ⟨⟨g, gn⟩, ⟨acc, q⟩⟩ u h tk2 ⟨hP, hq, hacc, hrow⟩ F1 N1
    clear lF' lN'
    dsimp only at hP hq hacc hrow N1
    k_steps
    exact hret _ _ _ _ _ (by rw [← hrow]; exact hP) (by assumption) (by assumption)
end Mine
end
section
open PySem PySem.W PyProof.Rows PySem.Spec PySem.Calls
namespace Mine
/-- the names of the paths that can be come to, and of the pages -/
def reachN_ : List (List Str) := [[], [⟨#[97]⟩], [⟨#[65]⟩], [⟨#[98]⟩], [⟨#[97]⟩, ⟨#[97]⟩], [⟨#[97]⟩, ⟨#[65]⟩], [⟨#[97]⟩, ⟨#[98]⟩], [⟨#[65]⟩, ⟨#[97]⟩], [⟨#[65]⟩, ⟨#[65]⟩], [⟨#[65]⟩, ⟨#[98]⟩], [⟨#[98]⟩, ⟨#[97]⟩], [⟨#[98]⟩, ⟨#[65]⟩], [⟨#[98]⟩, ⟨#[98]⟩], [⟨#[65]⟩, ⟨#[65]⟩, ⟨#[98]⟩], [⟨#[97]⟩, ⟨#[65]⟩, ⟨#[98]⟩], [⟨#[98]⟩, ⟨#[65]⟩, ⟨#[98]⟩]]
def pagesN_ : List (List Str) := [[⟨#[97]⟩], [⟨#[65]⟩], [⟨#[98]⟩], [⟨#[97]⟩, ⟨#[97]⟩], [⟨#[97]⟩, ⟨#[65]⟩], [⟨#[97]⟩, ⟨#[98]⟩], [⟨#[65]⟩, ⟨#[97]⟩], [⟨#[65]⟩, ⟨#[65]⟩], [⟨#[65]⟩, ⟨#[98]⟩], [⟨#[98]⟩, ⟨#[97]⟩], [⟨#[98]⟩, ⟨#[65]⟩], [⟨#[98]⟩, ⟨#[98]⟩]]
/-- one part of a link, in the law's walk -/
def wStep (here : List Str) (c : Str) : List Str := if (c == Str.ofString "..") = true then here.dropLast else if ((c != Str.ofString "") && (c != Str.ofString ".")) = true then here ++ [c] else here
def nextN (ns : List Str) (l : Str) : List Str := (Txt.split l (Str.ofString "/")).foldl wStep (if (Txt.slice l none (some 1) == Str.ofString "/") = true then [] else ns.dropLast)
/-- the law's walk, k turns -/
def walkedL (T : List Ent) : Nat → List Str → List (List Str)
  | 0, ns => [ns]
  | k + 1, ns => match foundL T ns with
    | [] => [ns]
    | l :: _ => ns :: walkedL T k (nextN ns l)
theorem walkedL_none {T : List Ent} {ns : List Str} (h : foundL T ns = []) : ∀ k, walkedL T k ns = [ns]
  | 0 => rfl
  | k + 1 => by show (match foundL T ns with | [] => [ns] | l :: _ => ns :: walkedL T k (nextN ns l)) = [ns]; rw [h]
theorem walkedL_some {T : List Ent} {ns : List Str} {l : Str} {r : List Str} (h : foundL T ns = l :: r) {i n : Nat} (hi : i < n) : walkedL T (n - i) ns = ns :: walkedL T (n - (i + 1)) (nextN ns l) := by
  have e : n - i = (n - (i + 1)) + 1 := by omega
  rw [e]
  show (match foundL T ns with | [] => [ns] | l :: _ => ns :: walkedL T (n - (i + 1)) (nextN ns l)) = _
  rw [h]
theorem found_mem {T : List Ent} {ns : List Str} {l : Str} {r : List Str} (h : foundL T ns = l :: r) : r = [] ∧ ∃ e ∈ T, e.link = l ∧ (e.names.map Txt.lower == ns.map Txt.lower) = true := by
  unfold foundL at h
  cases hq : T.filter fun e => e.names.map Txt.lower == ns.map Txt.lower with
  | nil => rw [hq] at h; simp at h
  | cons e r' =>
    rw [hq] at h
    simp at h
    have he : e ∈ T.filter fun e => e.names.map Txt.lower == ns.map Txt.lower := by rw [hq]; exact List.Mem.head _
    obtain ⟨h1, h2⟩ := List.mem_filter.mp he
    exact ⟨h.2, e, h1, h.1, h2⟩
theorem low_names : ∀ q ∈ pages_, ∀ ns ∈ reachN_, (((Txt.split q (Str.ofString "/")).drop 1).map Txt.lower == ns.map Txt.lower) = true → ns ∈ pagesN_ := by decide +kernel
theorem page_names : ∀ q ∈ pages_, ((Txt.split q (Str.ofString "/")).drop 1).length ≤ 10 ∧ ∀ x ∈ (Txt.split q (Str.ofString "/")).drop 1, x.length ≤ 100 ∧ PyData.strOk (Txt.lower x) = true := by decide +kernel
theorem reach_names : ∀ ns ∈ reachN_, ns.length ≤ 10 ∧ ∀ x ∈ ns, x.length ≤ 100 ∧ PyData.strOk (Txt.lower x) = true := by decide +kernel
theorem stepN_ok : ∀ ns ∈ pagesN_, ∀ l ∈ links_, nextN ns l ∈ reachN_ := by decide +kernel
theorem link_parts : ∀ l ∈ links_, (Txt.split l (Str.ofString "/")).length ≤ 100 ∧ PyData.strOk l = true := by decide +kernel
theorem found_step {T : List Ent} (hT : TOk T) {ns r : List Str} {l : Str} (hn : ns ∈ reachN_) (h : foundL T ns = l :: r) : r = [] ∧ ns ∈ pagesN_ ∧ l ∈ links_ := by
  obtain ⟨h0, e, he, rfl, hk⟩ := found_mem h
  obtain ⟨h1, h2, h3⟩ := hT e he
  rw [h3] at hk
  exact ⟨h0, low_names _ h1 _ hn hk, h2⟩
/-- a list of one text is not the empty list -/
theorem one_not_nil {prog : Program} {w : World} {A : Around} {E : Value → Shared → Prop} {s : Shared} {h₀ : Heap} {L a b : Addr} {news : List (Addr × Obj)} {na nb : Nat} {l : Str} {t : Tok} {Q : Value → Shared → Prop} (N : News h₀ L s.heap news) (ma : (a, listOf #[.str l t] na) ∈ news) (mb : (b, listOf #[] nb) ∈ news) (hl : PyData.strOk l = true) (hu : A.units + 64 < cLine)
    (h : Q (.bool false) s) : wpAny (model prog w) A (compareOp .Eq (.ref a) (.ref b)) Q E s :=
  eq_strs (vs := [.str l t]) (us := []) (xs := [l]) (ys := []) N ma rfl rfl (.cons _ _ .nil) mb rfl rfl .nil (fun x hx => List.mem_singleton.mp hx ▸ hl) (fun _ h => nomatch h) hu (by simpa using h)
/-- _law_found at a page that can be come to, upon any ledger that bears the pages -/
theorem found_walk {w : World} {pl nl : Addr} {pits nits : List Value} {np nn : Nat} {T : List Ent} {ns : List Str} {rest news : List (Addr × Obj)} {mean : ExcName → Option Value} {mg mb : Str → Option Value} {d u : Nat} {gd : Option (List Code)} {cn : Str} {cs : Scope} {a : Addr} {ccd : Value} {cl : List (Str × Addr)} {outer : List Env} {A₀ : Around} {base h₀ : Heap} {L : Addr} {m : Str → Option Value} {s : Shared} {Q E : Value → Shared → Prop}
    (hns : ns ∈ reachN_) (hTb : TOk T) (hTl : T.length ≤ 20) (hN : StrsAre nits ns) (hT : PagIn rest pits T) (hs : ∀ p ∈ rest, p ∈ news)
    (kd : d ≤ 800) (ku : u ≤ 8000) (B : Below A₀ base outer h₀) (F : Fr h₀ L s.heap m) (KX : (Mine.fr.heap_1 w.params).In h₀) (N : News h₀ L s.heap news) (TT : Top Mine.q loose mean mg mb h₀) (hk : cs.kind = .function)
    (mp : (pl, listOf pits.toArray np) ∈ news) (mn : (nl, listOf nits.toArray nn) ∈ news)
    (ret0 : ∀ (D : Addr) (n' : Nat) (h' : Heap) (tk' : Nat), foundL T ns = [] → (∀ p ∈ news, p.1 ≠ D) → Fr h₀ L h' m → News h₀ L h' ((D, listOf #[] n') :: news) → Q (.ref D) { s with heap := h', toks := tk' })
    (ret1 : ∀ (D : Addr) (n' : Nat) (l : Str) (t' : Tok) (h' : Heap) (tk' : Nat), foundL T ns = [l] → l.length ≤ 1000 → PyData.strOk l = true → (Txt.split l (Str.ofString "/")).length ≤ 100 → l ∈ links_ → nextN ns l ∈ reachN_ → (∀ p ∈ news, p.1 ≠ D) → Fr h₀ L h' m → News h₀ L h' ((D, listOf #[.str l t'] n') :: news) → Q (.ref D) { s with heap := h', toks := tk' }) :
    wpAny (model PySem.Challenge.rw_pd0177_01.row.prog w) (ktrTop d u gd cn cs L a ccd cl outer) (call (.ref 321) [.ref pl, .ref nl]) Q E s := by
  refine wpAny_le (A' := ktrTop 800 8000 gd cn cs L a ccd cl outer) rfl kd (fun _ e => e) (fun _ e => e) ku ?_
  obtain ⟨kd, nms, ig, ic, mo⟩ := cs
  dsimp only at hk
  subst hk
  obtain ⟨hl, hB⟩ := reach_names ns hns
  refine found_c w pl nl pits nits np nn T ns news (hT.mono hs) hN hB hl hTl (fun e he => ?_) mean mg mb gd cn nms ig ic mo a ccd cl outer A₀ base h₀ L m s Q E B F KX (fun p hp => ?_) TT (fun D h' tk' out n' ho hfr F' N' => ?_)
  · rw [(hTb e he).2.2]; exact page_names _ (hTb e he).1
  · rcases List.mem_cons.mp hp with rfl | hp
    · exact N _ mp
    · rcases List.mem_cons.mp hp with rfl | hp
      · exact N _ mn
      · exact N _ hp
  · have N2 : News h₀ L h' ((D, listOf out.toArray n') :: news) := fun p hp => (List.mem_cons.mp hp).elim (fun e => N' p (e ▸ .head _)) fun hp => N' p (.tail _ (.tail _ (.tail _ hp)))
    cases hf : foundL T ns with
    | nil =>
      rw [hf] at ho
      cases ho
      exact ret0 D n' h' tk' hf hfr F' N2
    | cons l r =>
      obtain ⟨rfl, h1, h2⟩ := found_step hTb hns hf
      rw [hf] at ho
      cases ho with
      | cons y t r =>
        cases r
        exact ret1 D n' l t h' tk' hf (links_len _ h2) (link_parts _ h2).2 (link_parts _ h2).1 h2 (stepN_ok _ h1 _ h2) hfr F' N2
end Mine
end
section
open PySem PySem.W PyProof.Rows PySem.Spec PySem.Calls
namespace Mine
local macro_rules | `(tactic| walk_at $s:str) => `(tactic| k_extra $s)
/-- rows of names, as the ledger bears them: lists of texts -/
inductive RowIn (news : List (Addr × Obj)) : List Value → List (List Str) → Prop
  | nil : RowIn news [] []
  | cons {b : Addr} {n : Nat} {bs vs : List Value} {ns : List Str} {R : List (List Str)} : (b, listOf bs.toArray n) ∈ news → StrsAre bs ns → RowIn news vs R → RowIn news (.ref b :: vs) (ns :: R)
theorem RowIn.mono {news news' : List (Addr × Obj)} (hs : ∀ p ∈ news, p ∈ news') {vs : List Value} {R : List (List Str)} (h : RowIn news vs R) : RowIn news' vs R := by
  induction h with
  | nil => exact .nil
  | cons h1 h2 _ ih => exact .cons (hs _ h1) h2 ih
theorem RowIn.snoc {news : List (Addr × Obj)} {vs bs : List Value} {R : List (List Str)} {ns : List Str} {b : Addr} {n : Nat} (h : RowIn news vs R) (h1 : (b, listOf bs.toArray n) ∈ news) (h2 : StrsAre bs ns) : RowIn news (vs ++ [.ref b]) (R ++ [ns]) := by
  induction h with
  | nil => exact .cons h1 h2 .nil
  | cons k1 k2 _ ih => exact .cons k1 k2 ih
theorem RowIn.length {news : List (Addr × Obj)} {vs : List Value} {R : List (List Str)} (h : RowIn news vs R) : vs.length = R.length := by
  induction h with
  | nil => rfl
  | cons _ _ _ ih => simp [ih]
section
variable {prog : Program} {w : World} {A : Around} {E : Value → Shared → Prop} {s : Shared} {h₀ : Heap} {L rl : Addr} {m : Str → Option Value}
theorem g_last_in {value slice : Expr} {u : Tok} {g : List Value} {x : Value} {n : Nat} {news : List (Addr × Obj)} {Q : Value → Shared → Prop} (N : News h₀ L s.heap news) (hm : (rl, listOf (g ++ [x]).toArray n) ∈ news) (h : Q x s)
    (hs : subscripted slice false (.ref rl) (.int (-1) u) = operate [.ref rl, .int (-1) u] (getItem (.ref rl) (.int (-1) u)) := by with_unfolding_all rfl) : wpAny (model prog w) A (subscriptTail value slice (.ref rl) (.int (-1) u)) Q E s :=
  g_last (tl := []) (news_sub N (List.forall_mem_cons.mpr ⟨hm, fun _ h => nomatch h⟩)) h hs
theorem g_append_at {g : List Value} {x : Value} {n : Nat} {news : List (Addr × Obj)} {Q : Value → Shared → Prop} (tl : List (Addr × Obj)) (F : Fr h₀ L s.heap m) (N : News h₀ L s.heap news) (hm : (rl, listOf g.toArray n) ∈ news) (ht : ∀ p ∈ tl, p ∈ news) (hne : ∀ p ∈ tl, p.1 ≠ rl) (hz : g.length ≤ sizeLine)
    (h : ∀ h', Fr h₀ L h' m → News h₀ L h' ((rl, listOf (g ++ [x]).toArray (n + 1)) :: tl) → Q .none { s with heap := h' }) : wpAny (model prog w) A (call (.builtin "list.append") [.ref rl, x]) Q E s :=
  g_append F (news_sub N (List.forall_mem_cons.mpr ⟨hm, ht⟩)) hne hz h
end
section
variable {prog : Program} {w : World} {A : Around} {E : Value → Shared → Prop} {s : Shared} {env : Env} {h₀ : Heap} {target : Expr} {body : List Stmt} {Q : Flow → Shared → Prop}
/-- fold_range, the ledger and the word by an address -/
theorem fold_range1 {σ : Type} {x r : Addr} {nn : Nat} {t₀ u₀ v₀ : Tok} {m₀ : Str → Option Value} (Led : Addr → σ → List (Addr × Obj)) (ys : List Str) (P : Addr → Nat → σ → Prop) (c₀ : σ)
    (hh : A.handled = none) (hr : IsRange s.heap r 0 (nn : Int) 1 t₀ u₀ v₀) (hsmall : Builtin.Range.small 0 (nn : Int) 1 = true) (hn : Builtin.Range.rangeSize 0 (nn : Int) 1 = (nn : Int)) (F : Fr h₀ env.locals s.heap m₀) (N : News h₀ env.locals s.heap (Led x c₀)) (hp : P x 0 c₀)
    (turn : ∀ i t c (u : Str → Option Value) h tk own, i < nn → OwnOff own ((Led x c).map (·.1)) → P x i c → Fr h₀ env.locals h (fun y => if ys.contains y then u y else m₀ y) → News h₀ env.locals h (Led x c ++ own) →
      wpAny (model prog w) A (assign target env (.int (i : Int) t)) (fun _ s₃ => wpAny (model prog w) A (execs body env) (InvPostG h₀ env.locals (fun m' nx => (∃ c', nx = Led x c' ∧ P x (i + 1) c') ∧ ∀ y, ys.contains y = false → m' y = m₀ y) own { s with heap := h, toks := tk } Q) E s₃) E { s with heap := h, toks := tk })
    (done : ∀ c (u : Str → Option Value) h tk, P x nn c → Fr h₀ env.locals h (fun y => if ys.contains y then u y else m₀ y) → News h₀ env.locals h (Led x c) → Q .next { s with heap := h, toks := tk }) :
    wpAny (model prog w) A (pyIter (.ref r)) (fun it s₂ => TurnsAt prog w A h₀ env target body Q E it s₂) E s :=
  fold_range (Led x) ys (P x) c₀ hh hr hsmall hn F N hp turn done
end
/-- where the walk is -/
structure WSt where
  g : List Value
  b : Addr
  n : Nat
  acc : List (List Str)
  ns : List Str
  X : List (Addr × Obj)
def WOk (T : List Ent) (names : List Str) (rl : Addr) (base : List (Addr × Obj)) (i : Nat) (c : WSt) : Prop :=
  RowIn c.X c.g c.acc ∧ (∃ bs nb, (c.b, listOf (bs : List Value).toArray nb) ∈ c.X ∧ StrsAre bs c.ns) ∧ c.ns ∈ reachN_ ∧ c.acc.length = i ∧ c.acc ++ walkedL T (6 - i) c.ns = walkedL T 6 names ∧ (∀ p ∈ base, p ∈ c.X) ∧ ∀ p ∈ c.X, p.1 ≠ rl
theorem swap2 {h₀ h : Heap} {L : Addr} {a b : Addr × Obj} {t : List (Addr × Obj)} (N : News h₀ L h (a :: b :: t)) : News h₀ L h (b :: a :: t) := news_sub N (List.forall_mem_cons.mpr ⟨.tail _ (.head _), List.forall_mem_cons.mpr ⟨.head _, fun _ hp => .tail _ (.tail _ hp)⟩⟩)
theorem base_of {h₀ h : Heap} {L : Addr} {news : List (Addr × Obj)} (_ : News h₀ L h news) : ∃ bs, bs = news := ⟨_, rfl⟩
theorem strs_cut {vs : List Value} {ns : List Str} (h : StrsAre vs ns) : StrsAre (vs.take (vs.length - 1)) ns.dropLast := by
  rw [List.dropLast_eq_take, ← h.length]
  exact h.take' _
theorem wfold_len (base parts : List Str) : (parts.foldl wStep base).length ≤ base.length + parts.length := by
  induction parts generalizing base with
  | nil => exact Nat.le_refl _
  | cons c r ih =>
    have h1 := ih (wStep base c)
    have h2 : (wStep base c).length ≤ base.length + 1 := by
      unfold wStep
      split
      · rw [List.length_dropLast]; omega
      · split
        · rw [List.length_append]; exact Nat.le_refl _
        · omega
    rw [List.foldl_cons, List.length_cons]; omega
theorem wfold_succ (base : List Str) {cs : List Str} {i : Nat} {c : Str} (h : cs[i]? = some c) : (cs.take (i + 1)).foldl wStep base = wStep ((cs.take i).foldl wStep base) c := by
  rw [List.take_add_one, h, List.foldl_append]
  rfl
theorem sub_tail {h₀ h : Heap} {L : Addr} {a : Addr × Obj} {tail bs : List (Addr × Obj)} (_ : News h₀ L h (a :: tail)) (hs : ∀ p ∈ bs, p ∈ tail) : ∀ p ∈ bs, p ∈ tail := hs
theorem app_sub {h₀ h : Heap} {L : Addr} {x b r : Addr × Obj} {tail bs t : List (Addr × Obj)} (_ : News h₀ L h (x :: tail)) (hbt : ∀ p ∈ bs, p ∈ tail) (hbs : bs = b :: r :: t) : ∀ p ∈ x :: b :: t, p ∈ x :: tail := by
  subst hbs
  exact List.forall_mem_cons.mpr ⟨.head _, List.forall_mem_cons.mpr ⟨.tail _ (hbt _ (.head _)), fun p hp => .tail _ (hbt _ (.tail _ (.tail _ hp)))⟩⟩
theorem app_off {nc rl pl b : Addr} {o o2 o3 ob : Obj} {X own bs : List (Addr × Obj)} {ads : List Addr} (hbs : bs = (b, ob) :: (rl, o) :: (pl, o3) :: (X ++ own)) (hne : ∀ p ∈ bs, p.1 ≠ nc) (hb : (b, ob) ∈ X) (hXr : ∀ p ∈ X, p.1 ≠ rl) (hpl : pl ≠ rl) (hoff : OwnOff own (rl :: ads)) :
    ∀ p ∈ (nc, o2) :: (b, ob) :: (pl, o3) :: (X ++ own), p.1 ≠ rl := by
  subst hbs
  exact List.forall_mem_cons.mpr ⟨fun e => hne (rl, o) (.tail _ (.head _)) e.symm, List.forall_mem_cons.mpr ⟨hXr _ hb, List.forall_mem_cons.mpr ⟨hpl, fun p hp => (List.mem_append.mp hp).elim (hXr p) fun h => hoff p h _ (List.Mem.head _)⟩⟩⟩
theorem walked_end {h₀ h' : Heap} {L rl b nc pl : Addr} {m₀ m' : Str → Option Value} {T : List Ent} {base own X bs9 : List (Addr × Obj)} {op ob : Obj} {g g2 : List Value} {names ns : List Str} {lnk : Str} {gn n2 i tk : Nat} {acc : List (List Str)} {s₁ : Shared} {ys : List Str} (F : Fr h₀ L h' m') (N : News h₀ L h' ((rl, listOf (g ++ [Value.ref b] ++ [Value.ref nc]).toArray (gn + 1)) :: (nc, listOf g2.toArray n2) :: (b, ob) :: (pl, op) :: (X ++ own)))
    (hRow : RowIn X g acc) (hb : ∃ bs nb, (b, listOf (bs : List Value).toArray nb) ∈ X ∧ StrsAre bs ns) (hP : StrsAre g2 (nextN ns lnk)) (hnx : nextN ns lnk ∈ reachN_) (hacc : acc.length = i) (hrow : acc ++ walkedL T (6 - i) ns = walkedL T 6 names) (R9 : foundL T ns = [lnk]) (hi : i < 6)
    (hbase : ∀ p ∈ base, p ∈ X) (hXr : ∀ p ∈ X, p.1 ≠ rl) (hoff : OwnOff own (rl :: pl :: X.map (·.1))) (hne : ∀ p ∈ bs9, p.1 ≠ nc) (hbs : bs9 = (b, ob) :: (rl, listOf (g ++ [Value.ref b]).toArray gn) :: (pl, op) :: (X ++ own)) (hm : ∀ y, ys.contains y = false → m' y = m₀ y) :
    InvEndG h₀ L (fun m' nx => (∃ c : WSt, nx = (rl, listOf (c.g ++ [Value.ref c.b]).toArray c.n) :: (pl, op) :: c.X ∧ WOk T names rl base (i + 1) c) ∧ ∀ y, ys.contains y = false → m' y = m₀ y) own s₁ { s₁ with heap := h', toks := tk } := by
  subst hbs
  obtain ⟨bs, nb, hb1, hb2⟩ := hb
  refine InvEndG.intro F N ⟨⟨⟨g ++ [Value.ref b], nc, gn + 1, acc ++ [ns], nextN ns lnk, (nc, listOf g2.toArray n2) :: X⟩, rfl, (hRow.snoc hb1 hb2).mono fun p hp => .tail _ hp, ⟨g2, n2, .head _, hP⟩, hnx, ?_, ?_, fun p hp => .tail _ (hbase p hp), List.forall_mem_cons.mpr ⟨fun e => hne _ (.tail _ (.head _)) e.symm, hXr⟩⟩, hm⟩ ?_ ?_ ?_
  · show (acc ++ [ns]).length = i + 1
    rw [List.length_append, hacc]; rfl
  · rw [← hrow, walkedL_some R9 hi]
    show acc ++ [ns] ++ walkedL T (6 - (i + 1)) (nextN ns lnk) = _
    rw [List.append_assoc]; rfl
  · intro p hp a ha
    rcases List.mem_cons.mp ha with rfl | ha
    · exact hoff p hp _ (.head _)
    · rcases List.mem_cons.mp ha with rfl | ha
      · exact hoff p hp _ (.tail _ (.head _))
      · rcases List.mem_cons.mp ha with rfl | ha
        · exact hne p (.tail _ (.tail _ (.tail _ (List.mem_append_right _ hp))))
        · exact hoff p hp _ (.tail _ (.tail _ ha))
  · exact List.forall_mem_cons.mpr ⟨.head _, List.forall_mem_cons.mpr ⟨.tail _ (.tail _ (.tail _ (.head _))), List.forall_mem_cons.mpr ⟨.tail _ (.head _), fun p hp => .tail _ (.tail _ (.tail _ (.tail _ (List.mem_append_left _ hp))))⟩⟩⟩
  · exact fun p hp => .tail _ (.tail _ (.tail _ (.tail _ (List.mem_append_right _ hp))))
theorem ite_len (c : Bool) {ns : List Str} (h : ns.length ≤ 10) : (if c = true then [] else ns.dropLast).length ≤ 10 := by
  cases c
  · show ns.dropLast.length ≤ 10
    rw [List.length_dropLast]; omega
  · exact Nat.zero_le _
theorem subW {h₀ h : Heap} {L : Addr} {a b c : Addr × Obj} {X rest own : List (Addr × Obj)} (_ : News h₀ L h (a :: b :: c :: (X ++ own))) (hb : ∀ p ∈ rest, p ∈ X) : ∀ p ∈ rest, p ∈ a :: b :: c :: (X ++ own) := fun p hp => .tail _ (.tail _ (.tail _ (List.mem_append_left _ (hb p hp))))
theorem part_ne {y : Str} (h : [Str.ofString "part"].contains y = false) : y ≠ Str.ofString "part" := by
  simpa only [List.contains_cons, List.contains_nil, Bool.or_false, beq_eq_false_iff_ne] using h
theorem walked_c (w : World) (pl nl : Addr) (pits nits : List Value) (np nn : Nat) (names : List Str) (T : List Ent) (rest : List (Addr × Obj)) (hnm : names ∈ reachN_) (hNm : StrsAre nits names) (hT : PagIn rest pits T) (hTb : TOk T) (hTl : T.length ≤ 20)
   (mean : ExcName → Option Value) (mg mb : Str → Option Value) (gd : Option (List Code)) (cn : Str) (nms) (ig ic) (mo) (a : Addr) (ccd : Value) (cl : List (Str × Addr)) (outer : List Env) (A₀ : Around) (base h₀ : Heap) (L : Addr) (m : Str → Option Value) (s : Shared) (Q E : Value → Shared → Prop)
    (B : Below A₀ base outer h₀) (F : Fr h₀ L s.heap m) (KX : (Mine.fr.heap_1 w.params).In h₀) (N : News h₀ L s.heap ((pl, listOf pits.toArray np) :: (nl, listOf nits.toArray nn) :: rest)) (TT : Top Mine.q loose mean mg mb h₀)
    (hret : ∀ (D : Addr) (g : List Value) (n' : Nat) (X : List (Addr × Obj)) (h' : Heap) (tk' : Nat), RowIn X g (walkedL T 6 names) → (∀ p ∈ (nl, listOf nits.toArray nn) :: rest, p ∈ X) → Fr h₀ L h' m → News h₀ L h' ((D, listOf g.toArray n') :: (pl, listOf pits.toArray np) :: X) → Q (.ref D) { s with heap := h', toks := tk' }) :
      wpAny (model PySem.Challenge.rw_pd0177_01.row.prog w) (ktrTop 750 7500 gd cn ⟨.function, nms, ig, ic, mo⟩ L a ccd cl outer) (call (.ref 328) [.ref pl, .ref nl]) Q E s := by
  k_with_none
  k_with "call ref" => (k_here; (with_reducible show wpAny _ _ (call (Value.ref 321) [Value.ref _, Value.ref _]) _ _ _); k_dflt (refine' found_walk hns hTb hTl hN hT hs9 (by exact Nat.le_of_ble_eq_true rfl) (by exact Nat.le_of_ble_eq_true rfl) (by k_asm) (by k_asm) (by k_asm) (by k_asm) (by k_asm) (by first | exact rfl | assumption) (by k_mem) (by k_mem) ?_ ?_); (first | (intro D9 n9 l9 t9 h9 tk9 R9 hg9 ho9 hs9 hl9 he9 fr9 F9 N9) | (intro D9 n9 h9 tk9 R9 fr9 F9 N9)); (try dsimp only); (try k_fold))
  k_with "compareOp Eq ref ref" => (k_here; (with_reducible show wpAny _ _ (compareOp CmpOp.Eq (Value.ref _) (Value.ref _)) _ _ _); k_dflt (refine' one_not_nil (by k_asm) (by k_mem) (by k_mem) (by with_reducible assumption) (by exact Nat.le_of_ble_eq_true rfl) ?_; k_whole))
  k_with "call builtin:list.append" => (k_here; (with_reducible show wpAny _ _ (call (Value.builtin "list.append") [Value.ref _, _]) _ _ _); k_dflt (refine' g_append_at _ (by with_reducible assumption) (by with_reducible assumption) (by k_mem) (by with_reducible assumption) (by with_reducible assumption) (by with_reducible assumption) ?_; k_whole); intro h9 F9 N9)
  k_with "exec For Name Call cons nil" => (k_here; (rename Fr _ _ _ _ => lF'); (with_unfolding_all refine' For_turns lF' ?_; k_whole))
  k_with "subscriptTail Name UnaryOp ref int" => (k_here; (with_reducible show wpAny _ _ (subscriptTail _ _ (Value.ref _) _) _ _ _); k_dflt (refine' g_last_in (by with_reducible assumption) (by k_mem) ?_ (by with_unfolding_all rfl); k_whole))
  k_with "binaryOp Add ref ref" => (k_here; (with_reducible show wpAny _ _ (binaryOp Operator.Add (Value.ref _) (Value.ref _)) _ _ _); k_dflt (refine' g_add (by with_reducible assumption) (by with_reducible assumption) (by k_mem) (by k_mem) (by ((with_reducible rename (_ + 1 ≤ sizeLine) => z9); exact z9)) ?_; k_whole); intro D9 h9 nD9 F9 N9)
  k_with "subscriptTail Name Slice ref ref" => (k_here; (with_reducible show wpAny _ _ (subscriptTail _ (PySem.Expr.Slice _ _ none _) (Value.ref _) (Value.ref _)) _ _ _); k_dflt (refine' g_cut (by k_asm) (by k_asm) (by k_mem) (by kmk_part) (by kmk_part) (by (with_reducible rename (_ + 1 ≤ sizeLine) => z9); exact Nat.le_of_succ_le z9) ?_ (by with_unfolding_all rfl) (by kmk_pure)); intro D9 h9 nD9 F9 N9)
  k_with "last subscriptTail" => (k_here; (with_reducible show wpAny _ _ (subscriptTail _ (PySem.Expr.Slice _ _ none _) (Value.ref _) (Value.ref _)) _ _ _); k_dflt (refine' g_cut (by k_asm) (by k_asm) (by k_mem) (by kmk_part) (by kmk_part) (by (with_reducible rename (_ + 1 ≤ sizeLine) => z9); exact Nat.le_of_succ_le z9) ?_ (by with_unfolding_all rfl) (by kmk_pure)); intro D9 h9 nD9 F9 N9)
  k_with "my val" => (
    rw [wfold_succ _ hc]; unfold wStep;
    (try (have e1 : (c == Str.ofString "..") = true := by with_reducible assumption); rw [e1]);
    (try (have e1 : (c == Str.ofString "..") = false := by with_reducible assumption); rw [e1]);
    (try (have e1 : (c != Str.ofString "") = true := by with_reducible assumption); rw [e1]);
    (try (have e1 : (c != Str.ofString "") = false := by with_reducible assumption); rw [e1]);
    (try (have e1 : (c != Str.ofString ".") = true := by with_reducible assumption); rw [e1]);
    (try (have e1 : (c != Str.ofString ".") = false := by with_reducible assumption); rw [e1]);
    simp only [Bool.and_true, Bool.true_and, Bool.and_false, Bool.false_and, if_true, if_false, Bool.false_eq_true];
    (first | exact hP | exact strs_cut hP | exact hP.append' (StrsAre.cons _ _ StrsAre.nil)))
  k_with "my nc" => (
    first
    | exact fun q9 hq9 => hoff2 q9 hq9 _ (List.Mem.head _)
    | ((with_reducible rename (∀ p : Addr × Obj, p ∈ _ → p.1 ≠ _) => nD9); (intro q9 hq9; refine nD9 q9 ?_; (repeat (first | exact List.mem_append_right _ hq9 | refine List.Mem.tail _ ?_)))))
  k_with "my off" => (
    first
    | exact hne2
    | ((with_reducible rename (∀ p : Addr × Obj, p ∈ _ → p.1 ≠ _) => nD9); (intro q9 hq9; refine nD9 q9 ?_; (repeat (first | exact List.mem_append_left own2 (hbt q9 hq9) | refine List.Mem.tail _ ?_)))))
  k_with "my end" => (
    refine bind_end2 (nm := Str.ofString "here") (P := fun nc g => StrsAre g (((Txt.split lnk (Str.ofString "/")).take (i2 + 1)).foldl wStep (if (Txt.slice lnk none (some 1) == Str.ofString "/") = true then [] else ns.dropLast)) ∧ ∀ p ∈ bs9, p.1 ≠ nc)
      (by assumption) (by assumption) (by with_unfolding_all rfl) (by repeat (first | exact List.Mem.head _ | refine List.Mem.tail _ ?_)) (by walk_at "my nc") (fun q9 hq9 b9 hb9 => hoff2 q9 hq9 b9 (List.Mem.tail _ hb9))
      (by (intro q9 hq9; (repeat (first | exact List.mem_append_left own2 hq9 | refine List.Mem.tail _ ?_)))) (by (intro q9 hq9; (repeat (first | exact List.mem_append_right _ hq9 | refine List.Mem.tail _ ?_)))) ⟨by walk_at "my val", by walk_at "my off"⟩
      (fun y9 hy9 hz9 => by ((have h1y := part_ne hy9); (have h2y := ne_of_beq_false hz9); simp only [if_neg h1y, if_neg h2y, hy9, hz9, Bool.false_eq_true, if_false])))
  revert KX; k_fill; intro KX
  refine wpAny_call ?_
  k_dflt k_enter
  k_steps
  (with_reducible rename IsRange _ _ _ _ _ _ _ _ => hR)
  (with_reducible rename (_ ∧ _ ∧ AllLt _ _) => l1x)
  (rename Fr _ _ _ _ => lF'); (rename News _ _ _ _ => lN')
  refine' fold_range1 (nn := 6) (fun rl (c : WSt) => (rl, listOf (c.g ++ [Value.ref c.b]).toArray c.n) :: (pl, listOf pits.toArray np) :: c.X) [Str.ofString "k", Str.ofString "found", Str.ofString "here", Str.ofString "part"]
    (fun rl => WOk T names rl ((nl, listOf nits.toArray nn) :: rest)) ⟨[], nl, 0, [], names, (nl, listOf nits.toArray nn) :: rest⟩ rfl hR (by decide) (by decide) lF' lN' ?h0 ?turn ?done
  case h0 => exact ⟨.nil, ⟨nits, nn, .head _, hNm⟩, hnm, rfl, rfl, fun p hp => hp, List.forall_mem_cons.mpr ⟨Nat.ne_of_lt l1x.2.1, fun p hp => Nat.ne_of_lt (allLt_mem l1x.2.2 p hp)⟩⟩
  case turn =>
    rintro i t1 ⟨g, b, gn, acc, ns, X⟩ u h tk2 own hi hoff ⟨hRow, ⟨nits2, nb, hb, hN⟩, hns, hacc, hrow, hbase, hXr⟩ F1 N1
    clear lF' lN'
    dsimp only at hRow hb hN hns hacc hrow hbase hXr hoff N1
    simp only [List.cons_append] at N1
    have N2 := news_sub (news := (b, listOf nits2.toArray nb) :: _) N1 (List.forall_mem_cons.mpr ⟨.tail _ (.tail _ (List.mem_append_left _ hb)), fun p hp => hp⟩)
    have hs9 := subW N2 fun p hp => hbase p (.tail _ hp)
    clear N1
    obtain ⟨bs9, hbs9⟩ := base_of N2
    obtain ⟨hnl, hnb⟩ := reach_names ns hns
    have hz9 : nits2.length + 1 ≤ sizeLine := by rw [hN.length, sizeLine_eq]; omega
    k_steps
    · exact hret _ _ gn _ _ _ (by rw [← hrow, walkedL_none R9]; exact hRow.snoc hb hN) hbase (by assumption) (news_sub (by assumption) (List.forall_mem_cons.mpr ⟨.tail _ (.tail _ (.tail _ (.head _))), List.forall_mem_cons.mpr ⟨.tail _ (.tail _ (.tail _ (.tail _ (.head _)))), fun p hp => .tail _ (.tail _ (.tail _ (.tail _ (.tail _ (List.mem_append_left _ hp)))))⟩⟩))
    all_goals (
      (with_reducible rename Str => lnk)
      (with_reducible rename StrsAre (strValues _) _ => hS)
      (with_reducible rename (List.map _ _ = Txt.split _ _) => hE)
      (with_reducible rename (∀ a ∈ List.map _ _, Str.length a ≤ _) => hLe)
      (with_reducible rename ((Txt.split lnk _).length ≤ 100) => hsl)
      (with_reducible rename (foundL T ns = [_]) => R9)
      (with_reducible rename (nextN ns _ ∈ reachN_) => hnx)
      (with_reducible rename ((Txt.slice lnk none (some 1) == Str.ofString "/") = _) => hc1)
      (rename Fr _ _ _ _ => lF'); (rename News _ _ _ _ => lN')
      rw [hE] at hS hLe
      have lN2 := swap2 lN'
      clear lN'
      have hbt := sub_tail lN2 (bs := bs9) (by rw [hbs9]; intro p hp; repeat (first | exact hp | refine List.Mem.tail _ ?_))
      refine fold_bind (Str.ofString "here") [Str.ofString "part"] (fun i nc g => StrsAre g (((Txt.split lnk (Str.ofString "/")).take i).foldl wStep (if (Txt.slice lnk none (some 1) == Str.ofString "/") = true then [] else ns.dropLast)) ∧ ∀ p ∈ bs9, p.1 ≠ nc) rfl (List.Mem.head _) lF' rfl lN2 ?_ ?_ ?_
      · first
          | (refine ⟨by rw [if_pos hc1]; exact .nil, ?_⟩
             (with_reducible rename (_ ∧ _ ∧ _ ∧ _ ∧ _ ∧ AllLt _ _) => l9)
             obtain ⟨_, _, l9a, l9b, l9c, l9d⟩ := l9
             rw [hbs9]
             exact List.forall_mem_cons.mpr ⟨Nat.ne_of_lt l9a, List.forall_mem_cons.mpr ⟨Nat.ne_of_lt l9b, List.forall_mem_cons.mpr ⟨Nat.ne_of_lt l9c, fun p hp => Nat.ne_of_lt (allLt_mem l9d p hp)⟩⟩⟩)
          | (refine ⟨by rw [if_neg (ne_true hc1)]; exact strs_cut hN, ?_⟩
             (with_reducible rename (∀ p : Addr × Obj, p ∈ _ → p.1 ≠ _) => nD9)
             rw [hbs9]
             intro p hp
             refine nD9 p ?_
             repeat (first | exact hp | refine List.Mem.tail _ ?_))
      · intro i2 v nc2 g2 n2 u2 h2 tk3 own2 hv hoff2 hPn F3 N3
        obtain ⟨hP, hne2⟩ := hPn
        clear lF' lN2
        obtain ⟨c, tc, rfl, hc⟩ := hS.item i2 v hv
        have hcl := hLe c (List.mem_of_getElem? hc)
        clear hz9
        have hz9 : g2.length + 1 ≤ sizeLine := by
          have h7 := wfold_len (if (Txt.slice lnk none (some 1) == Str.ofString "/") = true then [] else ns.dropLast) ((Txt.split lnk (Str.ofString "/")).take i2)
          have h8 := ite_len (Txt.slice lnk none (some 1) == Str.ofString "/") hnl
          rw [List.length_take] at h7
          rw [hP.length, sizeLine_eq]; omega
        k_steps
        all_goals walk_at "my end"
      · intro nc2 g2 n2 u2 h2 tk3 hPn F3 N3
        obtain ⟨hP, hne2⟩ := hPn
        clear lF' lN2
        rw [hS.length, List.take_length] at hP
        have happ := app_sub N3 hbt hbs9
        have hapo := app_off (o2 := listOf g2.toArray n2) hbs9 hne2 hb hXr (Nat.ne_of_lt l1x.1) hoff
        have hapz : (g ++ [Value.ref b]).length ≤ sizeLine := by
          rw [List.length_append, hRow.length, hacc, sizeLine_eq]
          show i + 1 ≤ _
          omega
        k_steps
        refine walked_end (by assumption) (by assumption) hRow ⟨nits2, nb, hb, hN⟩ hP hnx hacc hrow R9 hi hbase hXr hoff hne2 hbs9 fun y hy => ?_
        have hy0 := hy
        simp only [List.contains_cons, List.contains_nil, Bool.or_false, Bool.or_eq_false_iff, beq_eq_false_iff_ne] at hy
        obtain ⟨hy1, hy2, hy3, hy4⟩ := hy
        have p1 : [Str.ofString "part"].contains y = false := by simp only [List.contains_cons, List.contains_nil, Bool.or_false, beq_eq_false_iff_ne]; exact hy4
        have p2 : (y == Str.ofString "here") = false := by rw [beq_eq_false_iff_ne]; exact hy3
        simp only [if_neg hy1, if_neg hy2, if_neg hy3, hy0, p1, p2, Bool.false_eq_true, if_false])
  case done =>
    rintro ⟨g, b, gn, acc, ns, X⟩ u h tk2 ⟨hRow, ⟨nits2, nb, hb, hN⟩, hns, hacc, hrow, hbase, hXr⟩ F1 N1
    clear lF' lN'
    dsimp only at hRow hb hN hns hacc hrow hbase hXr N1
    k_steps
    exact hret _ _ gn _ _ _ (by rw [← hrow]; exact hRow.snoc hb hN) hbase (by assumption) (by assumption)
end Mine
end
section
open PySem PySem.W PyProof.Rows PySem.Spec PySem.Calls
namespace Mine
local macro_rules | `(tactic| walk_at $s:str) => `(tactic| k_extra $s)
open PyProof.Rows.LCg
local macro_rules | `(tactic| k_all) => `(tactic| exact allLt_ne (by with_reducible assumption) (by first | with_reducible exact Nat.le_refl _ | with_reducible exact Nat.le_succ _ | omega))
theorem sub3 {h₀ h : Heap} {L : Addr} {a b c : Addr × Obj} {rest : List (Addr × Obj)} (_ : News h₀ L h (a :: b :: c :: rest)) : ∀ p ∈ rest, p ∈ a :: b :: c :: rest := fun _ hp => .tail _ (.tail _ (.tail _ hp))
theorem keys_c (w : World) (tq : Tok) (x dd hl : Addr) (items : List Value) (n : Nat) (T : List Ent) (rest : List (Addr × Obj)) (hT : TabIn rest items T) (hTl : T.length ≤ 20)
   (mean : ExcName → Option Value) (mg mb : Str → Option Value) (gd : Option (List Code)) (cn : Str) (nms) (ig ic) (mo) (a : Addr) (ccd : Value) (cl : List (Str × Addr)) (outer : List Env) (A₀ : Around) (base h₀ : Heap) (L : Addr) (m : Str → Option Value) (s : Shared) (Q E : Value → Shared → Prop)
    (B : Below A₀ base outer h₀) (F : Fr h₀ L s.heap m) (KX : (Mine.fr.heap_1 w.params).In h₀) (N : News h₀ L s.heap ((x, instObj 300 dd) :: (dd, hdrObj w tq hl) :: (hl, listOf items.toArray n) :: rest)) (TT : Top Mine.q loose mean mg mb h₀)
    (hret : ∀ (D : Addr) (out : List Value) (h' : Heap) (tk' : Nat), StrsAre out (T.map (·.page)) → Fr h₀ L h' m → News h₀ L h' ((D, lst out) :: (x, instObj 300 dd) :: (dd, hdrObj w tq hl) :: (hl, listOf items.toArray n) :: rest) → Q (.ref D) { s with heap := h', toks := tk' }) :
      wpAny (model PySem.Challenge.rw_pd0177_01.row.prog w) (ktrTop 800 8000 gd cn ⟨.function, nms, ig, ic, mo⟩ L a ccd cl outer) (call (.ref 252) [.ref x]) Q E s := by
  k_with_none
  k_with "eval ListComp" => (k_here; k_dflt (refine comp_any (F₀ := by k_asm) (by with_unfolding_all rfl) (by decide) (by rfl) (by decide) ?_))
  k_with "call ref" => (k_here; (with_reducible show wpAny _ _ (call (Value.ref 247) [Value.ref _, Value.str _ _]) _ _ _); k_dflt (refine' get_told hq hTb hT hs9 (by exact Nat.le_of_ble_eq_true rfl) (by exact Nat.le_of_ble_eq_true rfl) (by k_asm) (by k_asm) (by k_asm) (by k_asm) (by k_asm) (by first | exact rfl | assumption) (by k_mem) (by k_mem) (by k_mem) ?_ ?_); (first | (intro l9 t9 h9 tk9 R9 hg9 ha9 hb9 hc9 hd9 hi9 he9 F9 N9) | (intro h9 tk9 R9 F9 N9)); (try dsimp only); (try k_fold))
  k_with "call ref" => (k_here; (with_reducible show wpAny _ _ (call (Value.ref 199) [Value.ref _, Value.str _ _] _) _ _ _); k_dflt (first | (refine' Conv.use (nm := true) (by assumption) (by exact rfl) (by exact rfl) (by exact Nat.le_of_ble_eq_true rfl) (by exact Nat.le_of_ble_eq_true rfl) (by k_asm) (by k_asm) (by k_asm) ?_; k_whole; (intro t9 h9 tk9 F9 N9); (try dsimp only); (try k_fold)) | (refine' Conv.use (nm := false) (by assumption) (by exact rfl) (by exact rfl) (by exact Nat.le_of_ble_eq_true rfl) (by exact Nat.le_of_ble_eq_true rfl) (by k_asm) (by k_asm) (by k_asm) ?_; k_whole; (intro t9 h9 tk9 F9 N9); (try dsimp only); (try k_fold))))
  revert KX; k_fill; intro KX
  refine wpAny_call ?_
  k_dflt k_enter
  k_steps
  obtain ⟨f, p1, p2⟩ := hT.prs
  refine compA_pairs f (fun i out => StrsAre out ((T.take i).map (·.page))) rfl (by k_asm) (by k_asm) (List.Mem.tail _ (List.Mem.tail _ (List.Mem.head _))) (by rw [hT.length, sizeLine_eq]; omega) rfl rfl rfl (by decide) .nil ?prs ?turn ?fin
  case prs =>
    intro i v hv
    obtain ⟨t, ot, nt, h1, h2, h3⟩ := p1 i v hv
    exact ⟨t, ot, nt, h1, List.Mem.tail _ (List.Mem.tail _ (List.Mem.tail _ h2)), h3⟩
  case turn =>
    intro i out I oI C oC D2 m₂ h2 tk3 E' hi hJ hC hx1 hx2 F2 N2 off2 ne2
    obtain ⟨e, hTi⟩ : ∃ e, T[i]? = some e := ⟨T[i]'(by rw [← hT.length]; exact hi), by simp⟩
    obtain ⟨t1, t2, e1, e2⟩ := p2 i e hTi
    rw [e1] at hx1
    rw [e2] at hx2
    simp only [LCg.Off3] at off2
    refine wpAny_tests_nil ?_
    k_steps
    · exact ⟨_, _, rfl, by assumption, by assumption⟩
    · rw [List.take_add_one, hTi, List.map_append]
      exact hJ.append' (.cons _ _ .nil)
  case fin =>
    intro D2 h2 tk3 out hout F2 N2 off2
    rw [hT.length, List.take_length] at hout
    k_steps
    exact hret _ _ _ _ hout (by assumption) (by assumption)
theorem values_c (w : World) (tq : Tok) (x dd hl : Addr) (items : List Value) (n : Nat) (T : List Ent) (rest : List (Addr × Obj)) (hT : TabIn rest items T) (hTl : T.length ≤ 20)
   (mean : ExcName → Option Value) (mg mb : Str → Option Value) (gd : Option (List Code)) (cn : Str) (nms) (ig ic) (mo) (a : Addr) (ccd : Value) (cl : List (Str × Addr)) (outer : List Env) (A₀ : Around) (base h₀ : Heap) (L : Addr) (m : Str → Option Value) (s : Shared) (Q E : Value → Shared → Prop)
    (B : Below A₀ base outer h₀) (F : Fr h₀ L s.heap m) (KX : (Mine.fr.heap_1 w.params).In h₀) (N : News h₀ L s.heap ((x, instObj 300 dd) :: (dd, hdrObj w tq hl) :: (hl, listOf items.toArray n) :: rest)) (TT : Top Mine.q loose mean mg mb h₀)
    (hret : ∀ (D : Addr) (out : List Value) (h' : Heap) (tk' : Nat), StrsAre out (T.map (·.link)) → Fr h₀ L h' m → News h₀ L h' ((D, lst out) :: (x, instObj 300 dd) :: (dd, hdrObj w tq hl) :: (hl, listOf items.toArray n) :: rest) → Q (.ref D) { s with heap := h', toks := tk' }) :
      wpAny (model PySem.Challenge.rw_pd0177_01.row.prog w) (ktrTop 800 8000 gd cn ⟨.function, nms, ig, ic, mo⟩ L a ccd cl outer) (call (.ref 257) [.ref x]) Q E s := by
  k_with_none
  k_with "eval ListComp" => (k_here; k_dflt (refine comp_any (F₀ := by k_asm) (by with_unfolding_all rfl) (by decide) (by rfl) (by decide) ?_))
  k_with "call ref" => (k_here; (with_reducible show wpAny _ _ (call (Value.ref 247) [Value.ref _, Value.str _ _]) _ _ _); k_dflt (refine' get_told hq hTb hT hs9 (by exact Nat.le_of_ble_eq_true rfl) (by exact Nat.le_of_ble_eq_true rfl) (by k_asm) (by k_asm) (by k_asm) (by k_asm) (by k_asm) (by first | exact rfl | assumption) (by k_mem) (by k_mem) (by k_mem) ?_ ?_); (first | (intro l9 t9 h9 tk9 R9 hg9 ha9 hb9 hc9 hd9 hi9 he9 F9 N9) | (intro h9 tk9 R9 F9 N9)); (try dsimp only); (try k_fold))
  k_with "call ref" => (k_here; (with_reducible show wpAny _ _ (call (Value.ref 199) [Value.ref _, Value.str _ _] _) _ _ _); k_dflt (first | (refine' Conv.use (nm := true) (by assumption) (by exact rfl) (by exact rfl) (by exact Nat.le_of_ble_eq_true rfl) (by exact Nat.le_of_ble_eq_true rfl) (by k_asm) (by k_asm) (by k_asm) ?_; k_whole; (intro t9 h9 tk9 F9 N9); (try dsimp only); (try k_fold)) | (refine' Conv.use (nm := false) (by assumption) (by exact rfl) (by exact rfl) (by exact Nat.le_of_ble_eq_true rfl) (by exact Nat.le_of_ble_eq_true rfl) (by k_asm) (by k_asm) (by k_asm) ?_; k_whole; (intro t9 h9 tk9 F9 N9); (try dsimp only); (try k_fold))))
  revert KX; k_fill; intro KX
  refine wpAny_call ?_
  k_dflt k_enter
  k_steps
  obtain ⟨f, p1, p2⟩ := hT.prs
  refine compA_pairs f (fun i out => StrsAre out ((T.take i).map (·.link))) rfl (by k_asm) (by k_asm) (List.Mem.tail _ (List.Mem.tail _ (List.Mem.head _))) (by rw [hT.length, sizeLine_eq]; omega) rfl rfl rfl (by decide) .nil ?prs ?turn ?fin
  case prs =>
    intro i v hv
    obtain ⟨t, ot, nt, h1, h2, h3⟩ := p1 i v hv
    exact ⟨t, ot, nt, h1, List.Mem.tail _ (List.Mem.tail _ (List.Mem.tail _ h2)), h3⟩
  case turn =>
    intro i out I oI C oC D2 m₂ h2 tk3 E' hi hJ hC hx1 hx2 F2 N2 off2 ne2
    obtain ⟨e, hTi⟩ : ∃ e, T[i]? = some e := ⟨T[i]'(by rw [← hT.length]; exact hi), by simp⟩
    obtain ⟨t1, t2, e1, e2⟩ := p2 i e hTi
    rw [e1] at hx1
    rw [e2] at hx2
    simp only [LCg.Off3] at off2
    refine wpAny_tests_nil ?_
    k_steps
    · exact ⟨_, _, rfl, by assumption, by assumption⟩
    · rw [List.take_add_one, hTi, List.map_append]
      exact hJ.append' (.cons _ _ .nil)
  case fin =>
    intro D2 h2 tk3 out hout F2 N2 off2
    rw [hT.length, List.take_length] at hout
    k_steps
    exact hret _ _ _ _ hout (by assumption) (by assumption)
theorem append_tup {prog : Program} {w : World} {A : Around} {E : Value → Shared → Prop} {s : Shared} {h₀ : Heap} {L tup hl : Addr} {m : Str → Option Value} {o : Obj} {items : List Value} {n : Nat} {a b : Addr × Obj} {rest : List (Addr × Obj)} {Q : Value → Shared → Prop} (F : Fr h₀ L s.heap m) (N : News h₀ L s.heap ((tup, o) :: (hl, listOf items.toArray n) :: a :: b :: rest)) (l9 : hl < tup ∧ a.1 < tup ∧ b.1 < tup ∧ AllLt tup rest) (ha : a.1 ≠ hl) (hb : b.1 ≠ hl) (hrl : ∀ p ∈ rest, p.1 ≠ hl) (hz : items.length ≤ sizeLine)
    (h : ∀ h', tup ≠ hl → (∀ p ∈ rest, p.1 ≠ tup) → Fr h₀ L h' m → News h₀ L h' ((hl, listOf (items ++ [Value.ref tup]).toArray (n + 1)) :: (tup, o) :: a :: b :: rest) → Q .none { s with heap := h' }) : wpAny (model prog w) A (call (.builtin "list.append") [.ref hl, .ref tup]) Q E s :=
  have ne : tup ≠ hl := Ne.symm (Nat.ne_of_lt l9.1)
  g_append_at ((tup, o) :: a :: b :: rest) F N (.tail _ (.head _)) (List.forall_mem_cons.mpr ⟨.head _, fun p hp => .tail _ (.tail _ hp)⟩) (List.forall_mem_cons.mpr ⟨ne, List.forall_mem_cons.mpr ⟨ha, List.forall_mem_cons.mpr ⟨hb, hrl⟩⟩⟩) hz
    fun h' F' N' => h h' ne (fun p hp => Nat.ne_of_lt (allLt_mem l9.2.2.2 p hp)) F' N'
/-- setdefault: the table's rows behind it -/
theorem setdefault_c (w : World) (tq : Tok) (page link : Str) (t tl : Tok) (x dd hl : Addr) (items : List Value) (n : Nat) (T : List Ent) (rest : List (Addr × Obj)) (hpg : page ∈ pages_) (hlk : link ∈ links_) (hT : TabIn rest items T) (hTb : TOk T) (hTl : T.length ≤ 20) (hx : x ≠ hl) (hdd : dd ≠ hl) (hrl : ∀ p ∈ rest, p.1 ≠ hl)
   (mean : ExcName → Option Value) (mg mb : Str → Option Value) (gd : Option (List Code)) (cn : Str) (nms) (ig ic) (mo) (a : Addr) (ccd : Value) (cl : List (Str × Addr)) (outer : List Env) (A₀ : Around) (base h₀ : Heap) (L : Addr) (m : Str → Option Value) (s : Shared) (Q E : Value → Shared → Prop)
    (B : Below A₀ base outer h₀) (F : Fr h₀ L s.heap m) (KX : (Mine.fr.heap_1 w.params).In h₀) (N : News h₀ L s.heap ((hl, listOf items.toArray n) :: (x, instObj 300 dd) :: (dd, hdrObj w tq hl) :: rest)) (TT : Top Mine.q loose mean mg mb h₀)
    (hret0 : ∀ (t' tp tl' : Tok) (tup : Addr) (nt : Nat) (h' : Heap) (tk' : Nat), look T (Txt.lower page) = none → Fr h₀ L h' m → News h₀ L h' ((hl, listOf (items ++ [Value.ref tup]).toArray (n + 1)) :: (tup, ({ cls := .type "tuple", data := .seq #[.str page tp, .str link tl'] nt } : Obj)) :: (x, instObj 300 dd) :: (dd, hdrObj w tq hl) :: rest) → tup ≠ hl → (∀ p ∈ rest, p.1 ≠ tup) → Q (.str link t') { s with heap := h', toks := tk' })
    (hret1 : ∀ (l : Str) (t' : Tok) (h' : Heap) (tk' : Nat), look T (Txt.lower page) = some l → Fr h₀ L h' m → News h₀ L h' ((hl, listOf items.toArray n) :: (x, instObj 300 dd) :: (dd, hdrObj w tq hl) :: rest) → Q (.str l t') { s with heap := h', toks := tk' }) :
      wpAny (model PySem.Challenge.rw_pd0177_01.row.prog w) (ktrTop 700 7000 gd cn ⟨.function, nms, ig, ic, mo⟩ L a ccd cl outer) (call (.ref 290) [.ref x, .str page t, .str link tl]) Q E s := by
  k_with_none
  k_with "eval ListComp" => (k_here; k_dflt (refine comp_any (F₀ := by k_asm) (by with_unfolding_all rfl) (by decide) (by rfl) (by decide) ?_))
  k_with "call ref" => (k_here; (with_reducible show wpAny _ _ (call (Value.ref 247) [Value.ref _, Value.str _ _]) _ _ _); k_dflt (refine' get_told hq hTb hT hs9 (by exact Nat.le_of_ble_eq_true rfl) (by exact Nat.le_of_ble_eq_true rfl) (by k_asm) (by k_asm) (by k_asm) (by k_asm) (by k_asm) (by first | exact rfl | assumption) (by k_mem) (by k_mem) (by k_mem) ?_ ?_); (first | (intro l9 t9 h9 tk9 R9 hg9 ha9 hb9 hc9 hd9 hi9 he9 F9 N9) | (intro h9 tk9 R9 F9 N9)); (try dsimp only); (try k_fold))
  k_with "call ref" => (k_here; (with_reducible show wpAny _ _ (call (Value.ref 199) [Value.ref _, Value.str _ _] _) _ _ _); k_dflt (first | (refine' Conv.use (nm := true) (by assumption) (by exact rfl) (by exact rfl) (by exact Nat.le_of_ble_eq_true rfl) (by exact Nat.le_of_ble_eq_true rfl) (by k_asm) (by k_asm) (by k_asm) ?_; k_whole; (intro t9 h9 tk9 F9 N9); (try dsimp only); (try k_fold)) | (refine' Conv.use (nm := false) (by assumption) (by exact rfl) (by exact rfl) (by exact Nat.le_of_ble_eq_true rfl) (by exact Nat.le_of_ble_eq_true rfl) (by k_asm) (by k_asm) (by k_asm) ?_; k_whole; (intro t9 h9 tk9 F9 N9); (try dsimp only); (try k_fold))))
  have hq : page ∈ reach_ := (pages_len _ hpg).2.1
  have hs9 := sub3 N
  have hcv1 := convN w page (pages_len _ hpg).2.2
  have hcv2 := convV w link hlk
  revert KX; k_fill; intro KX
  refine wpAny_call ?_
  k_dflt k_enter
  k_steps
  · (with_reducible rename (look T _ = none) => R9)
    refine append_tup (by assumption) (by assumption) (by assumption) hx hdd hrl (by rw [hT.length, sizeLine_eq]; omega) fun h8 hne8 hof8 F8 N8 => ?_
    k_steps
    exact hret0 _ _ _ _ _ _ _ R9 (by assumption) (by assumption) hne8 hof8
  · exact hret1 _ _ _ _ (by assumption) (by assumption) (by assumption)
end Mine
end
section
open PySem PySem.W PyProof.Rows PySem.Spec PySem.Calls
namespace Mine
section
variable {prog : Program} {w : World} {A : Around} {E : Value → Shared → Prop} {s : Shared} {h₀ : Heap}
/-- a list of the ledger without its first item -/
theorem g_from1 {value slice : Expr} {L nc : Addr} {o : Obj} {g : List Value} {n : Nat} {m : Str → Option Value} {news : List (Addr × Obj)} {vl vu : Value} {Q : Value → Shared → Prop} (F : Fr h₀ L s.heap m) (N : News h₀ L s.heap news) (ma : (nc, o) ∈ news) (hc : o.cls = .type "list") (hd : o.data = .seq g.toArray n) (pl : IsPart vl (some 1)) (pu : IsPart vu none) (hz : g.length ≤ sizeLine)
    (h : ∀ (D : Addr) h', (∀ p ∈ news, p.1 ≠ D) → Fr h₀ L h' m → News h₀ L h' ((D, listOf (g.drop 1).toArray 0) :: news) → Q (.ref D) { s with heap := h' })
    (hs : subscripted slice false (.ref nc) (.ref s.heap.objs.size) = operate [.ref s.heap.objs.size, .ref nc] (getItem (.ref nc) (.ref s.heap.objs.size))) (ht : ∀ r, letTemporaryGo value (.ref nc) r = pure ()) :
    wpAny (model prog w) A (subscriptTail value slice (.ref nc) (.ref s.heap.objs.size)) Q E { s with heap := s.heap.push { cls := .type "slice", data := .fields #[vl, vu, .none] } } :=
  kmk_slice F N ⟨_, (N _ ma).1, hc, n, hd⟩ pl pu (fun D h' F' N' l1 => h D h' (fun p hp => Nat.ne_of_lt (l1 p hp)) F' (by rw [slice_from1] at N'; exact N')) hs ht (by rw [List.size_toArray]; exact hz)
end
section
variable {prog : Program} {w : World} {A : Around} {E : Value → Shared → Prop} {s : Shared} {env : Env} {h₀ : Heap} {target : Expr} {body : List Stmt} {Q : Flow → Shared → Prop}
end
theorem linkR_mem (r : Int) : linkR r ∈ links_ := by
  unfold linkR
  repeat' split
  all_goals decide +kernel
theorem link_c2 (w : World) (n : Int) (t : Tok) : Call w 850 8500 316 [.int n t] (fun v => ∃ l ∈ links_, ∃ t, v = .str l t) := by
  intro mean mg mb d u gd cn cs a ccd cl outer A₀ base h₀ L m s Q E news hd hu B F KX N T hk hret
  exact link_c w n t mean mg mb d u gd cn cs a ccd cl outer A₀ base h₀ L m s Q E news hd hu B F KX N T hk fun v h' tk' ⟨t', e⟩ F' N' => hret v h' tk' ⟨_, linkR_mem _, t', e⟩ F' N'
theorem page_reachN : ∀ p ∈ pages_, (Txt.split p (Str.ofString "/")).drop 1 ∈ reachN_ ∧ (Txt.split p (Str.ofString "/")).length ≤ 100 := by decide +kernel
theorem strs_drop {vs : List Value} {ss xs : List Str} (h : StrsAre vs ss) (e : ss = xs) : StrsAre (vs.drop 1) (xs.drop 1) := e ▸ h.drop' 1
/-- the table and the pages, as law's first loop makes them -/
structure LSt where
  T : List Ent
  items : List Value
  n : Nat
  pits : List Value
  np : Nat
  X : List (Addr × Obj)
def LOk (hl pl : Addr) (i : Nat) (c : LSt) : Prop := TabIn c.X c.items c.T ∧ PagIn c.X c.pits c.T ∧ TOk c.T ∧ c.T.length ≤ i ∧ (∀ p ∈ c.X, p.1 ≠ hl) ∧ ∀ p ∈ c.X, p.1 ≠ pl
noncomputable abbrev LLed (w : World) (tq : Tok) (hl pl xa dd al : Addr) (ws : List Value) (c : LSt) : List (Addr × Obj) := (hl, listOf c.items.toArray c.n) :: (pl, listOf c.pits.toArray c.np) :: (xa, instObj 300 dd) :: (dd, hdrObj w tq hl) :: (al, listOf ws.toArray 0) :: c.X
theorem same_low : ∀ q ∈ pages_, ∀ e ∈ pages_, (Txt.lower e == Txt.lower q) = (((Txt.split e (Str.ofString "/")).drop 1).map Txt.lower == ((Txt.split q (Str.ofString "/")).drop 1).map Txt.lower) := by decide +kernel
/-- the two ways to look up a page agree -/
theorem look_found {T : List Ent} (hT : TOk T) {p : Str} (hp : p ∈ pages_) : look T (Txt.lower p) = (foundL T ((Txt.split p (Str.ofString "/")).drop 1)).head? := by
  have e1 : (foundL T ((Txt.split p (Str.ofString "/")).drop 1)).head? = (T.find? fun e => e.names.map Txt.lower == ((Txt.split p (Str.ofString "/")).drop 1).map Txt.lower).map (·.link) := by
    unfold foundL
    rw [List.head?_take]
    simp
  rw [e1]
  unfold look
  congr 1
  have hc : ∀ e ∈ T, (Txt.lower e.page == Txt.lower p) = (e.names.map Txt.lower == ((Txt.split p (Str.ofString "/")).drop 1).map Txt.lower) := fun e he => by
    rw [(hT e he).2.2]; exact same_low p hp e.page (hT e he).1
  clear e1 hT
  induction T with
  | nil => rfl
  | cons e T ih =>
    rw [List.find?_cons, List.find?_cons, hc e (.head _), ih fun x hx => hc x (.tail _ hx)]
/-- setdefault, upon any ledger; what is kept of it -/
theorem setdefault_use {w : World} {tq : Tok} {page link : Str} {t tl : Tok} {x dd hl : Addr} {items : List Value} {n : Nat} {T : List Ent} {rest news : List (Addr × Obj)} (keep : List (Addr × Obj))
   {mean : ExcName → Option Value} {mg mb : Str → Option Value} {d u : Nat} {gd : Option (List Code)} {cn : Str} {cs : Scope} {a : Addr} {ccd : Value} {cl : List (Str × Addr)} {outer : List Env} {A₀ : Around} {base h₀ : Heap} {L : Addr} {m : Str → Option Value} {s : Shared} {Q E : Value → Shared → Prop}
    (hpg : page ∈ pages_) (hlk : link ∈ links_) (hT : TabIn rest items T) (hTb : TOk T) (hTl : T.length ≤ 20) (kd : d ≤ 700) (ku : u ≤ 7000)
    (B : Below A₀ base outer h₀) (F : Fr h₀ L s.heap m) (KX : (Mine.fr.heap_1 w.params).In h₀) (N : News h₀ L s.heap news) (TT : Top Mine.q loose mean mg mb h₀) (hk : cs.kind = .function)
    (hko : ∀ p ∈ keep, p.1 ≠ hl) (mh : (hl, listOf items.toArray n) ∈ news) (hkeep : ∀ p ∈ keep, p ∈ news) (hrest : ∀ p ∈ rest, p ∈ keep) (mx : (x, instObj 300 dd) ∈ keep) (md : (dd, hdrObj w tq hl) ∈ keep)
    (hret0 : ∀ (t' tp tl' : Tok) (tup : Addr) (nt : Nat) (h' : Heap) (tk' : Nat), look T (Txt.lower page) = none → Fr h₀ L h' m → News h₀ L h' ((hl, listOf (items ++ [Value.ref tup]).toArray (n + 1)) :: (tup, ({ cls := .type "tuple", data := .seq #[.str page tp, .str link tl'] nt } : Obj)) :: keep) → tup ≠ hl → (∀ p ∈ keep, p.1 ≠ tup) → Q (.str link t') { s with heap := h', toks := tk' })
    (hret1 : ∀ (l : Str) (t' : Tok) (h' : Heap) (tk' : Nat), look T (Txt.lower page) = some l → Fr h₀ L h' m → News h₀ L h' ((hl, listOf items.toArray n) :: keep) → Q (.str l t') { s with heap := h', toks := tk' }) :
      wpAny (model PySem.Challenge.rw_pd0177_01.row.prog w) (ktrTop d u gd cn cs L a ccd cl outer) (call (.ref 290) [.ref x, .str page t, .str link tl]) Q E s := by
  refine wpAny_le (A' := ktrTop 700 7000 gd cn cs L a ccd cl outer) rfl kd (fun _ e => e) (fun _ e => e) ku ?_
  obtain ⟨kd, nms, ig, ic, mo⟩ := cs
  dsimp only at hk
  subst hk
  refine setdefault_c w tq page link t tl x dd hl items n T keep hpg hlk (hT.mono hrest) hTb hTl (hko _ mx) (hko _ md) hko mean mg mb gd cn nms ig ic mo a ccd cl outer A₀ base h₀ L m s Q E B F KX (List.forall_mem_cons.mpr ⟨N _ mh, List.forall_mem_cons.mpr ⟨N _ (hkeep _ mx), List.forall_mem_cons.mpr ⟨N _ (hkeep _ md), fun p hp => N p (hkeep p hp)⟩⟩⟩) TT
    (fun t' tp tl' tup nt h' tk' R F' N' h1 h2 => hret0 t' tp tl' tup nt h' tk' R F' (news_sub N' ?_) h1 h2) (fun l t' h' tk' R F' N' => hret1 l t' h' tk' R F' (news_sub N' ?_))
  · exact List.forall_mem_cons.mpr ⟨.head _, List.forall_mem_cons.mpr ⟨.tail _ (.head _), fun p hp => .tail _ (.tail _ (.tail _ (.tail _ hp)))⟩⟩
  · exact List.forall_mem_cons.mpr ⟨.head _, fun p hp => .tail _ (.tail _ (.tail _ hp))⟩
theorem not_five {a b c d e y : Str} (h : [a, b, c, d, e].contains y = false) : y ≠ a ∧ y ≠ b ∧ y ≠ c ∧ y ≠ d ∧ y ≠ e := by
  simpa only [List.contains_cons, List.contains_nil, Bool.or_false, Bool.or_eq_false_iff, beq_eq_false_iff_ne] using h
/-- the end of a turn of law's first loop: a page that was there -/
theorem law_end1 {w : World} {tq : Tok} {hl pl xa dd al L : Addr} {ws items pits : List Value} {n np i tk : Nat} {T : List Ent} {X own news' : List (Addr × Obj)} {h₀ h' : Heap} {m₀ m' : Str → Option Value} {s₁ : Shared} {ys : List Str} (F : Fr h₀ L h' m') (N : News h₀ L h' news') (hT : TabIn X items T) (hPg : PagIn X pits T) (hTb : TOk T) (hTi : T.length ≤ i) (hXh : ∀ p ∈ X, p.1 ≠ hl) (hXp : ∀ p ∈ X, p.1 ≠ pl)
    (hoff : OwnOff own (hl :: pl :: xa :: dd :: al :: X.map (·.1))) (hn : ∀ p ∈ LLed w tq hl pl xa dd al ws ⟨T, items, n, pits, np, X⟩, p ∈ news') (ho : ∀ p ∈ own, p ∈ news') (hm : ∀ y, ys.contains y = false → m' y = m₀ y) :
    InvEndG h₀ L (fun m' nx => (∃ c', nx = LLed w tq hl pl xa dd al ws c' ∧ LOk hl pl (i + 1) c') ∧ ∀ y, ys.contains y = false → m' y = m₀ y) own s₁ { s₁ with heap := h', toks := tk } :=
  InvEndG.intro F N ⟨⟨⟨T, items, n, pits, np, X⟩, rfl, hT, hPg, hTb, Nat.le_succ_of_le hTi, hXh, hXp⟩, hm⟩ hoff hn ho
/-- .. a page that is new -/
theorem law_end2 {w : World} {tq t8 tp tl : Tok} {hl pl xa dd al nw tup D8 L : Addr} {ws items pits bs : List Value} {n np nt i tk : Nat} {p9 l8 : Str} {T : List Ent} {X own : List (Addr × Obj)} {h₀ h' : Heap} {m₀ m' : Str → Option Value} {s₁ : Shared} {ys : List Str} (F : Fr h₀ L h' m')
    (N : News h₀ L h' ((pl, listOf (pits ++ [Value.ref nw]).toArray (np + 1)) :: (hl, listOf (items ++ [Value.ref tup]).toArray (n + 1)) :: (nw, listOf #[.ref D8, .str l8 t8] 0) :: (tup, ({ cls := .type "tuple", data := .seq #[.str p9 tp, .str l8 tl] nt } : Obj)) :: (D8, listOf bs.toArray 0) :: (xa, instObj 300 dd) :: (dd, hdrObj w tq hl) :: (al, listOf ws.toArray 0) :: (X ++ own)))
    (hT : TabIn X items T) (hPg : PagIn X pits T) (hTb : TOk T) (hTi : T.length ≤ i) (hXh : ∀ p ∈ X, p.1 ≠ hl) (hXp : ∀ p ∈ X, p.1 ≠ pl) (hp9 : p9 ∈ pages_) (hl8 : l8 ∈ links_) (hN : StrsAre bs ((Txt.split p9 (Str.ofString "/")).drop 1))
    (e1 : tup ≠ hl) (e2 : tup ≠ pl) (e3 : nw ≠ hl) (e4 : nw ≠ pl) (e5 : D8 ≠ hl) (e6 : D8 ≠ pl) (o1 : ∀ p ∈ own, p.1 ≠ tup) (o2 : ∀ p ∈ own, p.1 ≠ nw) (o3 : ∀ p ∈ own, p.1 ≠ D8)
    (hoff : OwnOff own (hl :: pl :: xa :: dd :: al :: X.map (·.1))) (hm : ∀ y, ys.contains y = false → m' y = m₀ y) :
    InvEndG h₀ L (fun m' nx => (∃ c', nx = LLed w tq hl pl xa dd al ws c' ∧ LOk hl pl (i + 1) c') ∧ ∀ y, ys.contains y = false → m' y = m₀ y) own s₁ { s₁ with heap := h', toks := tk } := by
  let X' := (tup, ({ cls := .type "tuple", data := .seq #[.str p9 tp, .str l8 tl] nt } : Obj)) :: (nw, listOf #[.ref D8, .str l8 t8] 0) :: (D8, listOf bs.toArray 0) :: X
  have hXX : ∀ p ∈ X, p ∈ X' := fun p hp => .tail _ (.tail _ (.tail _ hp))
  refine InvEndG.intro F N ⟨⟨⟨T ++ [⟨p9, l8, (Txt.split p9 (Str.ofString "/")).drop 1⟩], items ++ [Value.ref tup], n + 1, pits ++ [Value.ref nw], np + 1, X'⟩, rfl,
    (hT.mono hXX).snoc (e := ⟨p9, l8, (Txt.split p9 (Str.ofString "/")).drop 1⟩) (.head _), (hPg.mono hXX).snoc (e := ⟨p9, l8, (Txt.split p9 (Str.ofString "/")).drop 1⟩) (.tail _ (.head _)) (.tail _ (.tail _ (.head _))) hN, ?_, ?_, ?_, ?_⟩, hm⟩ ?_ ?_ ?_
  · intro e he
    rcases List.mem_append.mp he with h | h
    · exact hTb e h
    · obtain rfl := List.mem_singleton.mp h
      exact ⟨hp9, hl8, rfl⟩
  · show (T ++ [_]).length ≤ i + 1
    rw [List.length_append]
    exact Nat.succ_le_succ hTi
  · exact List.forall_mem_cons.mpr ⟨e1, List.forall_mem_cons.mpr ⟨e3, List.forall_mem_cons.mpr ⟨e5, hXh⟩⟩⟩
  · exact List.forall_mem_cons.mpr ⟨e2, List.forall_mem_cons.mpr ⟨e4, List.forall_mem_cons.mpr ⟨e6, hXp⟩⟩⟩
  · intro p hp a ha
    have ha' : a ∈ hl :: pl :: xa :: dd :: al :: tup :: nw :: D8 :: X.map (·.1) := ha
    simp only [List.mem_cons] at ha'
    rcases ha' with rfl | rfl | rfl | rfl | rfl | rfl | rfl | rfl | ha'
    · exact hoff p hp _ (.head _)
    · exact hoff p hp _ (.tail _ (.head _))
    · exact hoff p hp _ (.tail _ (.tail _ (.head _)))
    · exact hoff p hp _ (.tail _ (.tail _ (.tail _ (.head _))))
    · exact hoff p hp _ (.tail _ (.tail _ (.tail _ (.tail _ (.head _)))))
    · exact o1 p hp
    · exact o2 p hp
    · exact o3 p hp
    · exact hoff p hp _ (.tail _ (.tail _ (.tail _ (.tail _ (.tail _ ha')))))
  · refine List.forall_mem_cons.mpr ⟨?_, List.forall_mem_cons.mpr ⟨?_, List.forall_mem_cons.mpr ⟨?_, List.forall_mem_cons.mpr ⟨?_, List.forall_mem_cons.mpr ⟨?_, List.forall_mem_cons.mpr ⟨?_, List.forall_mem_cons.mpr ⟨?_, List.forall_mem_cons.mpr ⟨?_, fun p hp => ?_⟩⟩⟩⟩⟩⟩⟩⟩
    all_goals repeat (first | exact List.Mem.head _ | exact List.mem_append_left _ hp | refine List.Mem.tail _ ?_)
  · intro p hp
    repeat (first | exact List.mem_append_right _ hp | refine List.Mem.tail _ ?_)
end Mine
end
section
open PySem PySem.W PyProof.Rows PySem.Spec PySem.Calls
namespace Mine
open PyProof.Rows.LCg
/-- a page's path, by its names -/
def joinP (ns : List Str) : Str := Str.ofString "/" ++ Txt.join (Str.ofString "/") ns
theorem same_low2 : ∀ e ∈ pages_, ∀ ns ∈ reachN_, (Txt.lower e == Txt.lower (joinP ns)) = (((Txt.split e (Str.ofString "/")).drop 1).map Txt.lower == ns.map Txt.lower) := by decide +kernel
theorem next_same : ∀ ns ∈ pagesN_, ∀ l ∈ links_, nextP (joinP ns) l = joinP (nextN ns l) := by decide +kernel
theorem page_facts : ∀ p ∈ pages_, joinP ((Txt.split p (Str.ofString "/")).drop 1) = p ∧ p ∈ reach_ ∧ (Txt.split p (Str.ofString "/")).drop 1 ∈ reachN_ ∧ joinF (dirnameF p) (basenameF p) = p ∧ (dirnameF p).length ≤ 1000 ∧ (basenameF p).length ≤ 1000 ∧ ((Txt.split p (Str.ofString "/")).drop 1).getLast? = some (basenameF p) := by decide +kernel
theorem page_ok : ∀ p ∈ pages_, PyData.strOk p = true ∧ PyData.strOk (dirnameF p) = true ∧ PyData.strOk (basenameF p) = true := by decide +kernel
theorem reach_join : ∀ ns ∈ reachN_, (ns.map (·.length)).sum + ns.length * 64 ≤ 16777216 ∧ (Str.ofString "/").length + (Txt.join (Str.ofString "/") ns).length ≤ sizeLine ∧ PyData.strOk (joinP ns) = true := by decide +kernel
def qway (l : Str) : Str := Str.ofString "q/../" ++ l
theorem way_np : ∀ l ∈ links_, ∀ y ∈ [l, qway l], y.length ≤ 1000 ∧ (srF y).1.length ≤ 1000 ∧ (srF y).2.length ≤ 1000 ∧ straightF y = normF y ∧ PyData.strOk (normF y) = true := by decide +kernel
theorem way_np2 : ∀ l ∈ links_, ∀ y ∈ [l, qway l], (Txt.split (srF y).2 (Str.ofString "/")).length ≤ 1000 ∧ ((npParts y).map (·.length)).sum + (npParts y).length * 64 ≤ 16777216 ∧ (Txt.join (Str.ofString "/") (npParts y)).length ≤ 1000 := by decide +kernel
theorem way_st : ∀ l ∈ links_, ∀ y ∈ [l, qway l], ((stParts y).map (·.length)).sum + (stParts y).length * 64 ≤ 16777216 ∧ (Txt.join (Str.ofString "/") (stParts y)).length ≤ 1000 := by decide +kernel
theorem way_st2 : ∀ l ∈ links_, ∀ y ∈ [l, qway l], (∀ c ∈ Txt.split y (Str.ofString "/"), PyData.strOk c = true) ∧ (Txt.split y (Str.ofString "/")).length ≤ 1000 := by decide +kernel
theorem way_size : ∀ l ∈ links_, (Str.ofString "q/../").length + l.length ≤ sizeLine := by decide +kernel
theorem look_found2 {T : List Ent} (hT : TOk T) {ns : List Str} (hn : ns ∈ reachN_) : look T (Txt.lower (joinP ns)) = (foundL T ns).head? := by
  have e1 : (foundL T ns).head? = (T.find? fun e => e.names.map Txt.lower == ns.map Txt.lower).map (·.link) := by
    unfold foundL
    rw [List.head?_take]
    simp
  rw [e1]
  unfold look
  congr 1
  have hc : ∀ e ∈ T, (Txt.lower e.page == Txt.lower (joinP ns)) = (e.names.map Txt.lower == ns.map Txt.lower) := fun e he => by
    rw [(hT e he).2.2]; exact same_low2 e.page (hT e he).1 ns hn
  clear e1 hT
  induction T with
  | nil => rfl
  | cons e T ih =>
    rw [List.find?_cons, List.find?_cons, hc e (.head _), ih fun x hx => hc x (.tail _ hx)]
/-- the two walks agree -/
theorem told_walked {T : List Ent} (hT : TOk T) : ∀ (k : Nat) (ns : List Str), ns ∈ reachN_ → toldL T k (joinP ns) = (walkedL T k ns).map joinP := by
  intro k
  induction k with
  | zero => intro ns _; rfl
  | succ k ih =>
    intro ns hn
    have h1 := look_found2 hT hn
    cases hf : foundL T ns with
    | nil =>
      rw [hf] at h1
      rw [toldL_none h1, walkedL_none hf]; rfl
    | cons l r =>
      obtain ⟨rfl, h2, h3⟩ := found_step hT hn hf
      rw [hf] at h1
      have h1' : look T (Txt.lower (joinP ns)) = some l := h1
      show (match look T (Txt.lower (joinP ns)) with | none => [joinP ns] | some l => joinP ns :: toldL T k (nextP (joinP ns) l)) = (match foundL T ns with | [] => [ns] | l :: _ => ns :: walkedL T k (nextN ns l)).map joinP
      rw [h1', hf]
      show joinP ns :: toldL T k (nextP (joinP ns) l) = joinP ns :: (walkedL T k (nextN ns l)).map joinP
      rw [next_same ns h2 l h3, ih _ (stepN_ok ns h2 l h3)]
theorem walked_reach {T : List Ent} (hT : TOk T) : ∀ (k : Nat) (ns : List Str), ns ∈ reachN_ → ∀ x ∈ walkedL T k ns, x ∈ reachN_ := by
  intro k
  induction k with
  | zero => intro ns hn x hx; exact List.mem_singleton.mp hx ▸ hn
  | succ k ih =>
    intro ns hn x hx
    cases hf : foundL T ns with
    | nil =>
      rw [walkedL_none hf] at hx
      exact List.mem_singleton.mp hx ▸ hn
    | cons l r =>
      obtain ⟨rfl, h2, h3⟩ := found_step hT hn hf
      have e : walkedL T (k + 1) ns = ns :: walkedL T k (nextN ns l) := by
        show (match foundL T ns with | [] => [ns] | l :: _ => ns :: walkedL T k (nextN ns l)) = _
        rw [hf]
      rw [e] at hx
      rcases List.mem_cons.mp hx with rfl | hx
      · exact hn
      · exact ih _ (stepN_ok ns h2 l h3) x hx
theorem walked_len {T : List Ent} : ∀ (k : Nat) (ns : List Str), (walkedL T k ns).length ≤ k + 1 := by
  intro k
  induction k with
  | zero => intro ns; exact Nat.le_refl _
  | succ k ih =>
    intro ns
    show (match foundL T ns with | [] => [ns] | l :: _ => ns :: walkedL T k (nextN ns l)).length ≤ _
    cases foundL T ns with
    | nil => exact Nat.succ_le_succ (Nat.zero_le _)
    | cons l r => exact Nat.succ_le_succ (ih _)
end Mine
end
section
open PySem PySem.W PyProof.Rows PySem.Spec PySem.Calls
namespace Mine
open PyProof.Rows.LCg PySem.SeqAt
section
variable {prog : Program} {w : World} {A : Around} {E : Value → Shared → Prop} {s s₁ : Shared} {h₀ : Heap} {L : Addr} {news : List (Addr × Obj)} {m : Str → Option Value} {env : Env}
/-- two lists of the same texts -/
theorem ne_same {a b : Addr} {oa ob : Obj} {na nb : Nat} {vs us : List Value} {xs : List Str} {Q : Value → Shared → Prop} (N : News h₀ L s.heap news) (ma : (a, oa) ∈ news) (ca : oa.cls = .type "list") (da : oa.data = .seq vs.toArray na) (hi : StrsAre vs xs)
    (mb : (b, ob) ∈ news) (cb : ob.cls = .type "list") (db : ob.data = .seq us.toArray nb) (hi' : StrsAre us xs) (hx : ∀ x ∈ xs, PyData.strOk x = true) (hu : A.units + 64 < cLine)
    (h : Q (.bool false) s) : wpAny (model prog w) A (compareOp .NotEq (.ref a) (.ref b)) Q E s :=
  ne_strs N ma ca da hi mb cb db hi' hx hx hu (by simpa using h)
/-- two pairs of the same texts -/
theorem tup_same {a b : Addr} {x y : Str} {t0 t1 t2 t3 : Tok} {Q : Value → Shared → Prop} (N : News h₀ L s.heap news) (ma : (a, ({ cls := .type "tuple", data := .seq #[.str x t0, .str y t1] } : Obj)) ∈ news) (mb : (b, ({ cls := .type "tuple", data := .seq #[.str x t2, .str y t3] } : Obj)) ∈ news)
    (hx : PyData.strOk x = true) (hy : PyData.strOk y = true) (hu : A.units + 64 < cLine) (h : Q (.bool false) s) : wpAny (model prog w) A (compareOp .NotEq (.ref a) (.ref b)) Q E s := by
  have sh : shaped (.tuple [.str x, .str y]) = true := by
    show (PyData.canLay0 (.tuple [.str x, .str y]) && decide (PyData.depth (.tuple [.str x, .str y]) ≤ 64)) = true
    rw [Bool.and_eq_true]
    refine ⟨?_, by simp [PyData.depth, PyData.depthAll]⟩
    simp [PyData.canLay0, PyData.canLayAll0, hx, hy]
  have r1 : ReadsAll s.heap #[.str x t0, .str y t1].toList [.str x, .str y] [] := ReadsAll.cons (.str _ _) (ReadsAll.cons (.str _ _) .nil)
  have r2 : ReadsAll s.heap #[.str x t2, .str y t3].toList [.str x, .str y] [] := ReadsAll.cons (.str _ _) (ReadsAll.cons (.str _ _) .nil)
  exact ne_dataH_same (.tuple (N _ ma).1 rfl rfl r1) (.tuple (N _ mb).1 rfl rfl r2) sh sh hu (by simp [noMix, noMixAll]) (by simpa [PySem.Spec.same, PySem.Spec.sameAll] using h)
/-- `[elt for x in rows]`, the rows lists of texts, the elements texts -/
theorem compA_rows {mf : Addr → Str → Option Value} {elt : Expr} {x : Str} {px : Pos} {scope : Scope} {cl : List (Str × Addr)} {Q : Value → Shared → Prop} {nl : Addr} {nits : List Value} {nn : Nat} {R : List (List Str)} {X : List (Addr × Obj)} (f : List Str → Str)
    (hh : A.handled = none) (F : Fr h₀ L s₁.heap m) (N : News h₀ L s₁.heap news) (hm : (nl, listOf nits.toArray nn) ∈ news) (hsz : R.length ≤ sizeLine) (hS : RowIn X nits R) (hX : ∀ p ∈ X, p ∈ news) (hkind : scope.kind = .function) (hx : scope.names.lookup x = some .local)
    (ok : ∀ (b : Addr) (bs : List Value) (nb : Nat) (ns : List Str) I oI C oC D ys m₂ h tk (E' : Value → Shared → Prop), ns ∈ R → (b, listOf bs.toArray nb) ∈ news → StrsAre bs ns → NsObj oC m₂ → m₂ x = some (.ref b) → Fr h₀ L h m → News h₀ L h ((I, oI) :: (C, oC) :: (D, lst ys) :: news) → Off3 I C D news → ((@Ne Nat I C) ∧ (@Ne Nat I D) ∧ (@Ne Nat C D)) →
      wpAny (model prog w) A (eval elt (compEnvC scope cl C env)) (fun v s₄ => CEnd h₀ L m { s₁ with heap := h, toks := tk } ((I, oI) :: (C, oC) :: (D, lst ys) :: news) s₄ ∧ ∃ t, v = .str (f ns) t) E' { s₁ with heap := h, toks := tk })
    (fin : ∀ D h tk ys, StrsAre ys (R.map f) → Fr h₀ L h (mf D) → News h₀ L h ((D, lst ys) :: news) → Off1 D news → Q (.ref D) { s₁ with heap := h, toks := tk }) :
    CompG prog w A h₀ L m mf env elt (.Name x px) [] scope cl Q (.ref nl) s₁ := by
  have hlen := hS.length
  have item : ∀ {vs : List Value} {R : List (List Str)}, RowIn X vs R → ∀ (i : Nat) v, vs[i]? = some v → ∃ b bs nb ns, v = .ref b ∧ R[i]? = some ns ∧ (b, listOf (bs : List Value).toArray nb) ∈ X ∧ StrsAre bs ns := by
    intro vs R h
    induction h with
    | nil => intro i v hv; simp at hv
    | @cons b n bs vs ns R h1 h2 _ ih =>
      intro i v hv
      cases i with
      | zero => simp at hv; exact ⟨b, bs, n, ns, hv.symm, rfl, h1, h2⟩
      | succ i => exact ih i v (by simpa using hv)
  refine ⟨nl, nits, nn, news, fun i ys => StrsAre ys ((R.take i).map f), fun i m' y => if y = x then nits[i]? else m' y, rfl, hh, F, N, hm, by rw [hlen]; exact hsz, .nil, ?_, ?_, ?_⟩
  · intro i v C m' s' Q' E' hv _ hn k
    refine wpAny_assign_Name (wpAny_storeName_local (lookup_relabel_local hx) hn (fun h₃ hn₃ hs₃ => k h₃ _ (fun b o hb e => hs₃.extBut b o hb e) ?_) (by simp [compEnvC, relabel, hkind]))
    show h₃.Ns C (fun y => if y = x then nits[i]? else m' y)
    rw [hv]; exact hn₃
  · intro i v ys I oI C oC D m' h tk E' hv hJ hC F₁ N₁ off ne
    refine wpAny_tests_nil ?_
    simp only [if_true]
    obtain ⟨b, bs, nb, ns, rfl, hy, hb, hbs⟩ := item hS i v hv
    refine wpAny_mono (ok b bs nb ns I oI C oC D ys _ h tk E' (List.mem_of_getElem? hy) (hX _ hb) hbs hC (by simp [hv]) F₁ N₁ off ne) (fun v s₄ h₄ => ?_) fun _ _ e => e
    obtain ⟨hc, t, rfl⟩ := h₄
    refine ⟨hc, ?_⟩
    rw [List.take_add_one, hy, List.map_append]
    exact hJ.append' (.cons _ _ .nil)
  · intro D h tk ys hJ F₁ N₁ off
    refine fin D h tk ys ?_ F₁ N₁ off
    rw [hlen, List.take_length] at hJ
    exact hJ
end
section
variable {w : World} {mean : ExcName → Option Value} {mg mb : Str → Option Value} {d u : Nat} {gd : Option (List Code)} {cn : Str} {cs : Scope} {a : Addr} {ccd : Value} {cl : List (Str × Addr)} {outer : List Env} {A₀ : Around} {base h₀ : Heap} {L : Addr} {m : Str → Option Value} {s : Shared} {Q E : Value → Shared → Prop} {news : List (Addr × Obj)}
theorem news3 {h : Heap} {a b c : Addr × Obj} (N : News h₀ L h news) (h1 : a ∈ news) (h2 : b ∈ news) (h3 : c ∈ news) : News h₀ L h (a :: b :: c :: news) :=
  List.forall_mem_cons.mpr ⟨N _ h1, List.forall_mem_cons.mpr ⟨N _ h2, List.forall_mem_cons.mpr ⟨N _ h3, N⟩⟩⟩
theorem news_one {h : Heap} {x a b c : Addr × Obj} (N : News h₀ L h (x :: a :: b :: c :: news)) : News h₀ L h (x :: news) :=
  List.forall_mem_cons.mpr ⟨N _ (.head _), fun p hp => N p (.tail _ (.tail _ (.tail _ (.tail _ hp))))⟩
theorem keys_use {args : List Value} {tq : Tok} {x dd hl : Addr} {items : List Value} {n : Nat} {T : List Ent} (ha : args = [Value.ref x]) (hT : TabIn news items T) (hTl : T.length ≤ 20) (kd : d ≤ 800) (ku : u ≤ 8000)
    (B : Below A₀ base outer h₀) (F : Fr h₀ L s.heap m) (KX : (Mine.fr.heap_1 w.params).In h₀) (N : News h₀ L s.heap news) (TT : Top Mine.q loose mean mg mb h₀) (hk : cs.kind = .function)
    (mx : (x, instObj 300 dd) ∈ news) (md : (dd, hdrObj w tq hl) ∈ news) (mh : (hl, listOf items.toArray n) ∈ news)
    (ret : ∀ (D : Addr) (out : List Value) (h' : Heap) (tk' : Nat), StrsAre out (T.map (·.page)) → Fr h₀ L h' m → News h₀ L h' ((D, lst out) :: news) → Q (.ref D) { s with heap := h', toks := tk' }) :
      wpAny (model PySem.Challenge.rw_pd0177_01.row.prog w) (ktrTop d u gd cn cs L a ccd cl outer) (call (.ref 252) args) Q E s := by
  subst ha
  refine wpAny_le (A' := ktrTop 800 8000 gd cn cs L a ccd cl outer) rfl kd (fun _ e => e) (fun _ e => e) ku ?_
  obtain ⟨kd, nms, ig, ic, mo⟩ := cs
  dsimp only at hk
  subst hk
  exact keys_c w tq x dd hl items n T news hT hTl mean mg mb gd cn nms ig ic mo a ccd cl outer A₀ base h₀ L m s Q E B F KX (news3 N mx md mh) TT fun D out h' tk' R F' N' => ret D out h' tk' R F' (news_one N')
theorem values_use {args : List Value} {tq : Tok} {x dd hl : Addr} {items : List Value} {n : Nat} {T : List Ent} (ha : args = [Value.ref x]) (hT : TabIn news items T) (hTl : T.length ≤ 20) (kd : d ≤ 800) (ku : u ≤ 8000)
    (B : Below A₀ base outer h₀) (F : Fr h₀ L s.heap m) (KX : (Mine.fr.heap_1 w.params).In h₀) (N : News h₀ L s.heap news) (TT : Top Mine.q loose mean mg mb h₀) (hk : cs.kind = .function)
    (mx : (x, instObj 300 dd) ∈ news) (md : (dd, hdrObj w tq hl) ∈ news) (mh : (hl, listOf items.toArray n) ∈ news)
    (ret : ∀ (D : Addr) (out : List Value) (h' : Heap) (tk' : Nat), StrsAre out (T.map (·.link)) → Fr h₀ L h' m → News h₀ L h' ((D, lst out) :: news) → Q (.ref D) { s with heap := h', toks := tk' }) :
      wpAny (model PySem.Challenge.rw_pd0177_01.row.prog w) (ktrTop d u gd cn cs L a ccd cl outer) (call (.ref 257) args) Q E s := by
  subst ha
  refine wpAny_le (A' := ktrTop 800 8000 gd cn cs L a ccd cl outer) rfl kd (fun _ e => e) (fun _ e => e) ku ?_
  obtain ⟨kd, nms, ig, ic, mo⟩ := cs
  dsimp only at hk
  subst hk
  exact values_c w tq x dd hl items n T news hT hTl mean mg mb gd cn nms ig ic mo a ccd cl outer A₀ base h₀ L m s Q E B F KX (news3 N mx md mh) TT fun D out h' tk' R F' N' => ret D out h' tk' R F' (news_one N')
theorem told_use {page : Str} {t tq : Tok} {x dd hl : Addr} {items : List Value} {n : Nat} {T : List Ent} (hpg : page ∈ reach_) (hT : TabIn news items T) (hTb : TOk T) (kd : d ≤ 750) (ku : u ≤ 7500)
    (B : Below A₀ base outer h₀) (F : Fr h₀ L s.heap m) (KX : (Mine.fr.heap_1 w.params).In h₀) (N : News h₀ L s.heap news) (TT : Top Mine.q loose mean mg mb h₀) (hk : cs.kind = .function)
    (mx : (x, instObj 300 dd) ∈ news) (md : (dd, hdrObj w tq hl) ∈ news) (mh : (hl, listOf items.toArray n) ∈ news)
    (ret : ∀ (D : Addr) (g : List Value) (n' : Nat) (h' : Heap) (tk' : Nat), StrsAre g (toldL T 6 page) → Fr h₀ L h' m → News h₀ L h' ((D, listOf g.toArray n') :: news) → Q (.ref D) { s with heap := h', toks := tk' }) :
      wpAny (model PySem.Challenge.rw_pd0177_01.row.prog w) (ktrTop d u gd cn cs L a ccd cl outer) (call (.ref 342) [.ref x, .str page t]) Q E s := by
  refine wpAny_le (A' := ktrTop 750 7500 gd cn cs L a ccd cl outer) rfl kd (fun _ e => e) (fun _ e => e) ku ?_
  obtain ⟨kd, nms, ig, ic, mo⟩ := cs
  dsimp only at hk
  subst hk
  exact told_c w page t tq x dd hl items n T news hpg hT hTb mean mg mb gd cn nms ig ic mo a ccd cl outer A₀ base h₀ L m s Q E B F KX (news3 N mx md mh) TT fun D g n' h' tk' R F' N' => ret D g n' h' tk' R F' (news_one N')
theorem walked_use {pl nl : Addr} {pits nits : List Value} {np nn : Nat} {names : List Str} {T : List Ent} (hnm : names ∈ reachN_) (hNm : StrsAre nits names) (hT : PagIn news pits T) (hTb : TOk T) (hTl : T.length ≤ 20) (kd : d ≤ 750) (ku : u ≤ 7500)
    (B : Below A₀ base outer h₀) (F : Fr h₀ L s.heap m) (KX : (Mine.fr.heap_1 w.params).In h₀) (N : News h₀ L s.heap news) (TT : Top Mine.q loose mean mg mb h₀) (hk : cs.kind = .function)
    (mp : (pl, listOf pits.toArray np) ∈ news) (mn : (nl, listOf nits.toArray nn) ∈ news)
    (ret : ∀ (D : Addr) (g : List Value) (n' : Nat) (X : List (Addr × Obj)) (h' : Heap) (tk' : Nat), RowIn X g (walkedL T 6 names) → Fr h₀ L h' m → News h₀ L h' ((D, listOf g.toArray n') :: (news ++ X)) → Q (.ref D) { s with heap := h', toks := tk' }) :
      wpAny (model PySem.Challenge.rw_pd0177_01.row.prog w) (ktrTop d u gd cn cs L a ccd cl outer) (call (.ref 328) [.ref pl, .ref nl]) Q E s := by
  refine wpAny_le (A' := ktrTop 750 7500 gd cn cs L a ccd cl outer) rfl kd (fun _ e => e) (fun _ e => e) ku ?_
  obtain ⟨kd, nms, ig, ic, mo⟩ := cs
  dsimp only at hk
  subst hk
  refine walked_c w pl nl pits nits np nn names T news hnm hNm hT hTb hTl mean mg mb gd cn nms ig ic mo a ccd cl outer A₀ base h₀ L m s Q E B F KX (List.forall_mem_cons.mpr ⟨N _ mp, List.forall_mem_cons.mpr ⟨N _ mn, N⟩⟩) TT fun D g n' X h' tk' R hX F' N' => ret D g n' X h' tk' R F' ?_
  refine List.forall_mem_cons.mpr ⟨N' _ (.head _), fun p hp => N' p ?_⟩
  rcases List.mem_append.mp hp with h | h
  · exact .tail _ (.tail _ (hX p (.tail _ h)))
  · exact .tail _ (.tail _ h)
end
theorem join_page_c (w : World) (p : Str) (t t2 : Tok) (hp : p ∈ pages_) : Call w 850 8500 132 [.str (dirnameF p) t, .str (basenameF p) t2] (fun v => ∃ t, v = .str p t) := by
  obtain ⟨-, -, -, h1, h2, h3, -⟩ := page_facts p hp
  have c := join_c w (dirnameF p) (basenameF p) t t2 h2 h3
  rw [h1] at c
  exact c
theorem norm_way_c (w : World) (y : Str) (t : Tok) {l : Str} (hl : l ∈ links_) (hy : y ∈ [l, qway l]) : Call w 860 8600 167 [.str y t] (fun v => ∃ t, v = .str (normF y) t) := by
  obtain ⟨h1, h2, h3, -, -⟩ := way_np l hl y hy
  exact normpath_c w y t h1 h2 h3 (way_np2 l hl y hy)
theorem straight_way_c (w : World) (y : Str) (t : Tok) {l : Str} (hl : l ∈ links_) (hy : y ∈ [l, qway l]) : Call w 850 8500 335 [.str y t] (fun v => ∃ t, v = .str (normF y) t) := by
  obtain ⟨h1, -, -, h4, -⟩ := way_np l hl y hy
  have c := straight_c w y t h1 (way_st l hl y hy) (way_st2 l hl y hy).1 (way_st2 l hl y hy).2
  rw [h4] at c
  exact c
theorem add_str_eq {prog : Program} {w : World} {A : Around} {E : Value → Shared → Prop} {s : Shared} {x y p : Str} {t u : Tok} {Q : Value → Shared → Prop} (e : x ++ y = p) (hz : x.length + y.length ≤ sizeLine) (h : ∀ t' k, Q (.str p t') { s with toks := k }) : wpAny (model prog w) A (binaryOp .Add (.str x t) (.str y u)) Q E s := by
  subst e
  exact PyProof.Rows.add_str h hz
theorem strs_last {vs : List Value} {ns : List Str} {x : Str} (h : StrsAre vs ns) (hl : ns.getLast? = some x) : ∃ g t, vs = g ++ [Value.str x t] := by
  rcases List.eq_nil_or_concat vs with rfl | ⟨g, v, rfl⟩
  · cases h; simp at hl
  · rw [List.concat_eq_append] at h ⊢
    obtain ⟨ss, y, t, rfl, -, rfl⟩ := strs_snoc h
    rw [List.getLast?_concat] at hl
    exact ⟨g, t, by rw [Option.some.inj hl]⟩
end Mine
end
section
open PySem PySem.W PyProof.Rows PySem.Spec PySem.Calls
namespace Mine
local macro_rules | `(tactic| walk_at $s:str) => `(tactic| k_extra $s)
open PyProof.Rows.LCg
local macro_rules | `(tactic| k_all) => `(tactic| exact allLt_ne (by with_reducible assumption) (by first | with_reducible exact Nat.le_refl _ | with_reducible exact Nat.le_succ _ | omega))
theorem ints_item {vs : List Value} {ns : List Int} (h : IntsAre vs ns) : ∀ {i : Nat} {v : Value}, vs[i]? = some v → ∃ k t, v = .int k t := by
  induction h with
  | nil => intro i v hv; simp at hv
  | cons n t _ ih =>
    intro i v hv
    cases i with
    | zero => simp at hv; exact ⟨_, _, hv.symm⟩
    | succ i => exact ih (by simpa using hv)
theorem fresh_ne {news : List (Addr × Obj)} {D hl : Addr} {o : Obj} (fr : ∀ p ∈ news, p.1 ≠ D) (m : (hl, o) ∈ news) : D ≠ hl := fun e => fr _ m e.symm
theorem tq_of {w : World} {tq : Tok} {hl pl xa dd al : Addr} {ws : List Value} {c : LSt} {h₀ h : Heap} {L : Addr} (_ : News h₀ L h (LLed w tq hl pl xa dd al ws c)) : ∃ t, t = tq := ⟨_, rfl⟩
theorem sub5 {h₀ h : Heap} {L : Addr} {a b c d e : Addr × Obj} {rest own : List (Addr × Obj)} (_ : News h₀ L h (a :: b :: c :: d :: e :: (rest ++ own))) : ∀ p ∈ rest, p ∈ a :: b :: c :: d :: e :: (rest ++ own) := fun _ hp => .tail _ (.tail _ (.tail _ (.tail _ (.tail _ (List.mem_append_left _ hp)))))
theorem not_three {a b c y : Str} (h : [a, b, c].contains y = false) : y ≠ a ∧ y ≠ b ∧ y ≠ c := by
  simpa only [List.contains_cons, List.contains_nil, Bool.or_false, Bool.or_eq_false_iff, beq_eq_false_iff_ne] using h
theorem lawx : PySem.Challenge.rw_pd0177_01.Holds := by
  k_with_none
  k_with "exec For Name BinOp cons nil" => (k_here; (rename Fr _ _ _ _ => lF'); (with_unfolding_all refine' For_turns lF' ?_; k_whole))
  k_with "call ref" => (k_here; (with_reducible show wpAny _ _ (call (Value.ref 309) [Value.int _ _]) _ _ _); k_dflt (refine' Call.use (page_c _ _ _) (by exact Nat.le_of_ble_eq_true rfl) (by exact Nat.le_of_ble_eq_true rfl) (by k_asm) (by k_asm) (by k_asm) (by k_asm) (by k_asm) (by first | exact rfl | assumption) ?_); k_whole; (intro v9 h9 tk9 R9 F9 N9); (obtain ⟨p9, hp9, t9, R9⟩ := R9); subst R9; (have hpl9 := (pages_len _ hp9).1); (try dsimp only); (try k_fold))
  k_with "call ref" => (k_here; (with_reducible show wpAny _ _ (call (Value.ref 316) [Value.int _ _]) _ _ _); k_dflt (refine' Call.use (link_c2 _ _ _) (by exact Nat.le_of_ble_eq_true rfl) (by exact Nat.le_of_ble_eq_true rfl) (by k_asm) (by k_asm) (by k_asm) (by k_asm) (by k_asm) (by first | exact rfl | assumption) ?_); k_whole; (intro v8 h8 tk8 R8 F8 N8); (obtain ⟨l8, hl8, t8, R8⟩ := R8); subst R8; (have hll8 := links_len _ hl8); (try dsimp only); (try k_fold))
  k_with "call ref" => (k_here; (with_reducible show wpAny _ _ (call (Value.ref 321) [Value.ref _, Value.ref _]) _ _ _); k_dflt (refine' found_walk hns hTb hTl hN hPg ?_ (by exact Nat.le_of_ble_eq_true rfl) (by exact Nat.le_of_ble_eq_true rfl) (by k_asm) (by k_asm) (by k_asm) (by k_asm) (by k_asm) (by first | exact rfl | assumption) (by k_mem) (by k_mem) ?_ ?_; (focus (intro p9 hp9; (repeat (first | exact List.mem_append_left _ hp9 | refine List.Mem.tail _ ?_))))); (intro D7 n7 h7 tk7 R7 fr7 F7 N7); rotate_left; (intro D7 n7 l7 t7 h7 tk7 R7 hg7 ho7 hs7 hl7 hx7 fr7 F7 N7); (all_goals ((try dsimp only); (try k_fold))))
  k_with "call ref" => (k_here; (with_reducible show wpAny _ _ (call (Value.ref 290) [Value.ref _, Value.str _ _, Value.str _ _]) _ _ _); refine Classical.byContradiction fun hneg9 => ?_)
  k_with "compareOp Eq ref ref" => (k_here; (with_reducible show wpAny _ _ (compareOp CmpOp.Eq (Value.ref _) (Value.ref _)) _ _ _); k_dflt (refine' one_not_nil (by k_asm) (by k_mem) (by k_mem) (by with_reducible assumption) (by exact Nat.le_of_ble_eq_true rfl) ?_; k_whole))
  k_with "call builtin:list.append" => (k_here; (with_reducible show wpAny _ _ (call (Value.builtin "list.append") [Value.ref pl, _]) _ _ _); refine Classical.byContradiction fun hneg9 => ?_)
  k_with "subscriptTail" => (k_here; (with_reducible show wpAny _ _ (subscriptTail _ (PySem.Expr.Slice _ _ none _) (Value.ref _) (Value.ref _)) _ _ _); (with_reducible rename StrsAre (strValues _) _ => hS); (with_reducible rename (List.map _ _ = Txt.split _ _) => hE); (with_reducible rename List (Str × Tok) => sv9); k_dflt (refine kba_turn (value' := PySem.Expr.Name (PySem.Str.ofString "_") ⟨0, 0, 0, 0⟩) (fun _ => rfl) ?_; refine' g_from1 (by k_asm) (by k_asm) (by k_mem) (by exact rfl) (by exact rfl) (by kmk_part) (by kmk_part) (by rw [hS.length, hE, sizeLine_eq]; exact Nat.le_trans (page_reachN _ hp9).2 (by decide)) ?_ (by with_unfolding_all rfl) (by kmk_pure)); (intro D8 h8 nD8 F8 N8); (have hN := strs_drop hS hE); (have hns := (page_reachN _ hp9).1))
  k_with "eval ListComp" => (k_here; k_dflt (refine comp_any (F₀ := by k_asm) (by with_unfolding_all rfl) (by decide) (by rfl) (by decide) ?_))
  k_with "exec Assign cons ListComp" => (k_here; k_dflt (refine assign_comp (F₀ := by k_asm) (by rfl) (by with_unfolding_all rfl) (by with_unfolding_all rfl) (by decide) (by rfl) (by decide) (by rfl) (by rfl) ?_))
  k_with "call builtin:str.join" => (k_here; (with_reducible show wpAny _ _ (call (Value.builtin "str.join") [Value.str _ _, Value.ref _]) _ _ _); k_dflt (refine' g_join (by assumption) (by k_mem) (by exact rfl) (by exact rfl) (by with_reducible assumption) (by decide +kernel) (by with_reducible assumption) ?_; k_whole); intro t9 k9)
  k_with "binaryOp Add str str" => (k_here; (with_reducible show wpAny _ _ (binaryOp Operator.Add (Value.str _ _) (Value.str _ _)) _ _ _); (refine' add_str_eq (by with_reducible assumption) (by with_reducible assumption) ?_); intro t9 k9)
  k_with "my sub" => (intro p9 hp9; (repeat (first | exact hp9 | exact List.mem_append_left _ hp9 | refine List.Mem.tail _ ?_)))
  k_with "call ref" => (k_here; (with_reducible show wpAny _ _ (call (Value.ref 252) _) _ _ _); k_dflt (refine' keys_use (by exact rfl) (hT.mono ?_) hTl (by exact Nat.le_of_ble_eq_true rfl) (by exact Nat.le_of_ble_eq_true rfl) (by k_asm) (by k_asm) (by k_asm) (by k_asm) (by k_asm) (by first | exact rfl | assumption) (by k_mem) (by k_mem) (by k_mem) ?_; (focus walk_at "my sub")); (intro D9 o9 h9 tk9 R9 F9 N9); (try dsimp only); (try k_fold))
  k_with "call ref" => (k_here; (with_reducible show wpAny _ _ (call (Value.ref 257) _) _ _ _); k_dflt (refine' values_use (by exact rfl) (hT.mono ?_) hTl (by exact Nat.le_of_ble_eq_true rfl) (by exact Nat.le_of_ble_eq_true rfl) (by k_asm) (by k_asm) (by k_asm) (by k_asm) (by k_asm) (by first | exact rfl | assumption) (by k_mem) (by k_mem) (by k_mem) ?_; (focus walk_at "my sub")); (intro D9 o9 h9 tk9 R9 F9 N9); (try dsimp only); (try k_fold))
  k_with "call ref" => (k_here; (with_reducible show wpAny _ _ (call (Value.ref 342) [Value.ref _, Value.str _ _]) _ _ _); k_dflt (refine' told_use hpr9 (hT.mono ?_) hTb (by exact Nat.le_of_ble_eq_true rfl) (by exact Nat.le_of_ble_eq_true rfl) (by k_asm) (by k_asm) (by k_asm) (by k_asm) (by k_asm) (by first | exact rfl | assumption) (by k_mem) (by k_mem) (by k_mem) ?_; (focus walk_at "my sub")); (intro D9 o9 n9 h9 tk9 R9 F9 N9); (rw [htw9] at R9); (try dsimp only); (try k_fold))
  k_with "call ref" => (k_here; (with_reducible show wpAny _ _ (call (Value.ref 328) [Value.ref _, Value.ref _]) _ _ _); k_dflt (refine' walked_use hnr9 hbs9 (hPg.mono ?_) hTb hTl (by exact Nat.le_of_ble_eq_true rfl) (by exact Nat.le_of_ble_eq_true rfl) (by k_asm) (by k_asm) (by k_asm) (by k_asm) (by k_asm) (by first | exact rfl | assumption) (by k_mem) (by k_mem) ?_; (focus walk_at "my sub")); (intro Dw gw nw Xw hw tkw Rw Fw Nw); (try dsimp only); (try k_fold))
  k_with "mine str" => ((intro v9 h9 tk9 R9 F9 N9); (obtain ⟨_, R9⟩ := R9); subst R9; (try dsimp only); (try k_fold))
  k_with "call ref" => (k_here; (with_reducible show wpAny _ _ (call (Value.ref 160) [Value.str _ _]) _ _ _); k_dflt (refine' Call.use (dirname_c _ _ _ (by with_reducible assumption)) (by exact Nat.le_of_ble_eq_true rfl) (by exact Nat.le_of_ble_eq_true rfl) (by k_asm) (by k_asm) (by k_asm) (by k_asm) (by k_asm) (by first | exact rfl | assumption) ?_); k_whole; walk_at "mine str")
  k_with "call ref" => (k_here; (with_reducible show wpAny _ _ (call (Value.ref 153) [Value.str _ _]) _ _ _); k_dflt (refine' Call.use (basename_c _ _ _ (by with_reducible assumption)) (by exact Nat.le_of_ble_eq_true rfl) (by exact Nat.le_of_ble_eq_true rfl) (by k_asm) (by k_asm) (by k_asm) (by k_asm) (by k_asm) (by first | exact rfl | assumption) ?_); k_whole; walk_at "mine str")
  k_with "call ref" => (k_here; (with_reducible show wpAny _ _ (call (Value.ref 132) [Value.str _ _, Value.str _ _]) _ _ _); k_dflt (refine' Call.use (join_page_c _ _ _ _ (by with_reducible assumption)) (by exact Nat.le_of_ble_eq_true rfl) (by exact Nat.le_of_ble_eq_true rfl) (by k_asm) (by k_asm) (by k_asm) (by k_asm) (by k_asm) (by first | exact rfl | assumption) ?_); k_whole; walk_at "mine str")
  k_with "call ref" => (k_here; (with_reducible show wpAny _ _ (call (Value.ref 139) [Value.str _ _]) _ _ _); k_dflt (refine' CallO.use (split_c _ _ _ (by with_reducible assumption)) (by exact Nat.le_of_ble_eq_true rfl) (by exact Nat.le_of_ble_eq_true rfl) (by k_asm) (by k_asm) (by k_asm) (by k_asm) (by k_asm) (by first | exact rfl | assumption) ?_); k_whole; (intro D9 o9 h9 tk9 R9 F9 N9); (obtain ⟨_, _, R9⟩ := R9); subst R9; (try dsimp only); (try k_fold))
  k_with "call ref" => (k_here; (with_reducible show wpAny _ _ (call (Value.ref 167) [Value.str _ _]) _ _ _); k_dflt (refine' Call.use (norm_way_c _ _ _ (by with_reducible assumption) (by with_reducible assumption)) (by exact Nat.le_of_ble_eq_true rfl) (by exact Nat.le_of_ble_eq_true rfl) (by k_asm) (by k_asm) (by k_asm) (by k_asm) (by k_asm) (by first | exact rfl | assumption) ?_); k_whole; walk_at "mine str")
  k_with "call ref" => (k_here; (with_reducible show wpAny _ _ (call (Value.ref 335) [Value.str _ _]) _ _ _); k_dflt (refine' Call.use (straight_way_c _ _ _ (by with_reducible assumption) (by with_reducible assumption)) (by exact Nat.le_of_ble_eq_true rfl) (by exact Nat.le_of_ble_eq_true rfl) (by k_asm) (by k_asm) (by k_asm) (by k_asm) (by k_asm) (by first | exact rfl | assumption) ?_); k_whole; walk_at "mine str")
  k_with "compareOp NotEq ref ref" => (
    k_here; (with_reducible show wpAny _ _ (compareOp CmpOp.NotEq (Value.ref _) (Value.ref _)) _ _ _); k_dflt (first
    | (refine' tup_same (by k_asm) (by k_mem) (by k_mem) (by with_reducible assumption) (by with_reducible assumption) (by exact Nat.le_of_ble_eq_true rfl) ?_; k_whole)
    | (refine' ne_same (by k_asm) (by k_mem) (by exact rfl) (by exact rfl) (by with_reducible assumption) (by k_mem) (by exact rfl) (by exact rfl) (by with_reducible assumption) (by with_reducible assumption) (by exact Nat.le_of_ble_eq_true rfl) ?_; k_whole)))
  k_with "exec For Tuple Name cons nil" => (k_here; (rename Fr _ _ _ _ => lF'); (with_unfolding_all refine' For_turns lF' ?_; k_whole))
  k_with "subscriptTail Name UnaryOp ref int" => (k_here; (with_reducible show wpAny _ _ (subscriptTail _ _ (Value.ref _) _) _ _ _); k_dflt (refine' g_last_in (by with_reducible assumption) (by k_mem) ?_ (by with_unfolding_all rfl); k_whole))
  refine holds_law said0 fun said => ?_
  refine holds_open (q := Mine.q) (loose := [Str.ofString "_name_disallowed_re", Str.ofString "_value_disallowed_re"]) (Xt := Mine.Xt0) (XP := XL Mine.q []) (Yf := Hook.obs Mine.hk) (Ya := Hook.val Mine.hk) (YP := Hook.says (kHook Mine.fr.heap_1 Mine.as_ Mine.as_is)) (N := 4228) Mine.left (Hook.of Mine.hk) (Hook.keeps Mine.hk) (fun s e => xl_of s (Bool.and_eq_true_iff.mp e).1) XL.keeps (by rfl) (by rfl) (by rfl) (fun s e => recFacts_of (Bool.and_eq_true_iff.mp e).2) (by rfl) (by first | assumption | decide +kernel) (by decide +kernel) ⟨rfl, rfl, rfl, rfl, rfl, by decide +kernel⟩ ?hw ?hc
  (case hw => w_witness2)
  clear said
  k_go0
  (all_goals try k_fold)
  k_steps
  rename_i w0 _ _ _ _ _ _ _ _ _ _ _ _ _ _ _ _ _ _ _ _ _ _ _ _ _ _ _ xs _ _ _ _ _ _ _ _ _ _ _ _ _ _ _ _ _ _ _ _ _ xa dd _ _ _ _ _ _ _ _ _ _ _ _ _ _ _ hl _ l1h _ _ _ _ _ _ _ _ _ _ _ _ _ pl _ l1p _ _ _ _ _ _ _ _ _ _ _ _ _ _ _ _ al ws _ lF9 lN9 hI9 l1x
  obtain ⟨q1, q2, q3, q4, q5, q6, q7⟩ := l1x
  obtain ⟨q8, q9⟩ := l1h
  obtain ⟨q10, q11, q12⟩ := l1p
  have hxl : xs.length ≤ 63 := by omega
  have hwl : ws.length ≤ 10 := by
    rw [hI9.length, List.length_append, List.length_take]
    show min 6 xs.length + 4 ≤ 10
    omega
  have N0 : News _ _ _ (LLed w0 _ hl pl xa dd al ws ⟨[], [], 0, [], 0, []⟩) := news_sub lN9 (List.forall_mem_cons.mpr ⟨.tail _ (.tail _ (.tail _ (.tail _ (.tail _ (.head _))))), List.forall_mem_cons.mpr ⟨.tail _ (.tail _ (.tail _ (.tail _ (.head _)))), List.forall_mem_cons.mpr ⟨.tail _ (.tail _ (.tail _ (.tail _ (.tail _ (.tail _ (.head _)))))), List.forall_mem_cons.mpr ⟨.tail _ (.tail _ (.tail _ (.tail _ (.tail _ (.tail _ (.tail _ (.head _))))))), List.forall_mem_cons.mpr ⟨.head _, fun _ h => nomatch h⟩⟩⟩⟩⟩)
  obtain ⟨tq, htq⟩ := tq_of N0
  rw [← htq] at N0
  refine fold_list (LLed w0 tq hl pl xa dd al ws) [Str.ofString "x", Str.ofString "page", Str.ofString "link", Str.ofString "names", Str.ofString "found"] (LOk hl pl) ⟨[], [], 0, [], 0, []⟩ rfl (fun c => .tail _ (.tail _ (.tail _ (.tail _ (.head _))))) lF9 N0 ?_ ?_ ?_
  · exact ⟨.nil, .nil, (show TOk [] from fun _ h => nomatch h), Nat.le_refl _, (fun _ h => nomatch h), (fun _ h => nomatch h)⟩
  · rintro i v ⟨T, items, n, pits, np, X⟩ u h tk9 own hv hoff ⟨hT, hPg, hTb, hTi, hXh, hXp⟩ F1 N1
    obtain ⟨k, tk0, rfl⟩ := ints_item hI9 hv
    clear lF9 lN9
    dsimp only at hT hPg hTb hTi hXh hXp
    simp only [LLed, List.cons_append] at N1 hoff
    have hi10 : i < 10 := Nat.lt_of_lt_of_le (List.getElem?_eq_some_iff.mp hv).1 hwl
    have hTl : T.length ≤ 20 := by omega
    k_steps
    · refine hneg9 ?_
      have hlk : look T (Txt.lower p9) = some l7 := by rw [look_found hTb hp9, R7]; rfl
      refine setdefault_use ((D7, listOf #[.str l7 t7] n7) :: (D8, listOf ((strValues sv9).drop 1).toArray 0) :: (pl, listOf pits.toArray np) :: (xa, instObj 300 dd) :: (dd, hdrObj w0 tq hl) :: (al, listOf ws.toArray 0) :: (X ++ own)) hp9 hl8 hT hTb hTl (Nat.le_of_ble_eq_true rfl) (Nat.le_of_ble_eq_true rfl) (by k_asm) (by k_asm) (by k_asm) (by k_asm) (by k_asm) rfl ?_ (by repeat (first | exact List.Mem.head _ | refine List.Mem.tail _ ?_)) ?_ ?_ (.tail _ (.tail _ (.tail _ (.head _)))) (.tail _ (.tail _ (.tail _ (.tail _ (.head _))))) ?_ ?_
      · exact List.forall_mem_cons.mpr ⟨fresh_ne fr7 (by repeat (first | exact List.Mem.head _ | refine List.Mem.tail _ ?_)), List.forall_mem_cons.mpr ⟨fresh_ne nD8 (by repeat (first | exact List.Mem.head _ | refine List.Mem.tail _ ?_)), List.forall_mem_cons.mpr ⟨Ne.symm (Nat.ne_of_lt q10), List.forall_mem_cons.mpr ⟨Nat.ne_of_lt q8, List.forall_mem_cons.mpr ⟨Nat.ne_of_lt q9, List.forall_mem_cons.mpr ⟨Ne.symm (Nat.ne_of_lt q5), fun p hp => (List.mem_append.mp hp).elim (hXh p) fun h => hoff p h _ (List.Mem.head _)⟩⟩⟩⟩⟩⟩
      · exact List.forall_mem_cons.mpr ⟨.head _, List.forall_mem_cons.mpr ⟨.tail _ (.head _), fun p hp => by repeat (first | exact hp | refine List.Mem.tail _ ?_)⟩⟩
      · exact fun p hp => by repeat (first | exact List.mem_append_left _ hp | refine List.Mem.tail _ ?_)
      · intro _ _ _ _ _ _ _ e
        rw [hlk] at e
        exact nomatch e
      · intro l6 t6 h6 tk6 e F6 N6
        rw [hlk] at e
        obtain rfl : l7 = l6 := Option.some.inj e
        k_steps
        refine law_end1 (by assumption) (by assumption) hT hPg hTb hTi hXh hXp hoff (n := n) (np := np) ?_ ?_ fun y hy => ?_
        · refine List.forall_mem_cons.mpr ⟨?_, List.forall_mem_cons.mpr ⟨?_, List.forall_mem_cons.mpr ⟨?_, List.forall_mem_cons.mpr ⟨?_, List.forall_mem_cons.mpr ⟨?_, fun p hp => ?_⟩⟩⟩⟩⟩
          all_goals repeat (first | exact List.Mem.head _ | exact List.mem_append_left _ hp | refine List.Mem.tail _ ?_)
        · intro p hp
          repeat (first | exact List.mem_append_right _ hp | refine List.Mem.tail _ ?_)
        · obtain ⟨y1, y2, y3, y4, y5⟩ := not_five hy
          simp only [if_neg y1, if_neg y2, if_neg y3, if_neg y4, if_neg y5, hy, Bool.false_eq_true, if_false]
    · refine hneg9 ?_
      have hlk : look T (Txt.lower p9) = none := by rw [look_found hTb hp9, R7]; rfl
      refine setdefault_use ((D7, listOf #[] n7) :: (D8, listOf ((strValues sv9).drop 1).toArray 0) :: (pl, listOf pits.toArray np) :: (xa, instObj 300 dd) :: (dd, hdrObj w0 tq hl) :: (al, listOf ws.toArray 0) :: (X ++ own)) hp9 hl8 hT hTb hTl (Nat.le_of_ble_eq_true rfl) (Nat.le_of_ble_eq_true rfl) (by k_asm) (by k_asm) (by k_asm) (by k_asm) (by k_asm) rfl ?_ (by repeat (first | exact List.Mem.head _ | refine List.Mem.tail _ ?_)) ?_ ?_ (.tail _ (.tail _ (.tail _ (.head _)))) (.tail _ (.tail _ (.tail _ (.tail _ (.head _))))) ?_ ?_
      · exact List.forall_mem_cons.mpr ⟨fresh_ne fr7 (by repeat (first | exact List.Mem.head _ | refine List.Mem.tail _ ?_)), List.forall_mem_cons.mpr ⟨fresh_ne nD8 (by repeat (first | exact List.Mem.head _ | refine List.Mem.tail _ ?_)), List.forall_mem_cons.mpr ⟨Ne.symm (Nat.ne_of_lt q10), List.forall_mem_cons.mpr ⟨Nat.ne_of_lt q8, List.forall_mem_cons.mpr ⟨Nat.ne_of_lt q9, List.forall_mem_cons.mpr ⟨Ne.symm (Nat.ne_of_lt q5), fun p hp => (List.mem_append.mp hp).elim (hXh p) fun h => hoff p h _ (List.Mem.head _)⟩⟩⟩⟩⟩⟩
      · exact List.forall_mem_cons.mpr ⟨.head _, List.forall_mem_cons.mpr ⟨.tail _ (.head _), fun p hp => by repeat (first | exact hp | refine List.Mem.tail _ ?_)⟩⟩
      · exact fun p hp => by repeat (first | exact List.mem_append_left _ hp | refine List.Mem.tail _ ?_)
      · intro t6 tp6 tl6 tup nt6 h6 tk6 e F6 N6 hne6 hof6
        k_steps
        (with_reducible rename Addr => nw)
        (with_reducible rename (@LT.lt Addr _ _ nw ∧ _) => l1n)
        obtain ⟨_, _, _, n1, n2, _, n4, n5, n6, n7, n8, n9⟩ := l1n
        have d1 : D8 ≠ pl := fresh_ne nD8 (by repeat (first | exact List.Mem.head _ | refine List.Mem.tail _ ?_))
        have d2 : D8 ≠ hl := fresh_ne nD8 (by repeat (first | exact List.Mem.head _ | refine List.Mem.tail _ ?_))
        have d3 : tup ≠ pl := Ne.symm (hof6 (pl, _) (.tail _ (.tail _ (.head _))))
        refine hneg9 ?_
        refine g_append_at ((hl, listOf (items ++ [Value.ref tup]).toArray (n + 1)) :: (nw, listOf #[.ref D8, .str l8 t8] 0) :: (tup, ({ cls := .type "tuple", data := .seq #[.str p9 tp6, .str l8 tl6] nt6 } : Obj)) :: (D8, listOf ((strValues sv9).drop 1).toArray 0) :: (xa, instObj 300 dd) :: (dd, hdrObj w0 tq hl) :: (al, listOf ws.toArray 0) :: (X ++ own)) (by assumption) (by assumption) (by repeat (first | exact List.Mem.head _ | refine List.Mem.tail _ ?_)) ?_ ?_ (by rw [hPg.length, sizeLine_eq]; omega) fun h5 F5 N5 => ?_
        · refine List.forall_mem_cons.mpr ⟨?_, List.forall_mem_cons.mpr ⟨?_, List.forall_mem_cons.mpr ⟨?_, List.forall_mem_cons.mpr ⟨?_, List.forall_mem_cons.mpr ⟨?_, List.forall_mem_cons.mpr ⟨?_, List.forall_mem_cons.mpr ⟨?_, fun p hp => ?_⟩⟩⟩⟩⟩⟩⟩
          all_goals repeat (first | exact List.Mem.head _ | exact hp | refine List.Mem.tail _ ?_)
        · exact List.forall_mem_cons.mpr ⟨Nat.ne_of_lt q10, List.forall_mem_cons.mpr ⟨Ne.symm (Nat.ne_of_lt n5), List.forall_mem_cons.mpr ⟨d3, List.forall_mem_cons.mpr ⟨d1, List.forall_mem_cons.mpr ⟨Nat.ne_of_lt q11, List.forall_mem_cons.mpr ⟨Nat.ne_of_lt q12, List.forall_mem_cons.mpr ⟨Ne.symm (Nat.ne_of_lt q4), fun p hp => (List.mem_append.mp hp).elim (hXp p) fun h => hoff p h _ (List.Mem.tail _ (List.Mem.head _))⟩⟩⟩⟩⟩⟩⟩
        · k_steps
          refine law_end2 (by assumption) (by assumption) hT hPg hTb hTi hXh hXp hp9 hl8 hN hne6 d3 (Ne.symm (Nat.ne_of_lt n1)) (Ne.symm (Nat.ne_of_lt n5)) d2 d1 (fun p hp => hof6 p (by repeat (first | exact List.mem_append_right _ hp | refine List.Mem.tail _ ?_))) (fun p hp => Nat.ne_of_lt (allLt_mem n9 p (List.mem_append_right _ hp))) (fun p hp => nD8 p (by repeat (first | exact List.mem_append_right _ hp | refine List.Mem.tail _ ?_))) hoff fun y hy => ?_
          obtain ⟨y1, y2, y3, y4, y5⟩ := not_five hy
          simp only [if_neg y1, if_neg y2, if_neg y3, if_neg y4, if_neg y5, hy, Bool.false_eq_true, if_false]
      · intro l6 t6 h6 tk6 e F6 N6
        rw [hlk] at e
        exact nomatch e
  · rintro ⟨T, items, n, pits, np, X⟩ u h tk9 ⟨hT, hPg, hTb, hTi, hXh, hXp⟩ F1 N1
    clear lF9 lN9
    dsimp only at hT hPg hTb hTi
    simp only [LLed] at N1
    have hTl : T.length ≤ 20 := by omega
    have hokP : ∀ x ∈ T.map (·.page), PyData.strOk x = true := fun x hx => by obtain ⟨e, he, rfl⟩ := List.mem_map.mp hx; exact (page_ok _ (hTb e he).1).1
    have hokL : ∀ x ∈ T.map (·.link), PyData.strOk x = true := fun x hx => by obtain ⟨e, he, rfl⟩ := List.mem_map.mp hx; exact (link_parts _ (hTb e he).2.1).2
    k_steps
    obtain ⟨f, p1, p2⟩ := hPg.prs
    refine compA_pairs f (fun i out => StrsAre out ((T.take i).map (·.page))) rfl (by k_asm) (by k_asm) (List.Mem.tail _ (List.Mem.head _)) (by rw [hPg.length, sizeLine_eq]; omega) rfl rfl rfl (by decide) .nil ?_ ?_ ?_
    · intro i v hv
      obtain ⟨t, ot, nt, h1, h2, h3⟩ := p1 i v hv
      exact ⟨t, ot, nt, h1, by repeat (first | exact h2 | refine List.Mem.tail _ ?_), h3⟩
    · intro i out I oI C oC D2 m₂ h2 tk3 E' hi hJ hC hx1 hx2 F2 N2 off2 ne2
      obtain ⟨e, hTi2⟩ : ∃ e, T[i]? = some e := ⟨T[i]'(by rw [← hPg.length]; exact hi), by simp⟩
      obtain ⟨b, t, n', bs, e1, e2, hb, hbs⟩ := p2 i e hTi2
      rw [e1] at hx1
      rw [e2] at hx2
      obtain ⟨he1, he2, he3⟩ := hTb e (List.mem_of_getElem? hTi2)
      obtain ⟨g1, g2, g3, -⟩ := page_facts _ he1
      rw [← he3] at g1 g3
      have hjp9 : Str.ofString "/" ++ Txt.join (Str.ofString "/") e.names = e.page := g1
      obtain ⟨j1, j2, j3⟩ := reach_join _ g3
      simp only [LCg.Off3] at off2
      have N3 : News _ _ h2 ((b, listOf bs.toArray n') :: _) := List.forall_mem_cons.mpr ⟨N2 _ (by repeat (first | exact hb | refine List.Mem.tail _ ?_)), N2⟩
      clear N2
      refine wpAny_tests_nil ?_
      k_steps
      · exact ⟨_, _, rfl, by assumption, news_sub (by assumption) fun p hp => .tail _ hp⟩
      · rw [List.take_add_one, hTi2, List.map_append]
        exact hJ.append' (.cons _ _ .nil)
    · intro D2 h2 tk3 out hout F2 N2 off2
      rw [hPg.length, List.take_length] at hout
      k_steps
      refine compA_pairs f (fun i out => StrsAre out ((T.take i).map (·.link))) rfl (by k_asm) (by k_asm) (by repeat (first | exact List.Mem.head _ | refine List.Mem.tail _ ?_)) (by rw [hPg.length, sizeLine_eq]; omega) rfl rfl rfl (by decide) .nil ?_ ?_ ?_
      · intro i v hv
        obtain ⟨t, ot, nt, h1, h2, h3⟩ := p1 i v hv
        exact ⟨t, ot, nt, h1, by repeat (first | exact h2 | refine List.Mem.tail _ ?_), h3⟩
      · intro i out I oI C oC D3 m₂ h2 tk3 E' hi hJ hC hx1 hx2 F3 N3 off3 ne3
        obtain ⟨e, hTi2⟩ : ∃ e, T[i]? = some e := ⟨T[i]'(by rw [← hPg.length]; exact hi), by simp⟩
        obtain ⟨b, t, n', bs, e1, e2, hb, hbs⟩ := p2 i e hTi2
        rw [e1] at hx1
        rw [e2] at hx2
        simp only [LCg.Off3] at off3
        refine wpAny_tests_nil ?_
        k_steps
        · exact ⟨_, _, rfl, by assumption, by assumption⟩
        · rw [List.take_add_one, hTi2, List.map_append]
          exact hJ.append' (.cons _ _ .nil)
      · intro D3 h3 tk4 out3 hout3 F3 N3 off3
        rw [hPg.length, List.take_length] at hout3
        k_steps
        (rename Fr _ _ _ _ => lF8)
        have lN8 := news_sub (news := (hl, listOf items.toArray n) :: (pl, listOf pits.toArray np) :: (xa, instObj 300 dd) :: (dd, hdrObj w0 tq hl) :: (al, listOf ws.toArray 0) :: X) N3 fun p hp => by repeat (first | exact hp | refine List.Mem.tail _ ?_)
        clear F1 N1 F2 N2 N3 off2 off3 F9 N9
        refine search_list [Str.ofString "names", Str.ofString "link", Str.ofString "page"] (fun _ => True) rfl (List.Mem.tail _ (List.Mem.head _)) lF8 lN8 trivial ?_ ?_
        · intro i v u2 h5 tk5 own hv hoff _ F5 N5
          obtain ⟨e, a, b, t, n1, n2, bs, hTe, rfl, ha, hb, hbs9⟩ := hPg.get hv
          obtain ⟨he1, he2, he3⟩ := hTb e (List.mem_of_getElem? hTe)
          obtain ⟨g1, hpr9, hnr9, g4, g5, g6, g7⟩ := page_facts _ he1
          rw [← he3] at g1 hnr9 g7
          obtain ⟨g', lt9, rfl⟩ := strs_last hbs9 g7
          have hjp9 : Str.ofString "/" ++ Txt.join (Str.ofString "/") e.names = e.page := g1
          obtain ⟨j1, j2, j3⟩ := reach_join _ hnr9
          have htw9 : toldL T 6 e.page = (walkedL T 6 e.names).map joinP := by rw [← told_walked hTb 6 e.names hnr9, g1]
          have hpl9 : e.page.length ≤ 1000 := Nat.le_trans (pages_len _ he1).1 (by decide)
          obtain ⟨k1, k2, k3⟩ := page_ok _ he1
          have hq9 : Str.ofString "q/../" ++ e.link = qway e.link := rfl
          have hqs9 := way_size _ he2
          have hokW : ∀ x ∈ (walkedL T 6 e.names).map joinP, PyData.strOk x = true := fun x hx => by obtain ⟨r, hr, rfl⟩ := List.mem_map.mp hx; exact (reach_join _ (walked_reach hTb 6 _ hnr9 r hr)).2.2
          have hokN : ∀ x ∈ [e.link, qway e.link].map normF, PyData.strOk x = true := fun x hx => by obtain ⟨r, hr, rfl⟩ := List.mem_map.mp hx; exact (way_np _ he2 r hr).2.2.2.2
          simp only [List.cons_append] at N5
          have N6 := news_sub (news := (a, listOf #[.ref b, .str e.link t] n1) :: (b, listOf (g' ++ [Value.str (basenameF e.page) lt9]).toArray n2) :: _) N5 (List.forall_mem_cons.mpr ⟨.tail _ (.tail _ (.tail _ (.tail _ (.tail _ (List.mem_append_left _ ha))))), List.forall_mem_cons.mpr ⟨.tail _ (.tail _ (.tail _ (.tail _ (.tail _ (List.mem_append_left _ hb))))), fun p hp => hp⟩⟩)
          clear N5 lF8 lN8
          k_steps
          simp only [List.cons_append, List.append_assoc] at Nw
          refine compA_rows (X := Xw) joinP rfl (by k_asm) (by k_asm) (List.Mem.head _) (by rw [sizeLine_eq]; exact Nat.le_trans (walked_len 6 _) (by decide)) Rw (fun p hp => by repeat (first | exact List.mem_append_right _ (List.mem_append_right _ hp) | refine List.Mem.tail _ ?_)) rfl rfl ?_ ?_
          · intro b2 bs2 nb2 ns2 I oI C oC D ys m₂ h6 tk6 E' hns hb2 hbs2 hC hx F6 N7 off ne
            obtain ⟨i1, i2, i3⟩ := reach_join _ (walked_reach hTb 6 _ hnr9 _ hns)
            have hjr : Str.ofString "/" ++ Txt.join (Str.ofString "/") ns2 = joinP ns2 := rfl
            simp only [LCg.Off3] at off
            have N8 : News _ _ h6 ((b2, listOf bs2.toArray nb2) :: _) := List.forall_mem_cons.mpr ⟨N7 _ (.tail _ (.tail _ (.tail _ hb2))), N7⟩
            clear N7
            k_steps
            exact ⟨_, _, rfl, by assumption, news_sub (by assumption) fun p hp => .tail _ hp⟩
          · intro D h6 tk6 ys hys F6 N7 off
            simp only [LCg.Off1] at off
            clear Nw
            k_steps
            (rename StrsAre ys _ => hys9)
            refine compA_strs (nits := [_, _]) (ns := [e.link, qway e.link]) normF rfl (by k_asm) (by k_asm) (List.Mem.head _) (by rw [sizeLine_eq]; exact Nat.le_of_ble_eq_true rfl) (.cons _ _ (.cons _ _ .nil)) rfl rfl ?_ ?_
            · intro y ty I oI C oC D4 ys4 m₂ h7 tk7 E' hy9 hC hx F7 N7 off4 ne4
              simp only [LCg.Off3] at off4
              have hlk9 := he2
              k_steps
              exact ⟨_, _, rfl, by assumption, by assumption⟩
            · intro D4 h7 tk7 ys4 hys4 F7 N7 off4
              simp only [LCg.Off1] at off4
              k_steps
              refine compA_strs (nits := [_, _]) (ns := [e.link, qway e.link]) normF rfl (by k_asm) (by k_asm) (List.Mem.head _) (by rw [sizeLine_eq]; exact Nat.le_of_ble_eq_true rfl) (.cons _ _ (.cons _ _ .nil)) rfl rfl ?_ ?_
              · intro y ty I oI C oC D5 ys5 m₂ h8 tk8 E' hy9 hC hx F8 N8 off5 ne5
                simp only [LCg.Off3] at off5
                have hlk9 := he2
                k_steps
                exact ⟨_, _, rfl, by assumption, by assumption⟩
              · intro D5 h8 tk8 ys5 hys5 F8 N8 off5
                simp only [LCg.Off1] at off5
                k_steps
                refine InvEndG.intro F8 N8 ⟨rfl, ?_, trivial⟩ hoff ?_ ?_
                · intro y hy
                  obtain ⟨y1, y2, y3⟩ := not_three hy
                  simp only [if_neg y1, if_neg y2, if_neg y3, hy, Bool.false_eq_true, if_false]
                · refine List.forall_mem_cons.mpr ⟨?_, List.forall_mem_cons.mpr ⟨?_, List.forall_mem_cons.mpr ⟨?_, List.forall_mem_cons.mpr ⟨?_, List.forall_mem_cons.mpr ⟨?_, fun p hp => ?_⟩⟩⟩⟩⟩
                  all_goals repeat (first | exact List.Mem.head _ | exact List.mem_append_left _ hp | refine List.Mem.tail _ ?_)
                · intro p hp
                  repeat (first | exact List.mem_append_right _ (List.mem_append_left _ hp) | refine List.Mem.tail _ ?_)
        · intro u2 h5 tk5 _ F5 N5
          k_steps
end Mine
end
theorem PySem.Challenge.cw_pd0177_01_holds : PySem.Challenge.rw_pd0177_01.Holds :=
  Mine.lawx
