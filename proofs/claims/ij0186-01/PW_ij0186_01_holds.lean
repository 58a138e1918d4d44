import PyProof.Rows.All
import Wide.All
import OpenK.AllK
import Wide.FinOn
import Lean
import PySem.Challenge.RW_ij0186_01
set_option Elab.async false
set_option maxRecDepth 100000
set_option maxHeartbeats 0
set_option linter.unusedVariables false
section
set_option Elab.async false
set_option maxRecDepth 100000
set_option maxHeartbeats 0
set_option linter.unusedVariables false
open PySem PySem.W PySem.W.X PyProof.Rows
namespace Mine
noncomputable abbrev pw : Program := PySem.Challenge.pw_ij0186_01
noncomputable abbrev hk (p : Params) (x : Str) := PyData.keyHash p x
noncomputable def nd : List Nat → List Stmt → Option Stmt
  | [], _ => none
  | i :: r, b => match b[i]? with
    | none => none
    | some s => match r with
      | [] => some s
      | _ :: _ => match s with
        | .FunctionDef _ _ b' _ _ _ _ _ _ _ => nd r b'
        | .ClassDef _ _ _ b' _ _ _ _ _ _ _ => nd r b'
        | _ => none
noncomputable def fA (l : List Nat) : Arguments := match nd l pw.main.body with
  | some (.FunctionDef _ a _ _ _ _ _ _ _ _) => a
  | _ => ⟨[], [], none, [], [], none, []⟩
noncomputable def fB (l : List Nat) : List Stmt := match nd l pw.main.body with
  | some (.FunctionDef _ _ b _ _ _ _ _ _ _) => b
  | some (.ClassDef _ _ _ b _ _ _ _ _ _ _) => b
  | _ => []
noncomputable def fS (l : List Nat) : Scope := match nd l pw.main.body with
  | some (.FunctionDef _ _ _ _ _ _ s _ _ _) => s
  | some (.ClassDef _ _ _ _ _ _ s _ _ _ _) => s
  | _ => pw.main.scope
noncomputable def x0 (p : Params) : Obj := ⟨.type "dict", none, .dict #[⟨hk p "builtins", .str "builtins" 162, .ref 4⟩, ⟨hk p "__main__", .str "__main__" 163, .ref 5⟩, ⟨hk p "_sre", .str "_sre" 244, .ref 12⟩, ⟨hk p "_collections", .str "_collections" 292, .ref 30⟩] 4, #[]⟩
noncomputable def x1 (p : Params) : Obj := ⟨.none, none, .dict #[⟨hk p "\x69mport.loaded._sre", .str "\x69mport.loaded._sre" 183, .bool true⟩, ⟨hk p "class._frozen_importlib.BuiltinImporter", .str "class._frozen_importlib.BuiltinImporter" 185, .ref 14⟩, ⟨hk p "watched.\x69mport", .str "watched.\x69mport" 206, .ref 18⟩, ⟨hk p "class._frozen_importlib.ModuleSpec", .str "class._frozen_importlib.ModuleSpec" 216, .ref 22⟩, ⟨hk p "sys.modules.booked-epoch", .str "sys.modules.booked-epoch" 245, .int 4 0⟩, ⟨hk p "\x69mport.later-laid._sre", .str "\x69mport.later-laid._sre" 270, .bool true⟩, ⟨hk p "watched.library", .str "watched.library" 272, .ref 27⟩, ⟨hk p "watched.library-objects", .str "watched.library-objects" 0, .str "\x0c\x1e" 0⟩, ⟨hk p "watched.library-deep._sre", .str "watched.library-deep._sre" 273, .str "\x04\x00\x00\x0b\x04\x00\x00\x0b\x04\x00\x00\x03\x04\x00\x00\x0b\x08\x04dict\x02" 0⟩, ⟨hk p "\x69mport.loaded._collections", .str "\x69mport.loaded._collections" 280, .bool true⟩, ⟨hk p "sys.modules.landed._collections", .str "sys.modules.landed._collections" 294, .bool true⟩, ⟨hk p "\x69mport.later-laid._collections", .str "\x69mport.later-laid._collections" 309, .bool true⟩, ⟨hk p "watched.library-deep._collections", .str "watched.library-deep._collections" 311, .str "\x04\x00\x00\x1d\x04\x00\x00\x1d\x04\x00\x00\x03\x04\x00\x00\x1d\x08\x04dict\x02" 0⟩] 13, #[]⟩
noncomputable def x2 (p : Params) : Obj := ⟨.type "dict", none, .dict #[⟨hk p "__name__", .str "__name__" 165, .str "__main__" 164⟩, ⟨hk p "__doc__", .str "__doc__" 166, .none⟩, ⟨hk p "__package__", .str "__package__" 167, .none⟩, ⟨hk p "__loader__", .str "__loader__" 168, .builtin "__main__.__loader__#opaque"⟩, ⟨hk p "__spec__", .str "__spec__" 169, .none⟩, ⟨hk p "__annotations__", .str "__annotations__" 170, .ref 6⟩, ⟨hk p "__builtins__", .str "__builtins__" 171, .ref 4⟩, ⟨hk p "__file__", .str "__file__" 173, .str "/claim/cut.py" 172⟩, ⟨hk p "__cached__", .str "__cached__" 174, .none⟩, ⟨hk p "_sre", .str "_sre" 275, .ref 12⟩, ⟨hk p "deque", .str "deque" 317, .type "collections.deque"⟩] 11, #[]⟩
noncomputable def x3 (p : Params) : Obj := ⟨.type "dict", none, .dict #[⟨hk p "__name__", .str "__name__" 247, .str "_sre" 246⟩, ⟨hk p "__doc__", .str "__doc__" 248, .none⟩, ⟨hk p "__package__", .str "__package__" 250, .str "" 249⟩, ⟨hk p "__loader__", .str "__loader__" 251, .ref 14⟩, ⟨hk p "__spec__", .str "__spec__" 252, .ref 26⟩, ⟨hk p "compile", .str "compile" 253, .builtin "_sre.compile"⟩, ⟨hk p "template", .str "template" 254, .builtin "_sre.template"⟩, ⟨hk p "getcodesize", .str "getcodesize" 255, .builtin "_sre.getcodesize"⟩, ⟨hk p "ascii_iscased", .str "ascii_iscased" 256, .builtin "_sre.ascii_iscased"⟩, ⟨hk p "unicode_iscased", .str "unicode_iscased" 257, .builtin "_sre.unicode_iscased"⟩, ⟨hk p "ascii_tolower", .str "ascii_tolower" 258, .builtin "_sre.ascii_tolower"⟩, ⟨hk p "unicode_tolower", .str "unicode_tolower" 259, .builtin "_sre.unicode_tolower"⟩, ⟨hk p "MAGIC", .str "MAGIC" 261, .int 20230612 260⟩, ⟨hk p "CODESIZE", .str "CODESIZE" 263, .int 4 262⟩, ⟨hk p "MAXREPEAT", .str "MAXREPEAT" 265, .int 4294967295 264⟩, ⟨hk p "MAXGROUPS", .str "MAXGROUPS" 267, .int 1073741823 266⟩, ⟨hk p "copyright", .str "copyright" 269, .str " SRE 2.2.2 Copyright (c) 1997-2002 by Secret Labs AB " 268⟩] 17, #[]⟩
noncomputable def x4 (p : Params) : Obj := ⟨.type "module", some 11, .plain, #[]⟩
noncomputable def x5 (p : Params) : Obj := ⟨.type "dict", none, .dict #[⟨hk p "__module__", .str "__module__" 189, .str "_frozen_importlib" 186⟩, ⟨hk p "__firstlineno__", .str "__firstlineno__" 190, .int 971 187⟩, ⟨hk p "__doc__", .str "__doc__" 191, .builtin "_frozen_importlib.BuiltinImporter.__doc__:str#opaque"⟩, ⟨hk p "_ORIGIN", .str "_ORIGIN" 192, .str "built-in" 188⟩, ⟨hk p "find_spec", .str "find_spec" 193, .builtin "_frozen_importlib.BuiltinImporter.find_spec#opaque"⟩, ⟨hk p "create_module", .str "create_module" 194, .builtin "_frozen_importlib.BuiltinImporter.create_module#opaque"⟩, ⟨hk p "exec_module", .str "exec_module" 195, .builtin "_frozen_importlib.BuiltinImporter.exec_module#opaque"⟩, ⟨hk p "get_code", .str "get_code" 196, .builtin "_frozen_importlib.BuiltinImporter.get_code#opaque"⟩, ⟨hk p "get_source", .str "get_source" 197, .builtin "_frozen_importlib.BuiltinImporter.get_source#opaque"⟩, ⟨hk p "is_package", .str "is_package" 198, .builtin "_frozen_importlib.BuiltinImporter.is_package#opaque"⟩, ⟨hk p "load_module", .str "load_module" 199, .builtin "_frozen_importlib.BuiltinImporter.load_module#opaque"⟩, ⟨hk p "__static_attributes__", .str "__static_attributes__" 200, .ref 15⟩, ⟨hk p "__dict__", .str "__dict__" 202, .ref 16⟩, ⟨hk p "__weakref__", .str "__weakref__" 204, .ref 17⟩] 14, #[]⟩
noncomputable def x6 (p : Params) : Obj := ⟨.type "type", none, .cls ⟨"BuiltinImporter", [.type "object"], [.ref 14, .type "object"], 13, "BuiltinImporter", true, [], [], false, none, false⟩, #[]⟩
noncomputable def x7 (p : Params) : Obj := ⟨.type "getset_descriptor", none, .fields #[.str "__dict__" 201, .ref 14, .builtin "function.__dict__", .builtin "function.__dict__#set"], #[]⟩
noncomputable def x8 (p : Params) : Obj := ⟨.type "getset_descriptor", none, .fields #[.str "__weakref__" 203, .ref 14, .builtin "ExceptionGroup.__weakref__", .none], #[]⟩
noncomputable def x9 (p : Params) : Obj := ⟨.none, none, .seq #[.int 13 0, .str "\x06½\n__module__\x06º\x11_frozen_importlib\x06¾\x0f__firstlineno__\x04»\x00ϋ\x06¿\x07__doc__\t4_frozen_importlib.BuiltinImporter.__doc__:str#opaque\x06À\x07_ORIGIN\x06¼\x08built-in\x06Á\tfind_spec\t2_frozen_importlib.BuiltinImporter.find_spec#opaque\x06Â\x0dcreate_module\t6_frozen_importlib.BuiltinImporter.create_module#opaque\x06Ã\x0bexec_module\t4_frozen_importlib.BuiltinImporter.exec_module#opaque\x06Ä\x08get_code\t1_frozen_importlib.BuiltinImporter.get_code#opaque\x06Å\nget_source\t3_frozen_importlib.BuiltinImporter.get_source#opaque\x06Æ\nis_package\t3_frozen_importlib.BuiltinImporter.is_package#opaque\x06Ç\x0bload_module\t4_frozen_importlib.BuiltinImporter.load_module#opaque\x06È\x15__static_attributes__\x04\x00\x00\x0f\x06Ê\x08__dict__\x04\x00\x00\x10\x06Ì\x0b__weakref__\x04\x00\x00\x11" 0, .bool true, .bool true, .str "" 205, .int 21 0, .str "\x06ã\n__module__\x06Ù\x11_frozen_importlib\x06ä\x0f__firstlineno__\x04Ú\x00Ȳ\x06å\x07__doc__\t/_frozen_importlib.ModuleSpec.__doc__:str#opaque\x06æ\x08__init__\t,_frozen_importlib.ModuleSpec.__init__#opaque\x06ç\x08__repr__\t,_frozen_importlib.ModuleSpec.__repr__#opaque\x06è\x06__eq__\t*_frozen_importlib.ModuleSpec.__eq__#opaque\x06é\x06cached\t*_frozen_importlib.ModuleSpec.cached#opaque\x06ê\x06parent\t*_frozen_importlib.ModuleSpec.parent#opaque\x06ë\x0chas_location\t0_frozen_importlib.ModuleSpec.has_location#opaque\x06ì\x15__static_attributes__\x04\x00\x00\x17\x06î\x08__dict__\x04\x00\x00\x18\x06ð\x0b__weakref__\x04\x00\x00\x19\x06ñ\x08__hash__\x00" 0, .bool true, .bool true, .str "" 242] 1, #[]⟩
noncomputable def x10 (p : Params) : Obj := ⟨.type "list", none, .seq #[] 0, #[]⟩
noncomputable def x11 (p : Params) : Obj := ⟨.type "dict", none, .dict #[⟨hk p "name", .str "name" 208, .str "_sre" 207⟩, ⟨hk p "loader", .str "loader" 209, .ref 14⟩, ⟨hk p "origin", .str "origin" 210, .str "built-in" 184⟩, ⟨hk p "loader_state", .str "loader_state" 211, .none⟩, ⟨hk p "submodule_search_locations", .str "submodule_search_locations" 212, .none⟩, ⟨hk p "_uninitialized_submodules", .str "_uninitialized_submodules" 213, .ref 19⟩, ⟨hk p "_set_fileattr", .str "_set_fileattr" 214, .bool false⟩, ⟨hk p "_cached", .str "_cached" 215, .none⟩, ⟨hk p "_initializing", .str "_initializing" 243, .bool false⟩] 9, #[]⟩
noncomputable def x12 (p : Params) : Obj := ⟨.type "dict", none, .dict #[⟨hk p "__module__", .str "__module__" 227, .str "_frozen_importlib" 217⟩, ⟨hk p "__firstlineno__", .str "__firstlineno__" 228, .int 562 218⟩, ⟨hk p "__doc__", .str "__doc__" 229, .builtin "_frozen_importlib.ModuleSpec.__doc__:str#opaque"⟩, ⟨hk p "__init__", .str "__init__" 230, .builtin "_frozen_importlib.ModuleSpec.__init__#opaque"⟩, ⟨hk p "__repr__", .str "__repr__" 231, .builtin "_frozen_importlib.ModuleSpec.__repr__#opaque"⟩, ⟨hk p "__eq__", .str "__eq__" 232, .builtin "_frozen_importlib.ModuleSpec.__eq__#opaque"⟩, ⟨hk p "cached", .str "cached" 233, .builtin "_frozen_importlib.ModuleSpec.cached#opaque"⟩, ⟨hk p "parent", .str "parent" 234, .builtin "_frozen_importlib.ModuleSpec.parent#opaque"⟩, ⟨hk p "has_location", .str "has_location" 235, .builtin "_frozen_importlib.ModuleSpec.has_location#opaque"⟩, ⟨hk p "__static_attributes__", .str "__static_attributes__" 236, .ref 23⟩, ⟨hk p "__dict__", .str "__dict__" 238, .ref 24⟩, ⟨hk p "__weakref__", .str "__weakref__" 240, .ref 25⟩, ⟨hk p "__hash__", .str "__hash__" 241, .none⟩] 13, #[]⟩
noncomputable def x13 (p : Params) : Obj := ⟨.type "type", none, .cls ⟨"ModuleSpec", [.type "object"], [.ref 22, .type "object"], 21, "ModuleSpec", true, [], [], false, none, false⟩, #[]⟩
noncomputable def x14 (p : Params) : Obj := ⟨.type "tuple", none, .seq #[.str "_cached" 219, .str "_set_fileattr" 220, .str "_uninitialized_submodules" 221, .str "loader" 222, .str "loader_state" 223, .str "name" 224, .str "origin" 225, .str "submodule_search_locations" 226] 0, #[]⟩
noncomputable def x15 (p : Params) : Obj := ⟨.type "getset_descriptor", none, .fields #[.str "__dict__" 237, .ref 22, .builtin "function.__dict__", .builtin "function.__dict__#set"], #[]⟩
noncomputable def x16 (p : Params) : Obj := ⟨.type "getset_descriptor", none, .fields #[.str "__weakref__" 239, .ref 22, .builtin "ExceptionGroup.__weakref__", .none], #[]⟩
noncomputable def x17 (p : Params) : Obj := ⟨.ref 22, some 20, .plain, #[]⟩
noncomputable def x18 (p : Params) : Obj := ⟨.none, none, .seq #[.int 11 0, .str ⟨#[6, 247, 8, 95, 95, 110, 97, 109, 101, 95, 95, 6, 246, 4, 95, 115, 114, 101, 6, 248, 7, 95, 95, 100, 111, 99, 95, 95, 0, 6, 250, 11, 95, 95, 112, 97, 99, 107, 97, 103, 101, 95, 95, 6, 249, 0, 6, 251, 10, 95, 95, 108, 111, 97, 100, 101, 114, 95, 95, 4, 0, 0, 14, 6, 252, 8, 95, 95, 115, 112, 101, 99, 95, 95, 4, 0, 0, 26, 6, 253, 7, 99, 111, 109, 112, 105, 108, 101, 9, 12, 95, 115, 114, 101, 46, 99, 111, 109, 112, 105, 108, 101, 6, 254, 8, 116, 101, 109, 112, 108, 97, 116, 101, 9, 13, 95, 115, 114, 101, 46, 116, 101, 109, 112, 108, 97, 116, 101, 6, 255, 11, 103, 101, 116, 99, 111, 100, 101, 115, 105, 122, 101, 9, 16, 95, 115, 114, 101, 46, 103, 101, 116, 99, 111, 100, 101, 115, 105, 122, 101, 6, 256, 13, 97, 115, 99, 105, 105, 95, 105, 115, 99, 97, 115, 101, 100, 9, 18, 95, 115, 114, 101, 46, 97, 115, 99, 105, 105, 95, 105, 115, 99, 97, 115, 101, 100, 6, 257, 15, 117, 110, 105, 99, 111, 100, 101, 95, 105, 115, 99, 97, 115, 101, 100, 9, 20, 95, 115, 114, 101, 46, 117, 110, 105, 99, 111, 100, 101, 95, 105, 115, 99, 97, 115, 101, 100, 6, 258, 13, 97, 115, 99, 105, 105, 95, 116, 111, 108, 111, 119, 101, 114, 9, 18, 95, 115, 114, 101, 46, 97, 115, 99, 105, 105, 95, 116, 111, 108, 111, 119, 101, 114, 6, 259, 15, 117, 110, 105, 99, 111, 100, 101, 95, 116, 111, 108, 111, 119, 101, 114, 9, 20, 95, 115, 114, 101, 46, 117, 110, 105, 99, 111, 100, 101, 95, 116, 111, 108, 111, 119, 101, 114, 6, 261, 5, 77, 65, 71, 73, 67, 4, 260, 0, 20230612, 6, 263, 8, 67, 79, 68, 69, 83, 73, 90, 69, 4, 262, 0, 4, 6, 265, 9, 77, 65, 88, 82, 69, 80, 69, 65, 84, 4, 264, 0, 4294967295, 6, 267, 9, 77, 65, 88, 71, 82, 79, 85, 80, 83, 4, 266, 0, 1073741823, 6, 269, 9, 99, 111, 112, 121, 114, 105, 103, 104, 116, 6, 268, 53, 32, 83, 82, 69, 32, 50, 46, 50, 46, 50, 32, 67, 111, 112, 121, 114, 105, 103, 104, 116, 32, 40, 99, 41, 32, 49, 57, 57, 55, 45, 50, 48, 48, 50, 32, 98, 121, 32, 83, 101, 99, 114, 101, 116, 32, 76, 97, 98, 115, 32, 65, 66, 32]⟩ 0, .bool true, .bool false, .str "_sre" 271, .int 29 0, .str "\x06Ĩ\x08__name__\x06ħ\x0c_collections\x06ĩ\x07__doc__\t\x1f_collections.__doc__:str#opaque\x06ī\x0b__package__\x06Ī\x00\x06Ĭ\n__loader__\x04\x00\x00\x0e\x06ĭ\x08__spec__\x04\x00\x00!\x06Į\x0f_count_elements\t\x1c_collections._count_elements\x06į\x05deque\x08\x11collections.deque\x06İ\x0bdefaultdict\x08\x17collections.defaultdict\x06ı\x0f_deque_iterator\x08\x1bcollections._deque_iterator\x06Ĳ\x17_deque_reverse_iterator\x08#collections._deque_reverse_iterator\x06ĳ\x0c_tuplegetter\x08\x18collections._tuplegetter\x06Ĵ\x0bOrderedDict\x08\x17collections.OrderedDict" 0, .bool true, .bool false, .str "_collections" 310] 1, #[]⟩
noncomputable def x19 (p : Params) : Obj := ⟨.type "tuple", none, .seq #[.str "deque" 277] 0, #[]⟩
noncomputable def x20 (p : Params) : Obj := ⟨.type "dict", none, .dict #[⟨hk p "__name__", .str "__name__" 296, .str "_collections" 295⟩, ⟨hk p "__doc__", .str "__doc__" 297, .builtin "_collections.__doc__:str#opaque"⟩, ⟨hk p "__package__", .str "__package__" 299, .str "" 298⟩, ⟨hk p "__loader__", .str "__loader__" 300, .ref 14⟩, ⟨hk p "__spec__", .str "__spec__" 301, .ref 33⟩, ⟨hk p "_count_elements", .str "_count_elements" 302, .builtin "_collections._count_elements"⟩, ⟨hk p "deque", .str "deque" 303, .type "collections.deque"⟩, ⟨hk p "defaultdict", .str "defaultdict" 304, .type "collections.defaultdict"⟩, ⟨hk p "_deque_iterator", .str "_deque_iterator" 305, .type "collections._deque_iterator"⟩, ⟨hk p "_deque_reverse_iterator", .str "_deque_reverse_iterator" 306, .type "collections._deque_reverse_iterator"⟩, ⟨hk p "_tuplegetter", .str "_tuplegetter" 307, .type "collections._tuplegetter"⟩, ⟨hk p "OrderedDict", .str "OrderedDict" 308, .type "collections.OrderedDict"⟩] 12, #[]⟩
noncomputable def x21 (p : Params) : Obj := ⟨.type "module", some 29, .plain, #[]⟩
noncomputable def x22 (p : Params) : Obj := ⟨.type "dict", none, .dict #[⟨hk p "name", .str "name" 283, .str "_collections" 282⟩, ⟨hk p "loader", .str "loader" 284, .ref 14⟩, ⟨hk p "origin", .str "origin" 285, .str "built-in" 281⟩, ⟨hk p "loader_state", .str "loader_state" 286, .none⟩, ⟨hk p "submodule_search_locations", .str "submodule_search_locations" 287, .none⟩, ⟨hk p "_uninitialized_submodules", .str "_uninitialized_submodules" 288, .ref 31⟩, ⟨hk p "_set_fileattr", .str "_set_fileattr" 289, .bool false⟩, ⟨hk p "_cached", .str "_cached" 290, .none⟩, ⟨hk p "_initializing", .str "_initializing" 291, .bool false⟩] 9, #[]⟩
noncomputable def x23 (p : Params) : Obj := ⟨.ref 22, some 32, .plain, #[]⟩
noncomputable def x24 (p : Params) : Obj := ⟨.type "dict", none, .dict #[⟨hk p "__name__", .str "__name__" 247, .str "_sre" 246⟩, ⟨hk p "__doc__", .str "__doc__" 248, .none⟩, ⟨hk p "__package__", .str "__package__" 250, .str "" 249⟩, ⟨hk p "__loader__", .str "__loader__" 251, .builtin "off-the-table:_sre.__loader__:shared#opaque"⟩, ⟨hk p "__spec__", .str "__spec__" 252, .builtin "off-the-table:_sre.__spec__:shared#opaque"⟩, ⟨hk p "compile", .str "compile" 253, .builtin "_sre.compile"⟩, ⟨hk p "template", .str "template" 254, .builtin "off-the-table:_sre.template:shared#opaque"⟩, ⟨hk p "getcodesize", .str "getcodesize" 255, .builtin "off-the-table:_sre.getcodesize:shared#opaque"⟩, ⟨hk p "ascii_iscased", .str "ascii_iscased" 256, .builtin "off-the-table:_sre.ascii_iscased:shared#opaque"⟩, ⟨hk p "unicode_iscased", .str "unicode_iscased" 257, .builtin "off-the-table:_sre.unicode_iscased:shared#opaque"⟩, ⟨hk p "ascii_tolower", .str "ascii_tolower" 258, .builtin "off-the-table:_sre.ascii_tolower:shared#opaque"⟩, ⟨hk p "unicode_tolower", .str "unicode_tolower" 259, .builtin "off-the-table:_sre.unicode_tolower:shared#opaque"⟩, ⟨hk p "MAGIC", .str "MAGIC" 261, .int 20230612 260⟩, ⟨hk p "CODESIZE", .str "CODESIZE" 263, .int 4 262⟩, ⟨hk p "MAXREPEAT", .str "MAXREPEAT" 265, .int 4294967295 264⟩, ⟨hk p "MAXGROUPS", .str "MAXGROUPS" 267, .int 1073741823 266⟩, ⟨hk p "copyright", .str "copyright" 269, .str " SRE 2.2.2 Copyright (c) 1997-2002 by Secret Labs AB " 268⟩] 17, #[]⟩
noncomputable def x25 (p : Params) : Obj := ⟨.type "dict", none, .dict #[⟨hk p "__name__", .str "__name__" 296, .str "_collections" 295⟩, ⟨hk p "__doc__", .str "__doc__" 297, .builtin "off-the-table:_collections.__doc__:shared#opaque"⟩, ⟨hk p "__package__", .str "__package__" 299, .str "" 298⟩, ⟨hk p "__loader__", .str "__loader__" 300, .builtin "off-the-table:_collections.__loader__:shared#opaque"⟩, ⟨hk p "__spec__", .str "__spec__" 301, .builtin "off-the-table:_collections.__spec__:shared#opaque"⟩, ⟨hk p "_count_elements", .str "_count_elements" 302, .builtin "_collections._count_elements"⟩, ⟨hk p "deque", .str "deque" 303, .type "collections.deque"⟩, ⟨hk p "defaultdict", .str "defaultdict" 304, .type "collections.defaultdict"⟩, ⟨hk p "_deque_iterator", .str "_deque_iterator" 305, .builtin "off-the-table:_collections._deque_iterator:shared#opaque"⟩, ⟨hk p "_deque_reverse_iterator", .str "_deque_reverse_iterator" 306, .builtin "off-the-table:_collections._deque_reverse_iterator:shared#opaque"⟩, ⟨hk p "_tuplegetter", .str "_tuplegetter" 307, .type "collections._tuplegetter"⟩, ⟨hk p "OrderedDict", .str "OrderedDict" 308, .type "collections.OrderedDict"⟩] 12, #[]⟩
noncomputable def x26 (p : Params) : Obj := ⟨.type "code", none, .fields #[.str "<module>" 319, .str "<module>" 320, .str "/claim/cut.py" 321, .int 1 0, .int 0 0, .int 0 0, .int 0 0, .int 0 0, .ref 34, .bool false, .int 318 0, .ref 35, .none, .none, .none, .none, .int 322 0, .int 1 0, .str "/claim/cut.py" 323], #[]⟩
noncomputable def x27 (p : Params) : Obj := ⟨.type "frame", none, .plain, #[some (.ref 36), some (.ref 3), some (.ref 3), none, some (.str "__main__" 164), none, some (.ref 0)]⟩
noncomputable def x28 (p : Params) : Obj := ⟨.none, none, .dict #[⟨hk p "\x69mport.loaded._sre", .str "\x69mport.loaded._sre" 183, .bool true⟩, ⟨hk p "class._frozen_importlib.BuiltinImporter", .str "class._frozen_importlib.BuiltinImporter" 185, .ref 14⟩, ⟨hk p "watched.\x69mport", .str "watched.\x69mport" 206, .ref 18⟩, ⟨hk p "class._frozen_importlib.ModuleSpec", .str "class._frozen_importlib.ModuleSpec" 216, .ref 22⟩, ⟨hk p "sys.modules.booked-epoch", .str "sys.modules.booked-epoch" 245, .int 4 0⟩, ⟨hk p "\x69mport.later-laid._sre", .str "\x69mport.later-laid._sre" 270, .bool true⟩, ⟨hk p "watched.library", .str "watched.library" 272, .ref 27⟩, ⟨hk p "watched.library-objects", .str "watched.library-objects" 0, .str "\x0c\x1e" 0⟩, ⟨hk p "watched.library-deep._sre", .str "watched.library-deep._sre" 273, .str "\x04\x00\x00\x0b\x04\x00\x00\x0b\x04\x00\x00\x03\x04\x00\x00\x0b\x08\x04dict\x02" 0⟩, ⟨hk p "\x69mport.loaded._collections", .str "\x69mport.loaded._collections" 280, .bool true⟩, ⟨hk p "sys.modules.landed._collections", .str "sys.modules.landed._collections" 294, .bool true⟩, ⟨hk p "\x69mport.later-laid._collections", .str "\x69mport.later-laid._collections" 309, .bool true⟩, ⟨hk p "watched.library-deep._collections", .str "watched.library-deep._collections" 311, .str "\x04\x00\x00\x1d\x04\x00\x00\x1d\x04\x00\x00\x03\x04\x00\x00\x1d\x08\x04dict\x02" 0⟩, ⟨hk p "type.__subclasses__.OSError.0", .str "type.__subclasses__.OSError.0" 492, .int 131 0⟩, ⟨hk p "type.__subclasses__.OSError.n", .str "type.__subclasses__.OSError.n" 493, .int 1 0⟩] 15, #[]⟩
noncomputable def x29 (p : Params) : Obj := ⟨.type "dict", none, .dict #[⟨hk p "__name__", .str "__name__" 165, .str "io" 456⟩, ⟨hk p "__doc__", .str "__doc__" 166, .none⟩, ⟨hk p "__package__", .str "__package__" 167, .none⟩, ⟨hk p "__loader__", .str "__loader__" 168, .builtin "__main__.__loader__#opaque"⟩, ⟨hk p "__spec__", .str "__spec__" 169, .none⟩, ⟨hk p "__annotations__", .str "__annotations__" 170, .ref 6⟩, ⟨hk p "__builtins__", .str "__builtins__" 171, .ref 4⟩, ⟨hk p "__file__", .str "__file__" 173, .str "/claim/cut.py" 172⟩, ⟨hk p "__cached__", .str "__cached__" 174, .none⟩, ⟨hk p "_sre", .str "_sre" 275, .ref 12⟩, ⟨hk p "deque", .str "deque" 317, .type "collections.deque"⟩, ⟨hk p "_wall", .str "_wall" 330, .ref 44⟩, ⟨hk p "heappush", .str "heappush" 340, .ref 51⟩, ⟨hk p "heappop", .str "heappop" 349, .ref 58⟩, ⟨hk p "heapreplace", .str "heapreplace" 358, .ref 65⟩, ⟨hk p "heappushpop", .str "heappushpop" 366, .ref 72⟩, ⟨hk p "_siftdown", .str "_siftdown" 378, .ref 79⟩, ⟨hk p "_siftup", .str "_siftup" 391, .ref 86⟩, ⟨hk p "cmp_to_key", .str "cmp_to_key" 402, .ref 93⟩, ⟨hk p "_initial_missing", .str "_initial_missing" 403, .ref 94⟩, ⟨hk p "reduce", .str "reduce" 415, .ref 102⟩, ⟨hk p "_twin_re_1", .str "_twin_re_1" 455, .ref 107⟩, ⟨hk p "_whence", .str "_whence" 465, .ref 114⟩, ⟨hk p "_index", .str "_index" 473, .ref 121⟩, ⟨hk p "UnsupportedOperation", .str "UnsupportedOperation" 495, .ref 131⟩, ⟨hk p "IOBase", .str "IOBase" 527, .ref 151⟩, ⟨hk p "BufferedIOBase", .str "BufferedIOBase" 545, .ref 166⟩, ⟨hk p "TextIOBase", .str "TextIOBase" 563, .ref 178⟩] 28, #[]⟩
noncomputable def x30 (p : Params) : Obj := ⟨.none, none, .fields #[.int 3 0, .int 0 0, .ref 43, .int 7 0, .int 0 0, .ref 50, .int 10 0, .int 0 0, .ref 57, .int 18 0, .int 0 0, .ref 64, .int 23 0, .int 0 0, .ref 71, .int 28 0, .int 0 0, .ref 78, .int 39 0, .int 0 0, .ref 85, .int 54 0, .int 0 0, .ref 92, .int 80 0, .int 0 0, .ref 101, .int 94 0, .int 0 0, .ref 113, .int 99 0, .int 0 0, .ref 120, .int 106 0, .int 0 0, .ref 127, .int 108 0, .int 0 0, .ref 140, .int 115 0, .int 0 0, .ref 162, .int 117 0, .int 0 0, .ref 174], #[]⟩
noncomputable def x31 (p : Params) : Obj := ⟨.type "tuple", none, .seq #[.str "k" 327] 0, #[]⟩
noncomputable def x32 (p : Params) : Obj := ⟨.none, none, .func ⟨"_wall", "_wall", fA [2], .stmts (fB [2]), fS [2], 0, [], .none, .none, .none, .none, none, .none, .none, 0⟩, #[]⟩
noncomputable def x33 (p : Params) : Obj := ⟨.type "code", none, .fields #[.str "_wall" 324, .str "_wall" 325, .str "/claim/cut.py" 326, .int 3 0, .int 1 0, .int 0 0, .int 0 0, .int 3 0, .ref 38, .bool true, .int 318 0, .ref 39, .none, .ref 40, .ref 41, .ref 42, .int 328 0, .int 3 0, .str "/claim/cut.py" 329], #[]⟩
noncomputable def x34 (p : Params) : Obj := ⟨.type "function", none, .func ⟨"_wall", "_wall", fA [2], .stmts (fB [2]), fS [2], 3, [], .none, .none, .none, .str "__main__" 164, none, .ref 43, .none, 0⟩, #[]⟩
noncomputable def x35 (p : Params) : Obj := ⟨.type "tuple", none, .seq #[.str "heap" 336, .str "item" 337] 0, #[]⟩
noncomputable def x36 (p : Params) : Obj := ⟨.none, none, .func ⟨"heappush", "heappush", fA [4], .stmts (fB [4]), fS [4], 0, [], .none, .none, .none, .none, none, .none, .none, 0⟩, #[]⟩
noncomputable def x37 (p : Params) : Obj := ⟨.type "code", none, .fields #[.str "heappush" 333, .str "heappush" 334, .str "/claim/cut.py" 335, .int 7 0, .int 2 0, .int 0 0, .int 0 0, .int 3 0, .ref 45, .bool true, .int 318 0, .ref 46, .none, .ref 47, .ref 48, .ref 49, .int 338 0, .int 7 0, .str "/claim/cut.py" 339], #[]⟩
noncomputable def x38 (p : Params) : Obj := ⟨.type "function", none, .func ⟨"heappush", "heappush", fA [4], .stmts (fB [4]), fS [4], 3, [], .none, .none, .none, .str "cpy313.heapq" 331, none, .ref 50, .none, 0⟩, #[]⟩
noncomputable def x39 (p : Params) : Obj := ⟨.type "tuple", none, .seq #[.str "heap" 344, .str "lastelt" 345, .str "returnitem" 346] 0, #[]⟩
noncomputable def x40 (p : Params) : Obj := ⟨.none, none, .func ⟨"heappop", "heappop", fA [5], .stmts (fB [5]), fS [5], 0, [], .none, .none, .none, .none, none, .none, .none, 0⟩, #[]⟩
noncomputable def x41 (p : Params) : Obj := ⟨.type "code", none, .fields #[.str "heappop" 341, .str "heappop" 342, .str "/claim/cut.py" 343, .int 10 0, .int 1 0, .int 0 0, .int 0 0, .int 3 0, .ref 52, .bool true, .int 318 0, .ref 53, .none, .ref 54, .ref 55, .ref 56, .int 347 0, .int 10 0, .str "/claim/cut.py" 348], #[]⟩
noncomputable def x42 (p : Params) : Obj := ⟨.type "function", none, .func ⟨"heappop", "heappop", fA [5], .stmts (fB [5]), fS [5], 3, [], .none, .none, .none, .str "cpy313.heapq" 331, none, .ref 57, .none, 0⟩, #[]⟩
noncomputable def x43 (p : Params) : Obj := ⟨.type "tuple", none, .seq #[.str "heap" 353, .str "item" 354, .str "returnitem" 355] 0, #[]⟩
noncomputable def x44 (p : Params) : Obj := ⟨.none, none, .func ⟨"heapreplace", "heapreplace", fA [6], .stmts (fB [6]), fS [6], 0, [], .none, .none, .none, .none, none, .none, .none, 0⟩, #[]⟩
noncomputable def x45 (p : Params) : Obj := ⟨.type "code", none, .fields #[.str "heapreplace" 350, .str "heapreplace" 351, .str "/claim/cut.py" 352, .int 18 0, .int 2 0, .int 0 0, .int 0 0, .int 3 0, .ref 59, .bool true, .int 318 0, .ref 60, .none, .ref 61, .ref 62, .ref 63, .int 356 0, .int 18 0, .str "/claim/cut.py" 357], #[]⟩
noncomputable def x46 (p : Params) : Obj := ⟨.type "function", none, .func ⟨"heapreplace", "heapreplace", fA [6], .stmts (fB [6]), fS [6], 3, [], .none, .none, .none, .str "cpy313.heapq" 331, none, .ref 64, .none, 0⟩, #[]⟩
noncomputable def x47 (p : Params) : Obj := ⟨.type "tuple", none, .seq #[.str "heap" 362, .str "item" 363] 0, #[]⟩
noncomputable def x48 (p : Params) : Obj := ⟨.none, none, .func ⟨"heappushpop", "heappushpop", fA [7], .stmts (fB [7]), fS [7], 0, [], .none, .none, .none, .none, none, .none, .none, 0⟩, #[]⟩
noncomputable def x49 (p : Params) : Obj := ⟨.type "code", none, .fields #[.str "heappushpop" 359, .str "heappushpop" 360, .str "/claim/cut.py" 361, .int 23 0, .int 2 0, .int 0 0, .int 0 0, .int 3 0, .ref 66, .bool true, .int 318 0, .ref 67, .none, .ref 68, .ref 69, .ref 70, .int 364 0, .int 23 0, .str "/claim/cut.py" 365], #[]⟩
noncomputable def x50 (p : Params) : Obj := ⟨.type "function", none, .func ⟨"heappushpop", "heappushpop", fA [7], .stmts (fB [7]), fS [7], 3, [], .none, .none, .none, .str "cpy313.heapq" 331, none, .ref 71, .none, 0⟩, #[]⟩
noncomputable def x51 (p : Params) : Obj := ⟨.type "tuple", none, .seq #[.str "heap" 370, .str "startpos" 371, .str "pos" 372, .str "newitem" 373, .str "parentpos" 374, .str "parent" 375] 0, #[]⟩
noncomputable def x52 (p : Params) : Obj := ⟨.none, none, .func ⟨"_siftdown", "_siftdown", fA [8], .stmts (fB [8]), fS [8], 0, [], .none, .none, .none, .none, none, .none, .none, 0⟩, #[]⟩
noncomputable def x53 (p : Params) : Obj := ⟨.type "code", none, .fields #[.str "_siftdown" 367, .str "_siftdown" 368, .str "/claim/cut.py" 369, .int 28 0, .int 3 0, .int 0 0, .int 0 0, .int 3 0, .ref 73, .bool true, .int 318 0, .ref 74, .none, .ref 75, .ref 76, .ref 77, .int 376 0, .int 28 0, .str "/claim/cut.py" 377], #[]⟩
noncomputable def x54 (p : Params) : Obj := ⟨.type "function", none, .func ⟨"_siftdown", "_siftdown", fA [8], .stmts (fB [8]), fS [8], 3, [], .none, .none, .none, .str "cpy313.heapq" 331, none, .ref 78, .none, 0⟩, #[]⟩
noncomputable def x55 (p : Params) : Obj := ⟨.type "tuple", none, .seq #[.str "heap" 382, .str "pos" 383, .str "endpos" 384, .str "startpos" 385, .str "newitem" 386, .str "childpos" 387, .str "rightpos" 388] 0, #[]⟩
noncomputable def x56 (p : Params) : Obj := ⟨.none, none, .func ⟨"_siftup", "_siftup", fA [9], .stmts (fB [9]), fS [9], 0, [], .none, .none, .none, .none, none, .none, .none, 0⟩, #[]⟩
noncomputable def x57 (p : Params) : Obj := ⟨.type "code", none, .fields #[.str "_siftup" 379, .str "_siftup" 380, .str "/claim/cut.py" 381, .int 39 0, .int 2 0, .int 0 0, .int 0 0, .int 3 0, .ref 80, .bool true, .int 318 0, .ref 81, .none, .ref 82, .ref 83, .ref 84, .int 389 0, .int 39 0, .str "/claim/cut.py" 390], #[]⟩
noncomputable def x58 (p : Params) : Obj := ⟨.type "function", none, .func ⟨"_siftup", "_siftup", fA [9], .stmts (fB [9]), fS [9], 3, [], .none, .none, .none, .str "cpy313.heapq" 331, none, .ref 85, .none, 0⟩, #[]⟩
noncomputable def x59 (p : Params) : Obj := ⟨.type "tuple", none, .seq #[.str "mycmp" 397, .str "K" 398] 0, #[]⟩
noncomputable def x60 (p : Params) : Obj := ⟨.type "tuple", none, .seq #[.str "mycmp" 399] 0, #[]⟩
noncomputable def x61 (p : Params) : Obj := ⟨.none, none, .func ⟨"cmp_to_key", "cmp_to_key", fA [11], .stmts (fB [11]), fS [11], 0, [], .none, .none, .none, .none, none, .none, .none, 0⟩, #[]⟩
noncomputable def x62 (p : Params) : Obj := ⟨.type "code", none, .fields #[.str "cmp_to_key" 394, .str "cmp_to_key" 395, .str "/claim/cut.py" 396, .int 54 0, .int 1 0, .int 0 0, .int 0 0, .int 3 0, .ref 87, .bool true, .int 318 0, .ref 88, .none, .ref 89, .ref 90, .ref 91, .int 400 0, .int 54 0, .str "/claim/cut.py" 401], #[]⟩
noncomputable def x63 (p : Params) : Obj := ⟨.type "function", none, .func ⟨"cmp_to_key", "cmp_to_key", fA [11], .stmts (fB [11]), fS [11], 3, [], .none, .none, .none, .str "cpy313.functools" 392, none, .ref 92, .none, 0⟩, #[]⟩
noncomputable def x64 (p : Params) : Obj := ⟨.type "object", none, .plain, #[]⟩
noncomputable def x65 (p : Params) : Obj := ⟨.type "tuple", none, .seq #[.ref 94] 0, #[]⟩
noncomputable def x66 (p : Params) : Obj := ⟨.type "tuple", none, .seq #[.str "function" 407, .str "sequence" 408, .str "initial" 409, .str "it" 410, .str "value" 411, .str "element" 412] 0, #[]⟩
noncomputable def x67 (p : Params) : Obj := ⟨.none, none, .func ⟨"reduce", "reduce", fA [13], .stmts (fB [13]), fS [13], 0, [], .none, .none, .none, .none, none, .none, .none, 0⟩, #[]⟩
noncomputable def x68 (p : Params) : Obj := ⟨.type "code", none, .fields #[.str "reduce" 404, .str "reduce" 405, .str "/claim/cut.py" 406, .int 80 0, .int 3 0, .int 0 0, .int 0 0, .int 3 0, .ref 96, .bool true, .int 318 0, .ref 97, .none, .ref 98, .ref 99, .ref 100, .int 413 0, .int 80 0, .str "/claim/cut.py" 414], #[]⟩
noncomputable def x69 (p : Params) : Obj := ⟨.type "function", none, .func ⟨"reduce", "reduce", fA [13], .stmts (fB [13]), fS [13], 3, [], .ref 95, .none, .none, .str "cpy313.functools" 392, none, .ref 101, .none, 0⟩, #[]⟩
noncomputable def x70 (p : Params) : Obj := ⟨.type "list", none, .seq #[.int 14 419, .int 17 420, .int 4 421, .int 1 422, .int 1 423, .int 21 424, .int 9 425, .int 0 426, .int 604043296 427, .int 1 428, .int 0 429, .int 0 430, .int 0 431, .int 0 432, .int 0 433, .int 8 434, .int 4 435, .int 0 436, .int 13 437, .int 14 438, .int 21 439, .int 9 440, .int 0 441, .int 604043296 442, .int 1 443, .int 0 444, .int 0 445, .int 0 446, .int 0 447, .int 0 448, .int 8 449, .int 4 450, .int 0 451, .int 1 452] 0, #[]⟩
noncomputable def x71 (p : Params) : Obj := ⟨.type "tuple", none, .seq #[.none] 0, #[]⟩
noncomputable def x72 (p : Params) : Obj := ⟨.type "tuple", none, .seq #[.int 14 0, .int 17 0, .int 4 0, .int 1 0, .int 1 0, .int 21 0, .int 9 0, .int 0 0, .int 604043296 0, .int 1 0, .int 0 0, .int 0 0, .int 0 0, .int 0 0, .int 0 0, .int 8 0, .int 4 0, .int 0 0, .int 13 0, .int 14 0, .int 21 0, .int 9 0, .int 0 0, .int 604043296 0, .int 1 0, .int 0 0, .int 0 0, .int 0 0, .int 0 0, .int 0 0, .int 8 0, .int 4 0, .int 0 0, .int 1 0] 0, #[]⟩
noncomputable def x73 (p : Params) : Obj := ⟨.type "re.Pattern", none, .fields #[.str "[^\\w@%+=:,./-]" 417, .int 256 454, .int 0 0, .none, .none, .ref 106, .int 0 0], #[]⟩
noncomputable def x74 (p : Params) : Obj := ⟨.type "tuple", none, .seq #[.str "n" 461, .str "what" 462] 0, #[]⟩
noncomputable def x75 (p : Params) : Obj := ⟨.none, none, .func ⟨"_whence", "_whence", fA [16], .stmts (fB [16]), fS [16], 0, [], .none, .none, .none, .none, none, .none, .none, 0⟩, #[]⟩
noncomputable def x76 (p : Params) : Obj := ⟨.type "code", none, .fields #[.str "_whence" 458, .str "_whence" 459, .str "/claim/cut.py" 460, .int 94 0, .int 2 0, .int 0 0, .int 0 0, .int 3 0, .ref 108, .bool true, .int 318 0, .ref 109, .none, .ref 110, .ref 111, .ref 112, .int 463 0, .int 94 0, .str "/claim/cut.py" 464], #[]⟩
noncomputable def x77 (p : Params) : Obj := ⟨.type "function", none, .func ⟨"_whence", "_whence", fA [16], .stmts (fB [16]), fS [16], 3, [], .none, .none, .none, .str "io" 456, none, .ref 113, .none, 0⟩, #[]⟩
noncomputable def x78 (p : Params) : Obj := ⟨.type "tuple", none, .seq #[.str "n" 469, .str "what" 470] 0, #[]⟩
noncomputable def x79 (p : Params) : Obj := ⟨.none, none, .func ⟨"_index", "_index", fA [17], .stmts (fB [17]), fS [17], 0, [], .none, .none, .none, .none, none, .none, .none, 0⟩, #[]⟩
noncomputable def x80 (p : Params) : Obj := ⟨.type "code", none, .fields #[.str "_index" 466, .str "_index" 467, .str "/claim/cut.py" 468, .int 99 0, .int 2 0, .int 0 0, .int 0 0, .int 3 0, .ref 115, .bool true, .int 318 0, .ref 116, .none, .ref 117, .ref 118, .ref 119, .int 471 0, .int 99 0, .str "/claim/cut.py" 472], #[]⟩
noncomputable def x81 (p : Params) : Obj := ⟨.type "function", none, .func ⟨"_index", "_index", fA [17], .stmts (fB [17]), fS [17], 3, [], .none, .none, .none, .str "io" 456, none, .ref 120, .none, 0⟩, #[]⟩
noncomputable def x82 (p : Params) : Obj := ⟨.type "tuple", none, .seq #[.type "OSError", .type "ValueError"] 0, #[]⟩
noncomputable def x83 (p : Params) : Obj := ⟨.type "builtin_function_or_method", none, .fields #[.builtin "type.__prepare__", .type "type"], #[]⟩
noncomputable def x84 (p : Params) : Obj := ⟨.type "dict", none, .dict #[⟨hk p "__module__", .str "__module__" 481, .str "io" 486⟩, ⟨hk p "__qualname__", .str "__qualname__" 483, .str "UnsupportedOperation" 482⟩, ⟨hk p "__firstlineno__", .str "__firstlineno__" 485, .int 106 484⟩, ⟨hk p "__static_attributes__", .str "__static_attributes__" 488, .ref 129⟩] 4, #[]⟩
noncomputable def x85 (p : Params) : Obj := ⟨.type "code", none, .fields #[.str "UnsupportedOperation" 476, .str "UnsupportedOperation" 477, .str "/claim/cut.py" 478, .int 106 0, .int 0 0, .int 0 0, .int 0 0, .int 0 0, .ref 125, .bool false, .int 318 0, .ref 126, .none, .none, .none, .none, .int 479 0, .int 106 0, .str "/claim/cut.py" 480], #[]⟩
noncomputable def x86 (p : Params) : Obj := ⟨.type "frame", none, .plain, #[some (.ref 127), some (.ref 3), some (.ref 124), none, some (.str "io" 456), none, some (.ref 0)]⟩
noncomputable def x87 (p : Params) : Obj := ⟨.type "dict", none, .dict #[⟨hk p "__module__", .str "__module__" 481, .str "io" 486⟩, ⟨hk p "__firstlineno__", .str "__firstlineno__" 485, .int 106 484⟩, ⟨hk p "__static_attributes__", .str "__static_attributes__" 488, .ref 129⟩, ⟨hk p "__weakref__", .str "__weakref__" 490, .ref 132⟩, ⟨hk p "__doc__", .str "__doc__" 491, .none⟩] 3, #[]⟩
noncomputable def x88 (p : Params) : Obj := ⟨.type "type", none, .cls ⟨"UnsupportedOperation", [.type "OSError", .type "ValueError"], [.ref 131, .type "OSError", .type "ValueError", .type "Exception", .type "BaseException", .type "object"], 130, "UnsupportedOperation", true, [], [], false, none, false⟩, #[some (.ref 122), none, some (.str "UnsupportedOperation" 474), some (.str "UnsupportedOperation" 482), some (.builtin "OSError.__new__"), some (.bool true)]⟩
noncomputable def x89 (p : Params) : Obj := ⟨.type "getset_descriptor", none, .fields #[.str "__weakref__" 489, .ref 131, .builtin "ExceptionGroup.__weakref__", .none], #[]⟩
noncomputable def x90 (p : Params) : Obj := ⟨.type "super", none, .fields #[.ref 131, .ref 131, .ref 131], #[]⟩
noncomputable def x91 (p : Params) : Obj := ⟨.type "builtin_function_or_method", none, .fields #[.builtin "object.__init_subclass__", .ref 131], #[]⟩
noncomputable def x92 (p : Params) : Obj := ⟨.type "dict", none, .dict #[⟨hk p "__module__", .str "__module__" 503, .str "io" 508⟩, ⟨hk p "__qualname__", .str "__qualname__" 505, .str "IOBase" 504⟩, ⟨hk p "__firstlineno__", .str "__firstlineno__" 507, .int 108 506⟩, ⟨hk p "__new__", .str "__new__" 518, .ref 148⟩, ⟨hk p "__static_attributes__", .str "__static_attributes__" 519, .ref 149⟩] 5, #[]⟩
noncomputable def x93 (p : Params) : Obj := ⟨.none, none, .fields #[.int 111 0, .int 4 0, .ref 147], #[]⟩
noncomputable def x94 (p : Params) : Obj := ⟨.type "code", none, .fields #[.str "IOBase" 498, .str "IOBase" 499, .str "/claim/cut.py" 500, .int 108 0, .int 0 0, .int 0 0, .int 0 0, .int 0 0, .ref 138, .bool false, .int 318 0, .ref 139, .none, .none, .none, .none, .int 501 0, .int 108 0, .str "/claim/cut.py" 502], #[]⟩
noncomputable def x95 (p : Params) : Obj := ⟨.type "frame", none, .plain, #[some (.ref 140), some (.ref 3), some (.ref 137), none, some (.str "io" 456), none, some (.ref 0)]⟩
noncomputable def x96 (p : Params) : Obj := ⟨.type "tuple", none, .seq #[.str "cls" 513, .str "args" 514, .str "kwargs" 515] 0, #[]⟩
noncomputable def x97 (p : Params) : Obj := ⟨.none, none, .func ⟨"__new__", "IOBase.__new__", fA [19, 1], .stmts (fB [19, 1]), fS [19, 1], 0, [], .none, .none, .none, .none, none, .none, .none, 0⟩, #[]⟩
noncomputable def x98 (p : Params) : Obj := ⟨.type "code", none, .fields #[.str "__new__" 510, .str "IOBase.__new__" 511, .str "/claim/cut.py" 512, .int 111 0, .int 1 0, .int 1 0, .int 0 0, .int 15 0, .ref 142, .bool true, .int 318 0, .ref 143, .none, .ref 144, .ref 145, .ref 146, .int 516 0, .int 111 0, .str "/claim/cut.py" 517], #[]⟩
noncomputable def x99 (p : Params) : Obj := ⟨.type "function", none, .func ⟨"__new__", "IOBase.__new__", fA [19, 1], .stmts (fB [19, 1]), fS [19, 1], 3, [], .none, .none, .none, .str "io" 456, none, .ref 147, .none, 0⟩, #[]⟩
noncomputable def x100 (p : Params) : Obj := ⟨.type "dict", none, .dict #[⟨hk p "__module__", .str "__module__" 503, .str "io" 508⟩, ⟨hk p "__firstlineno__", .str "__firstlineno__" 507, .int 108 506⟩, ⟨hk p "__new__", .str "__new__" 518, .ref 152⟩, ⟨hk p "__static_attributes__", .str "__static_attributes__" 519, .ref 149⟩, ⟨hk p "__dict__", .str "__dict__" 522, .ref 153⟩, ⟨hk p "__weakref__", .str "__weakref__" 524, .ref 154⟩, ⟨hk p "__doc__", .str "__doc__" 525, .none⟩] 4, #[]⟩
noncomputable def x101 (p : Params) : Obj := ⟨.type "type", none, .cls ⟨"IOBase", [.type "object"], [.ref 151, .type "object"], 150, "IOBase", true, [], [.ref 166, .ref 178], false, none, false⟩, #[none, none, some (.str "IOBase" 496), some (.str "IOBase" 504), some .none, some (.bool true)]⟩
noncomputable def x102 (p : Params) : Obj := ⟨.type "staticmethod", none, .fields #[.ref 148], #[]⟩
noncomputable def x103 (p : Params) : Obj := ⟨.type "getset_descriptor", none, .fields #[.str "__dict__" 521, .ref 151, .builtin "function.__dict__", .builtin "function.__dict__#set"], #[]⟩
noncomputable def x104 (p : Params) : Obj := ⟨.type "getset_descriptor", none, .fields #[.str "__weakref__" 523, .ref 151, .builtin "ExceptionGroup.__weakref__", .none], #[]⟩
noncomputable def x105 (p : Params) : Obj := ⟨.type "super", none, .fields #[.ref 151, .ref 151, .ref 151], #[]⟩
noncomputable def x106 (p : Params) : Obj := ⟨.type "builtin_function_or_method", none, .fields #[.builtin "object.__init_subclass__", .ref 151], #[]⟩
noncomputable def x107 (p : Params) : Obj := ⟨.type "tuple", none, .seq #[.ref 151] 0, #[]⟩
noncomputable def x108 (p : Params) : Obj := ⟨.type "dict", none, .dict #[⟨hk p "__module__", .str "__module__" 535, .str "io" 540⟩, ⟨hk p "__qualname__", .str "__qualname__" 537, .str "BufferedIOBase" 536⟩, ⟨hk p "__firstlineno__", .str "__firstlineno__" 539, .int 115 538⟩, ⟨hk p "__static_attributes__", .str "__static_attributes__" 542, .ref 164⟩] 4, #[]⟩
noncomputable def x109 (p : Params) : Obj := ⟨.type "code", none, .fields #[.str "BufferedIOBase" 530, .str "BufferedIOBase" 531, .str "/claim/cut.py" 532, .int 115 0, .int 0 0, .int 0 0, .int 0 0, .int 0 0, .ref 160, .bool false, .int 318 0, .ref 161, .none, .none, .none, .none, .int 533 0, .int 115 0, .str "/claim/cut.py" 534], #[]⟩
noncomputable def x110 (p : Params) : Obj := ⟨.type "frame", none, .plain, #[some (.ref 162), some (.ref 3), some (.ref 159), none, some (.str "io" 456), none, some (.ref 0)]⟩
noncomputable def x111 (p : Params) : Obj := ⟨.type "dict", none, .dict #[⟨hk p "__module__", .str "__module__" 535, .str "io" 540⟩, ⟨hk p "__firstlineno__", .str "__firstlineno__" 539, .int 115 538⟩, ⟨hk p "__static_attributes__", .str "__static_attributes__" 542, .ref 164⟩, ⟨hk p "__doc__", .str "__doc__" 543, .none⟩] 2, #[]⟩
noncomputable def x112 (p : Params) : Obj := ⟨.type "type", none, .cls ⟨"BufferedIOBase", [.ref 151], [.ref 166, .ref 151, .type "object"], 165, "BufferedIOBase", true, [], [], false, none, false⟩, #[some (.ref 157), none, some (.str "BufferedIOBase" 528), some (.str "BufferedIOBase" 536), some .none, some (.bool true)]⟩
noncomputable def x113 (p : Params) : Obj := ⟨.type "super", none, .fields #[.ref 166, .ref 166, .ref 166], #[]⟩
noncomputable def x114 (p : Params) : Obj := ⟨.type "builtin_function_or_method", none, .fields #[.builtin "object.__init_subclass__", .ref 166], #[]⟩
noncomputable def x115 (p : Params) : Obj := ⟨.type "dict", none, .dict #[⟨hk p "__module__", .str "__module__" 553, .str "io" 558⟩, ⟨hk p "__qualname__", .str "__qualname__" 555, .str "TextIOBase" 554⟩, ⟨hk p "__firstlineno__", .str "__firstlineno__" 557, .int 117 556⟩, ⟨hk p "__static_attributes__", .str "__static_attributes__" 560, .ref 176⟩] 4, #[]⟩
noncomputable def x116 (p : Params) : Obj := ⟨.type "code", none, .fields #[.str "TextIOBase" 548, .str "TextIOBase" 549, .str "/claim/cut.py" 550, .int 117 0, .int 0 0, .int 0 0, .int 0 0, .int 0 0, .ref 172, .bool false, .int 318 0, .ref 173, .none, .none, .none, .none, .int 551 0, .int 117 0, .str "/claim/cut.py" 552], #[]⟩
noncomputable def x117 (p : Params) : Obj := ⟨.type "frame", none, .plain, #[some (.ref 174), some (.ref 3), some (.ref 171), none, some (.str "io" 456), none, some (.ref 0)]⟩
noncomputable def x118 (p : Params) : Obj := ⟨.type "dict", none, .dict #[⟨hk p "__module__", .str "__module__" 553, .str "io" 558⟩, ⟨hk p "__firstlineno__", .str "__firstlineno__" 557, .int 117 556⟩, ⟨hk p "__static_attributes__", .str "__static_attributes__" 560, .ref 176⟩, ⟨hk p "__doc__", .str "__doc__" 561, .none⟩] 2, #[]⟩
noncomputable def x119 (p : Params) : Obj := ⟨.type "type", none, .cls ⟨"TextIOBase", [.ref 151], [.ref 178, .ref 151, .type "object"], 177, "TextIOBase", true, [], [], false, none, false⟩, #[some (.ref 169), none, some (.str "TextIOBase" 546), some (.str "TextIOBase" 554), some .none, some (.bool true)]⟩
noncomputable def x120 (p : Params) : Obj := ⟨.type "super", none, .fields #[.ref 178, .ref 178, .ref 178], #[]⟩
noncomputable def x121 (p : Params) : Obj := ⟨.type "builtin_function_or_method", none, .fields #[.builtin "object.__init_subclass__", .ref 178], #[]⟩
noncomputable def x122 (p : Params) : Obj := ⟨.type "dict", none, .dict #[⟨hk p "__name__", .str "__name__" 165, .str "io" 456⟩, ⟨hk p "__doc__", .str "__doc__" 166, .none⟩, ⟨hk p "__package__", .str "__package__" 167, .none⟩, ⟨hk p "__loader__", .str "__loader__" 168, .builtin "__main__.__loader__#opaque"⟩, ⟨hk p "__spec__", .str "__spec__" 169, .none⟩, ⟨hk p "__annotations__", .str "__annotations__" 170, .ref 6⟩, ⟨hk p "__builtins__", .str "__builtins__" 171, .ref 4⟩, ⟨hk p "__file__", .str "__file__" 173, .str "/claim/cut.py" 172⟩, ⟨hk p "__cached__", .str "__cached__" 174, .none⟩, ⟨hk p "_sre", .str "_sre" 275, .ref 12⟩, ⟨hk p "deque", .str "deque" 317, .type "collections.deque"⟩, ⟨hk p "_wall", .str "_wall" 330, .ref 44⟩, ⟨hk p "heappush", .str "heappush" 340, .ref 51⟩, ⟨hk p "heappop", .str "heappop" 349, .ref 58⟩, ⟨hk p "heapreplace", .str "heapreplace" 358, .ref 65⟩, ⟨hk p "heappushpop", .str "heappushpop" 366, .ref 72⟩, ⟨hk p "_siftdown", .str "_siftdown" 378, .ref 79⟩, ⟨hk p "_siftup", .str "_siftup" 391, .ref 86⟩, ⟨hk p "cmp_to_key", .str "cmp_to_key" 402, .ref 93⟩, ⟨hk p "_initial_missing", .str "_initial_missing" 403, .ref 94⟩, ⟨hk p "reduce", .str "reduce" 415, .ref 102⟩, ⟨hk p "_twin_re_1", .str "_twin_re_1" 455, .ref 107⟩, ⟨hk p "_whence", .str "_whence" 465, .ref 114⟩, ⟨hk p "_index", .str "_index" 473, .ref 121⟩, ⟨hk p "UnsupportedOperation", .str "UnsupportedOperation" 495, .ref 131⟩, ⟨hk p "IOBase", .str "IOBase" 527, .ref 151⟩, ⟨hk p "BufferedIOBase", .str "BufferedIOBase" 545, .ref 166⟩, ⟨hk p "TextIOBase", .str "TextIOBase" 563, .ref 178⟩, ⟨hk p "BytesIO", .str "BytesIO" 825, .ref 408⟩] 29, #[]⟩
noncomputable def x123 (p : Params) : Obj := ⟨.none, none, .fields #[.int 3 0, .int 0 0, .ref 43, .int 7 0, .int 0 0, .ref 50, .int 10 0, .int 0 0, .ref 57, .int 18 0, .int 0 0, .ref 64, .int 23 0, .int 0 0, .ref 71, .int 28 0, .int 0 0, .ref 78, .int 39 0, .int 0 0, .ref 85, .int 54 0, .int 0 0, .ref 92, .int 80 0, .int 0 0, .ref 101, .int 94 0, .int 0 0, .ref 113, .int 99 0, .int 0 0, .ref 120, .int 106 0, .int 0 0, .ref 127, .int 108 0, .int 0 0, .ref 140, .int 115 0, .int 0 0, .ref 162, .int 117 0, .int 0 0, .ref 174, .int 119 0, .int 0 0, .ref 186], #[]⟩
noncomputable def x124 (p : Params) : Obj := ⟨.type "type", none, .cls ⟨"BufferedIOBase", [.ref 151], [.ref 166, .ref 151, .type "object"], 165, "BufferedIOBase", true, [], [.ref 408], false, none, false⟩, #[some (.ref 157), none, some (.str "BufferedIOBase" 528), some (.str "BufferedIOBase" 536), some .none, some (.bool true)]⟩
noncomputable def x125 (p : Params) : Obj := ⟨.type "tuple", none, .seq #[.ref 166] 0, #[]⟩
noncomputable def x126 (p : Params) : Obj := ⟨.type "dict", none, .dict #[⟨hk p "__module__", .str "__module__" 571, .str "_io" 576⟩, ⟨hk p "__qualname__", .str "__qualname__" 573, .str "BytesIO" 572⟩, ⟨hk p "__firstlineno__", .str "__firstlineno__" 575, .int 119 574⟩, ⟨hk p "__init__", .str "__init__" 585, .ref 195⟩, ⟨hk p "_BytesIO__check", .str "_BytesIO__check" 592, .ref 202⟩, ⟨hk p "_BytesIO__line", .str "_BytesIO__line" 603, .ref 209⟩, ⟨hk p "closed", .str "closed" 611, .ref 217⟩, ⟨hk p "close", .str "close" 618, .ref 224⟩, ⟨hk p "__enter__", .str "__enter__" 625, .ref 231⟩, ⟨hk p "__exit__", .str "__exit__" 633, .ref 238⟩, ⟨hk p "readable", .str "readable" 640, .ref 245⟩, ⟨hk p "writable", .str "writable" 647, .ref 252⟩, ⟨hk p "seekable", .str "seekable" 654, .ref 259⟩, ⟨hk p "isatty", .str "isatty" 661, .ref 266⟩, ⟨hk p "flush", .str "flush" 668, .ref 273⟩, ⟨hk p "fileno", .str "fileno" 675, .ref 280⟩, ⟨hk p "detach", .str "detach" 682, .ref 287⟩, ⟨hk p "getvalue", .str "getvalue" 689, .ref 294⟩, ⟨hk p "getbuffer", .str "getbuffer" 696, .ref 301⟩, ⟨hk p "tell", .str "tell" 703, .ref 308⟩, ⟨hk p "seek", .str "seek" 713, .ref 316⟩, ⟨hk p "truncate", .str "truncate" 721, .ref 324⟩, ⟨hk p "read", .str "read" 733, .ref 332⟩, ⟨hk p "read1", .str "read1" 743, .ref 340⟩, ⟨hk p "readinto", .str "readinto" 753, .ref 347⟩, ⟨hk p "readinto1", .str "readinto1" 761, .ref 354⟩, ⟨hk p "readline", .str "readline" 771, .ref 362⟩, ⟨hk p "readlines", .str "readlines" 779, .ref 370⟩, ⟨hk p "__iter__", .str "__iter__" 786, .ref 377⟩, ⟨hk p "__next__", .str "__next__" 794, .ref 384⟩, ⟨hk p "write", .str "write" 804, .ref 391⟩, ⟨hk p "writelines", .str "writelines" 812, .ref 398⟩, ⟨hk p "__repr__", .str "__repr__" 819, .ref 405⟩, ⟨hk p "__static_attributes__", .str "__static_attributes__" 822, .ref 406⟩] 34, #[]⟩
noncomputable def x127 (p : Params) : Obj := ⟨.none, none, .fields #[.int 122 0, .int 4 0, .ref 194, .int 128 0, .int 4 0, .ref 201, .int 132 0, .int 4 0, .ref 208, .int 146 0, .int 4 0, .ref 215, .int 149 0, .int 4 0, .ref 223, .int 152 0, .int 4 0, .ref 230, .int 156 0, .int 4 0, .ref 237, .int 159 0, .int 4 0, .ref 244, .int 163 0, .int 4 0, .ref 251, .int 167 0, .int 4 0, .ref 258, .int 171 0, .int 4 0, .ref 265, .int 175 0, .int 4 0, .ref 272, .int 178 0, .int 4 0, .ref 279, .int 181 0, .int 4 0, .ref 286, .int 184 0, .int 4 0, .ref 293, .int 187 0, .int 4 0, .ref 300, .int 190 0, .int 4 0, .ref 307, .int 194 0, .int 4 0, .ref 315, .int 211 0, .int 4 0, .ref 323, .int 214 0, .int 4 0, .ref 331, .int 228 0, .int 4 0, .ref 339, .int 231 0, .int 4 0, .ref 346, .int 245 0, .int 4 0, .ref 353, .int 248 0, .int 4 0, .ref 361, .int 255 0, .int 4 0, .ref 369, .int 258 0, .int 4 0, .ref 376, .int 261 0, .int 4 0, .ref 383, .int 268 0, .int 4 0, .ref 390, .int 284 0, .int 4 0, .ref 397, .int 287 0, .int 4 0, .ref 404], #[]⟩
noncomputable def x128 (p : Params) : Obj := ⟨.type "code", none, .fields #[.str "BytesIO" 566, .str "BytesIO" 567, .str "/claim/cut.py" 568, .int 119 0, .int 0 0, .int 0 0, .int 0 0, .int 0 0, .ref 184, .bool false, .int 318 0, .ref 185, .none, .none, .none, .none, .int 569 0, .int 119 0, .str "/claim/cut.py" 570], #[]⟩
noncomputable def x129 (p : Params) : Obj := ⟨.type "frame", none, .plain, #[some (.ref 186), some (.ref 3), some (.ref 183), none, some (.str "io" 456), none, some (.ref 0)]⟩
noncomputable def x130 (p : Params) : Obj := ⟨.type "tuple", none, .seq #[.str "self" 581, .str "initial_bytes" 582] 0, #[]⟩
noncomputable def x131 (p : Params) : Obj := ⟨.none, none, .func ⟨"__init__", "BytesIO.__init__", fA [22, 1], .stmts (fB [22, 1]), fS [22, 1], 0, [], .none, .none, .none, .none, none, .none, .none, 0⟩, #[]⟩
noncomputable def x132 (p : Params) : Obj := ⟨.type "code", none, .fields #[.str "__init__" 578, .str "BytesIO.__init__" 579, .str "/claim/cut.py" 580, .int 122 0, .int 2 0, .int 0 0, .int 0 0, .int 3 0, .ref 189, .bool true, .int 318 0, .ref 190, .none, .ref 191, .ref 192, .ref 193, .int 583 0, .int 122 0, .str "/claim/cut.py" 584], #[]⟩
noncomputable def x133 (p : Params) : Obj := ⟨.type "function", none, .func ⟨"__init__", "BytesIO.__init__", fA [22, 1], .stmts (fB [22, 1]), fS [22, 1], 3, [], .ref 188, .none, .none, .str "io" 456, none, .ref 194, .none, 0⟩, #[]⟩
noncomputable def x134 (p : Params) : Obj := ⟨.type "tuple", none, .seq #[.str "self" 589] 0, #[]⟩
noncomputable def x135 (p : Params) : Obj := ⟨.none, none, .func ⟨"__check", "BytesIO.__check", fA [22, 2], .stmts (fB [22, 2]), fS [22, 2], 0, [], .none, .none, .none, .none, none, .none, .none, 0⟩, #[]⟩
noncomputable def x136 (p : Params) : Obj := ⟨.type "code", none, .fields #[.str "__check" 586, .str "BytesIO.__check" 587, .str "/claim/cut.py" 588, .int 128 0, .int 1 0, .int 0 0, .int 0 0, .int 3 0, .ref 196, .bool true, .int 318 0, .ref 197, .none, .ref 198, .ref 199, .ref 200, .int 590 0, .int 128 0, .str "/claim/cut.py" 591], #[]⟩
noncomputable def x137 (p : Params) : Obj := ⟨.type "function", none, .func ⟨"__check", "BytesIO.__check", fA [22, 2], .stmts (fB [22, 2]), fS [22, 2], 3, [], .none, .none, .none, .str "io" 456, none, .ref 201, .none, 0⟩, #[]⟩
noncomputable def x138 (p : Params) : Obj := ⟨.type "tuple", none, .seq #[.str "self" 596, .str "limit" 597, .str "start" 598, .str "stop" 599, .str "i" 600] 0, #[]⟩
noncomputable def x139 (p : Params) : Obj := ⟨.none, none, .func ⟨"__line", "BytesIO.__line", fA [22, 3], .stmts (fB [22, 3]), fS [22, 3], 0, [], .none, .none, .none, .none, none, .none, .none, 0⟩, #[]⟩
noncomputable def x140 (p : Params) : Obj := ⟨.type "code", none, .fields #[.str "__line" 593, .str "BytesIO.__line" 594, .str "/claim/cut.py" 595, .int 132 0, .int 2 0, .int 0 0, .int 0 0, .int 3 0, .ref 203, .bool true, .int 318 0, .ref 204, .none, .ref 205, .ref 206, .ref 207, .int 601 0, .int 132 0, .str "/claim/cut.py" 602], #[]⟩
noncomputable def x141 (p : Params) : Obj := ⟨.type "function", none, .func ⟨"__line", "BytesIO.__line", fA [22, 3], .stmts (fB [22, 3]), fS [22, 3], 3, [], .none, .none, .none, .str "io" 456, none, .ref 208, .none, 0⟩, #[]⟩
noncomputable def x142 (p : Params) : Obj := ⟨.type "tuple", none, .seq #[.str "self" 607] 0, #[]⟩
noncomputable def x143 (p : Params) : Obj := ⟨.none, none, .func ⟨"closed", "BytesIO.closed", fA [22, 4], .stmts (fB [22, 4]), fS [22, 4], 0, [], .none, .none, .none, .none, none, .none, .none, 0⟩, #[]⟩
noncomputable def x144 (p : Params) : Obj := ⟨.type "code", none, .fields #[.str "closed" 604, .str "BytesIO.closed" 605, .str "/claim/cut.py" 606, .int 145 0, .int 1 0, .int 0 0, .int 0 0, .int 3 0, .ref 210, .bool true, .int 318 0, .ref 211, .none, .ref 212, .ref 213, .ref 214, .int 608 0, .int 145 0, .str "/claim/cut.py" 609], #[]⟩
noncomputable def x145 (p : Params) : Obj := ⟨.type "function", none, .func ⟨"closed", "BytesIO.closed", fA [22, 4], .stmts (fB [22, 4]), fS [22, 4], 3, [], .none, .none, .none, .str "io" 456, none, .ref 215, .none, 0⟩, #[]⟩
noncomputable def x146 (p : Params) : Obj := ⟨.type "property", none, .fields #[.ref 216, .none, .none, .none, .str "closed" 611, .bool false], #[]⟩
noncomputable def x147 (p : Params) : Obj := ⟨.type "tuple", none, .seq #[.str "self" 615] 0, #[]⟩
noncomputable def x148 (p : Params) : Obj := ⟨.none, none, .func ⟨"close", "BytesIO.close", fA [22, 5], .stmts (fB [22, 5]), fS [22, 4], 0, [], .none, .none, .none, .none, none, .none, .none, 0⟩, #[]⟩
noncomputable def x149 (p : Params) : Obj := ⟨.type "code", none, .fields #[.str "close" 612, .str "BytesIO.close" 613, .str "/claim/cut.py" 614, .int 149 0, .int 1 0, .int 0 0, .int 0 0, .int 3 0, .ref 218, .bool true, .int 318 0, .ref 219, .none, .ref 220, .ref 221, .ref 222, .int 616 0, .int 149 0, .str "/claim/cut.py" 617], #[]⟩
noncomputable def x150 (p : Params) : Obj := ⟨.type "function", none, .func ⟨"close", "BytesIO.close", fA [22, 5], .stmts (fB [22, 5]), fS [22, 4], 3, [], .none, .none, .none, .str "io" 456, none, .ref 223, .none, 0⟩, #[]⟩
noncomputable def x151 (p : Params) : Obj := ⟨.type "tuple", none, .seq #[.str "self" 622] 0, #[]⟩
noncomputable def x152 (p : Params) : Obj := ⟨.none, none, .func ⟨"__enter__", "BytesIO.__enter__", fA [22, 6], .stmts (fB [22, 6]), fS [22, 4], 0, [], .none, .none, .none, .none, none, .none, .none, 0⟩, #[]⟩
noncomputable def x153 (p : Params) : Obj := ⟨.type "code", none, .fields #[.str "__enter__" 619, .str "BytesIO.__enter__" 620, .str "/claim/cut.py" 621, .int 152 0, .int 1 0, .int 0 0, .int 0 0, .int 3 0, .ref 225, .bool true, .int 318 0, .ref 226, .none, .ref 227, .ref 228, .ref 229, .int 623 0, .int 152 0, .str "/claim/cut.py" 624], #[]⟩
noncomputable def x154 (p : Params) : Obj := ⟨.type "function", none, .func ⟨"__enter__", "BytesIO.__enter__", fA [22, 6], .stmts (fB [22, 6]), fS [22, 4], 3, [], .none, .none, .none, .str "io" 456, none, .ref 230, .none, 0⟩, #[]⟩
noncomputable def x155 (p : Params) : Obj := ⟨.type "tuple", none, .seq #[.str "self" 629, .str "args" 630] 0, #[]⟩
noncomputable def x156 (p : Params) : Obj := ⟨.none, none, .func ⟨"__exit__", "BytesIO.__exit__", fA [22, 7], .stmts (fB [22, 7]), fS [22, 7], 0, [], .none, .none, .none, .none, none, .none, .none, 0⟩, #[]⟩
noncomputable def x157 (p : Params) : Obj := ⟨.type "code", none, .fields #[.str "__exit__" 626, .str "BytesIO.__exit__" 627, .str "/claim/cut.py" 628, .int 156 0, .int 1 0, .int 0 0, .int 0 0, .int 7 0, .ref 232, .bool true, .int 318 0, .ref 233, .none, .ref 234, .ref 235, .ref 236, .int 631 0, .int 156 0, .str "/claim/cut.py" 632], #[]⟩
noncomputable def x158 (p : Params) : Obj := ⟨.type "function", none, .func ⟨"__exit__", "BytesIO.__exit__", fA [22, 7], .stmts (fB [22, 7]), fS [22, 7], 3, [], .none, .none, .none, .str "io" 456, none, .ref 237, .none, 0⟩, #[]⟩
noncomputable def x159 (p : Params) : Obj := ⟨.type "tuple", none, .seq #[.str "self" 637] 0, #[]⟩
noncomputable def x160 (p : Params) : Obj := ⟨.none, none, .func ⟨"readable", "BytesIO.readable", fA [22, 8], .stmts (fB [22, 8]), fS [22, 4], 0, [], .none, .none, .none, .none, none, .none, .none, 0⟩, #[]⟩
noncomputable def x161 (p : Params) : Obj := ⟨.type "code", none, .fields #[.str "readable" 634, .str "BytesIO.readable" 635, .str "/claim/cut.py" 636, .int 159 0, .int 1 0, .int 0 0, .int 0 0, .int 3 0, .ref 239, .bool true, .int 318 0, .ref 240, .none, .ref 241, .ref 242, .ref 243, .int 638 0, .int 159 0, .str "/claim/cut.py" 639], #[]⟩
noncomputable def x162 (p : Params) : Obj := ⟨.type "function", none, .func ⟨"readable", "BytesIO.readable", fA [22, 8], .stmts (fB [22, 8]), fS [22, 4], 3, [], .none, .none, .none, .str "io" 456, none, .ref 244, .none, 0⟩, #[]⟩
noncomputable def x163 (p : Params) : Obj := ⟨.type "tuple", none, .seq #[.str "self" 644] 0, #[]⟩
noncomputable def x164 (p : Params) : Obj := ⟨.none, none, .func ⟨"writable", "BytesIO.writable", fA [22, 9], .stmts (fB [22, 9]), fS [22, 4], 0, [], .none, .none, .none, .none, none, .none, .none, 0⟩, #[]⟩
noncomputable def x165 (p : Params) : Obj := ⟨.type "code", none, .fields #[.str "writable" 641, .str "BytesIO.writable" 642, .str "/claim/cut.py" 643, .int 163 0, .int 1 0, .int 0 0, .int 0 0, .int 3 0, .ref 246, .bool true, .int 318 0, .ref 247, .none, .ref 248, .ref 249, .ref 250, .int 645 0, .int 163 0, .str "/claim/cut.py" 646], #[]⟩
noncomputable def x166 (p : Params) : Obj := ⟨.type "function", none, .func ⟨"writable", "BytesIO.writable", fA [22, 9], .stmts (fB [22, 9]), fS [22, 4], 3, [], .none, .none, .none, .str "io" 456, none, .ref 251, .none, 0⟩, #[]⟩
noncomputable def x167 (p : Params) : Obj := ⟨.type "tuple", none, .seq #[.str "self" 651] 0, #[]⟩
noncomputable def x168 (p : Params) : Obj := ⟨.none, none, .func ⟨"seekable", "BytesIO.seekable", fA [22, 10], .stmts (fB [22, 10]), fS [22, 4], 0, [], .none, .none, .none, .none, none, .none, .none, 0⟩, #[]⟩
noncomputable def x169 (p : Params) : Obj := ⟨.type "code", none, .fields #[.str "seekable" 648, .str "BytesIO.seekable" 649, .str "/claim/cut.py" 650, .int 167 0, .int 1 0, .int 0 0, .int 0 0, .int 3 0, .ref 253, .bool true, .int 318 0, .ref 254, .none, .ref 255, .ref 256, .ref 257, .int 652 0, .int 167 0, .str "/claim/cut.py" 653], #[]⟩
noncomputable def x170 (p : Params) : Obj := ⟨.type "function", none, .func ⟨"seekable", "BytesIO.seekable", fA [22, 10], .stmts (fB [22, 10]), fS [22, 4], 3, [], .none, .none, .none, .str "io" 456, none, .ref 258, .none, 0⟩, #[]⟩
noncomputable def x171 (p : Params) : Obj := ⟨.type "tuple", none, .seq #[.str "self" 658] 0, #[]⟩
noncomputable def x172 (p : Params) : Obj := ⟨.none, none, .func ⟨"isatty", "BytesIO.isatty", fA [22, 11], .stmts (fB [22, 11]), fS [22, 4], 0, [], .none, .none, .none, .none, none, .none, .none, 0⟩, #[]⟩
noncomputable def x173 (p : Params) : Obj := ⟨.type "code", none, .fields #[.str "isatty" 655, .str "BytesIO.isatty" 656, .str "/claim/cut.py" 657, .int 171 0, .int 1 0, .int 0 0, .int 0 0, .int 3 0, .ref 260, .bool true, .int 318 0, .ref 261, .none, .ref 262, .ref 263, .ref 264, .int 659 0, .int 171 0, .str "/claim/cut.py" 660], #[]⟩
noncomputable def x174 (p : Params) : Obj := ⟨.type "function", none, .func ⟨"isatty", "BytesIO.isatty", fA [22, 11], .stmts (fB [22, 11]), fS [22, 4], 3, [], .none, .none, .none, .str "io" 456, none, .ref 265, .none, 0⟩, #[]⟩
noncomputable def x175 (p : Params) : Obj := ⟨.type "tuple", none, .seq #[.str "self" 665] 0, #[]⟩
noncomputable def x176 (p : Params) : Obj := ⟨.none, none, .func ⟨"flush", "BytesIO.flush", fA [22, 12], .stmts (fB [22, 12]), fS [22, 4], 0, [], .none, .none, .none, .none, none, .none, .none, 0⟩, #[]⟩
noncomputable def x177 (p : Params) : Obj := ⟨.type "code", none, .fields #[.str "flush" 662, .str "BytesIO.flush" 663, .str "/claim/cut.py" 664, .int 175 0, .int 1 0, .int 0 0, .int 0 0, .int 3 0, .ref 267, .bool true, .int 318 0, .ref 268, .none, .ref 269, .ref 270, .ref 271, .int 666 0, .int 175 0, .str "/claim/cut.py" 667], #[]⟩
noncomputable def x178 (p : Params) : Obj := ⟨.type "function", none, .func ⟨"flush", "BytesIO.flush", fA [22, 12], .stmts (fB [22, 12]), fS [22, 4], 3, [], .none, .none, .none, .str "io" 456, none, .ref 272, .none, 0⟩, #[]⟩
noncomputable def x179 (p : Params) : Obj := ⟨.type "tuple", none, .seq #[.str "self" 672] 0, #[]⟩
noncomputable def x180 (p : Params) : Obj := ⟨.none, none, .func ⟨"fileno", "BytesIO.fileno", fA [22, 13], .stmts (fB [22, 13]), fS [22, 13], 0, [], .none, .none, .none, .none, none, .none, .none, 0⟩, #[]⟩
noncomputable def x181 (p : Params) : Obj := ⟨.type "code", none, .fields #[.str "fileno" 669, .str "BytesIO.fileno" 670, .str "/claim/cut.py" 671, .int 178 0, .int 1 0, .int 0 0, .int 0 0, .int 3 0, .ref 274, .bool true, .int 318 0, .ref 275, .none, .ref 276, .ref 277, .ref 278, .int 673 0, .int 178 0, .str "/claim/cut.py" 674], #[]⟩
noncomputable def x182 (p : Params) : Obj := ⟨.type "function", none, .func ⟨"fileno", "BytesIO.fileno", fA [22, 13], .stmts (fB [22, 13]), fS [22, 13], 3, [], .none, .none, .none, .str "io" 456, none, .ref 279, .none, 0⟩, #[]⟩
noncomputable def x183 (p : Params) : Obj := ⟨.type "tuple", none, .seq #[.str "self" 679] 0, #[]⟩
noncomputable def x184 (p : Params) : Obj := ⟨.none, none, .func ⟨"detach", "BytesIO.detach", fA [22, 14], .stmts (fB [22, 14]), fS [22, 14], 0, [], .none, .none, .none, .none, none, .none, .none, 0⟩, #[]⟩
noncomputable def x185 (p : Params) : Obj := ⟨.type "code", none, .fields #[.str "detach" 676, .str "BytesIO.detach" 677, .str "/claim/cut.py" 678, .int 181 0, .int 1 0, .int 0 0, .int 0 0, .int 3 0, .ref 281, .bool true, .int 318 0, .ref 282, .none, .ref 283, .ref 284, .ref 285, .int 680 0, .int 181 0, .str "/claim/cut.py" 681], #[]⟩
noncomputable def x186 (p : Params) : Obj := ⟨.type "function", none, .func ⟨"detach", "BytesIO.detach", fA [22, 14], .stmts (fB [22, 14]), fS [22, 14], 3, [], .none, .none, .none, .str "io" 456, none, .ref 286, .none, 0⟩, #[]⟩
noncomputable def x187 (p : Params) : Obj := ⟨.type "tuple", none, .seq #[.str "self" 686] 0, #[]⟩
noncomputable def x188 (p : Params) : Obj := ⟨.none, none, .func ⟨"getvalue", "BytesIO.getvalue", fA [22, 15], .stmts (fB [22, 15]), fS [22, 14], 0, [], .none, .none, .none, .none, none, .none, .none, 0⟩, #[]⟩
noncomputable def x189 (p : Params) : Obj := ⟨.type "code", none, .fields #[.str "getvalue" 683, .str "BytesIO.getvalue" 684, .str "/claim/cut.py" 685, .int 184 0, .int 1 0, .int 0 0, .int 0 0, .int 3 0, .ref 288, .bool true, .int 318 0, .ref 289, .none, .ref 290, .ref 291, .ref 292, .int 687 0, .int 184 0, .str "/claim/cut.py" 688], #[]⟩
noncomputable def x190 (p : Params) : Obj := ⟨.type "function", none, .func ⟨"getvalue", "BytesIO.getvalue", fA [22, 15], .stmts (fB [22, 15]), fS [22, 14], 3, [], .none, .none, .none, .str "io" 456, none, .ref 293, .none, 0⟩, #[]⟩
noncomputable def x191 (p : Params) : Obj := ⟨.type "tuple", none, .seq #[.str "self" 693] 0, #[]⟩
noncomputable def x192 (p : Params) : Obj := ⟨.none, none, .func ⟨"getbuffer", "BytesIO.getbuffer", fA [22, 16], .stmts (fB [22, 16]), fS [22, 14], 0, [], .none, .none, .none, .none, none, .none, .none, 0⟩, #[]⟩
noncomputable def x193 (p : Params) : Obj := ⟨.type "code", none, .fields #[.str "getbuffer" 690, .str "BytesIO.getbuffer" 691, .str "/claim/cut.py" 692, .int 187 0, .int 1 0, .int 0 0, .int 0 0, .int 3 0, .ref 295, .bool true, .int 318 0, .ref 296, .none, .ref 297, .ref 298, .ref 299, .int 694 0, .int 187 0, .str "/claim/cut.py" 695], #[]⟩
noncomputable def x194 (p : Params) : Obj := ⟨.type "function", none, .func ⟨"getbuffer", "BytesIO.getbuffer", fA [22, 16], .stmts (fB [22, 16]), fS [22, 14], 3, [], .none, .none, .none, .str "io" 456, none, .ref 300, .none, 0⟩, #[]⟩
noncomputable def x195 (p : Params) : Obj := ⟨.type "tuple", none, .seq #[.str "self" 700] 0, #[]⟩
noncomputable def x196 (p : Params) : Obj := ⟨.none, none, .func ⟨"tell", "BytesIO.tell", fA [22, 17], .stmts (fB [22, 17]), fS [22, 4], 0, [], .none, .none, .none, .none, none, .none, .none, 0⟩, #[]⟩
noncomputable def x197 (p : Params) : Obj := ⟨.type "code", none, .fields #[.str "tell" 697, .str "BytesIO.tell" 698, .str "/claim/cut.py" 699, .int 190 0, .int 1 0, .int 0 0, .int 0 0, .int 3 0, .ref 302, .bool true, .int 318 0, .ref 303, .none, .ref 304, .ref 305, .ref 306, .int 701 0, .int 190 0, .str "/claim/cut.py" 702], #[]⟩
noncomputable def x198 (p : Params) : Obj := ⟨.type "function", none, .func ⟨"tell", "BytesIO.tell", fA [22, 17], .stmts (fB [22, 17]), fS [22, 4], 3, [], .none, .none, .none, .str "io" 456, none, .ref 307, .none, 0⟩, #[]⟩
noncomputable def x199 (p : Params) : Obj := ⟨.type "tuple", none, .seq #[.int 0 704] 0, #[]⟩
noncomputable def x200 (p : Params) : Obj := ⟨.type "tuple", none, .seq #[.str "self" 708, .str "pos" 709, .str "whence" 710] 0, #[]⟩
noncomputable def x201 (p : Params) : Obj := ⟨.none, none, .func ⟨"seek", "BytesIO.seek", fA [22, 18], .stmts (fB [22, 18]), fS [22, 18], 0, [], .none, .none, .none, .none, none, .none, .none, 0⟩, #[]⟩
noncomputable def x202 (p : Params) : Obj := ⟨.type "code", none, .fields #[.str "seek" 705, .str "BytesIO.seek" 706, .str "/claim/cut.py" 707, .int 194 0, .int 3 0, .int 3 0, .int 0 0, .int 3 0, .ref 310, .bool true, .int 318 0, .ref 311, .none, .ref 312, .ref 313, .ref 314, .int 711 0, .int 194 0, .str "/claim/cut.py" 712], #[]⟩
noncomputable def x203 (p : Params) : Obj := ⟨.type "function", none, .func ⟨"seek", "BytesIO.seek", fA [22, 18], .stmts (fB [22, 18]), fS [22, 18], 3, [], .ref 309, .none, .none, .str "io" 456, none, .ref 315, .none, 0⟩, #[]⟩
noncomputable def x204 (p : Params) : Obj := ⟨.type "tuple", none, .seq #[.str "self" 717, .str "size" 718] 0, #[]⟩
noncomputable def x205 (p : Params) : Obj := ⟨.none, none, .func ⟨"truncate", "BytesIO.truncate", fA [22, 19], .stmts (fB [22, 19]), fS [22, 19], 0, [], .none, .none, .none, .none, none, .none, .none, 0⟩, #[]⟩
noncomputable def x206 (p : Params) : Obj := ⟨.type "code", none, .fields #[.str "truncate" 714, .str "BytesIO.truncate" 715, .str "/claim/cut.py" 716, .int 211 0, .int 2 0, .int 2 0, .int 0 0, .int 3 0, .ref 318, .bool true, .int 318 0, .ref 319, .none, .ref 320, .ref 321, .ref 322, .int 719 0, .int 211 0, .str "/claim/cut.py" 720], #[]⟩
noncomputable def x207 (p : Params) : Obj := ⟨.type "function", none, .func ⟨"truncate", "BytesIO.truncate", fA [22, 19], .stmts (fB [22, 19]), fS [22, 19], 3, [], .ref 317, .none, .none, .str "io" 456, none, .ref 323, .none, 0⟩, #[]⟩
noncomputable def x208 (p : Params) : Obj := ⟨.type "tuple", none, .seq #[.int (-1) 723] 0, #[]⟩
noncomputable def x209 (p : Params) : Obj := ⟨.type "tuple", none, .seq #[.str "self" 727, .str "size" 728, .str "start" 729, .str "stop" 730] 0, #[]⟩
noncomputable def x210 (p : Params) : Obj := ⟨.none, none, .func ⟨"read", "BytesIO.read", fA [22, 20], .stmts (fB [22, 20]), fS [22, 20], 0, [], .none, .none, .none, .none, none, .none, .none, 0⟩, #[]⟩
noncomputable def x211 (p : Params) : Obj := ⟨.type "code", none, .fields #[.str "read" 724, .str "BytesIO.read" 725, .str "/claim/cut.py" 726, .int 214 0, .int 2 0, .int 2 0, .int 0 0, .int 3 0, .ref 326, .bool true, .int 318 0, .ref 327, .none, .ref 328, .ref 329, .ref 330, .int 731 0, .int 214 0, .str "/claim/cut.py" 732], #[]⟩
noncomputable def x212 (p : Params) : Obj := ⟨.type "function", none, .func ⟨"read", "BytesIO.read", fA [22, 20], .stmts (fB [22, 20]), fS [22, 20], 3, [], .ref 325, .none, .none, .str "io" 456, none, .ref 331, .none, 0⟩, #[]⟩
noncomputable def x213 (p : Params) : Obj := ⟨.type "tuple", none, .seq #[.int (-1) 735] 0, #[]⟩
noncomputable def x214 (p : Params) : Obj := ⟨.type "tuple", none, .seq #[.str "self" 739, .str "size" 740] 0, #[]⟩
noncomputable def x215 (p : Params) : Obj := ⟨.none, none, .func ⟨"read1", "BytesIO.read1", fA [22, 21], .stmts (fB [22, 21]), fS [22, 19], 0, [], .none, .none, .none, .none, none, .none, .none, 0⟩, #[]⟩
noncomputable def x216 (p : Params) : Obj := ⟨.type "code", none, .fields #[.str "read1" 736, .str "BytesIO.read1" 737, .str "/claim/cut.py" 738, .int 228 0, .int 2 0, .int 2 0, .int 0 0, .int 3 0, .ref 334, .bool true, .int 318 0, .ref 335, .none, .ref 336, .ref 337, .ref 338, .int 741 0, .int 228 0, .str "/claim/cut.py" 742], #[]⟩
noncomputable def x217 (p : Params) : Obj := ⟨.type "function", none, .func ⟨"read1", "BytesIO.read1", fA [22, 21], .stmts (fB [22, 21]), fS [22, 19], 3, [], .ref 333, .none, .none, .str "io" 456, none, .ref 339, .none, 0⟩, #[]⟩
noncomputable def x218 (p : Params) : Obj := ⟨.type "tuple", none, .seq #[.str "self" 747, .str "buffer" 748, .str "start" 749, .str "n" 750] 0, #[]⟩
noncomputable def x219 (p : Params) : Obj := ⟨.none, none, .func ⟨"readinto", "BytesIO.readinto", fA [22, 22], .stmts (fB [22, 22]), fS [22, 22], 0, [], .none, .none, .none, .none, none, .none, .none, 0⟩, #[]⟩
noncomputable def x220 (p : Params) : Obj := ⟨.type "code", none, .fields #[.str "readinto" 744, .str "BytesIO.readinto" 745, .str "/claim/cut.py" 746, .int 231 0, .int 2 0, .int 2 0, .int 0 0, .int 3 0, .ref 341, .bool true, .int 318 0, .ref 342, .none, .ref 343, .ref 344, .ref 345, .int 751 0, .int 231 0, .str "/claim/cut.py" 752], #[]⟩
noncomputable def x221 (p : Params) : Obj := ⟨.type "function", none, .func ⟨"readinto", "BytesIO.readinto", fA [22, 22], .stmts (fB [22, 22]), fS [22, 22], 3, [], .none, .none, .none, .str "io" 456, none, .ref 346, .none, 0⟩, #[]⟩
noncomputable def x222 (p : Params) : Obj := ⟨.type "tuple", none, .seq #[.str "self" 757, .str "buffer" 758] 0, #[]⟩
noncomputable def x223 (p : Params) : Obj := ⟨.none, none, .func ⟨"readinto1", "BytesIO.readinto1", fA [22, 23], .stmts (fB [22, 23]), fS [22, 23], 0, [], .none, .none, .none, .none, none, .none, .none, 0⟩, #[]⟩
noncomputable def x224 (p : Params) : Obj := ⟨.type "code", none, .fields #[.str "readinto1" 754, .str "BytesIO.readinto1" 755, .str "/claim/cut.py" 756, .int 245 0, .int 2 0, .int 2 0, .int 0 0, .int 3 0, .ref 348, .bool true, .int 318 0, .ref 349, .none, .ref 350, .ref 351, .ref 352, .int 759 0, .int 245 0, .str "/claim/cut.py" 760], #[]⟩
noncomputable def x225 (p : Params) : Obj := ⟨.type "function", none, .func ⟨"readinto1", "BytesIO.readinto1", fA [22, 23], .stmts (fB [22, 23]), fS [22, 23], 3, [], .none, .none, .none, .str "io" 456, none, .ref 353, .none, 0⟩, #[]⟩
noncomputable def x226 (p : Params) : Obj := ⟨.type "tuple", none, .seq #[.int (-1) 763] 0, #[]⟩
noncomputable def x227 (p : Params) : Obj := ⟨.type "tuple", none, .seq #[.str "self" 767, .str "size" 768] 0, #[]⟩
noncomputable def x228 (p : Params) : Obj := ⟨.none, none, .func ⟨"readline", "BytesIO.readline", fA [22, 24], .stmts (fB [22, 24]), fS [22, 24], 0, [], .none, .none, .none, .none, none, .none, .none, 0⟩, #[]⟩
noncomputable def x229 (p : Params) : Obj := ⟨.type "code", none, .fields #[.str "readline" 764, .str "BytesIO.readline" 765, .str "/claim/cut.py" 766, .int 248 0, .int 2 0, .int 2 0, .int 0 0, .int 3 0, .ref 356, .bool true, .int 318 0, .ref 357, .none, .ref 358, .ref 359, .ref 360, .int 769 0, .int 248 0, .str "/claim/cut.py" 770], #[]⟩
noncomputable def x230 (p : Params) : Obj := ⟨.type "function", none, .func ⟨"readline", "BytesIO.readline", fA [22, 24], .stmts (fB [22, 24]), fS [22, 24], 3, [], .ref 355, .none, .none, .str "io" 456, none, .ref 361, .none, 0⟩, #[]⟩
noncomputable def x231 (p : Params) : Obj := ⟨.type "tuple", none, .seq #[.str "self" 775, .str "size" 776] 0, #[]⟩
noncomputable def x232 (p : Params) : Obj := ⟨.none, none, .func ⟨"readlines", "BytesIO.readlines", fA [22, 25], .stmts (fB [22, 25]), fS [22, 19], 0, [], .none, .none, .none, .none, none, .none, .none, 0⟩, #[]⟩
noncomputable def x233 (p : Params) : Obj := ⟨.type "code", none, .fields #[.str "readlines" 772, .str "BytesIO.readlines" 773, .str "/claim/cut.py" 774, .int 255 0, .int 2 0, .int 2 0, .int 0 0, .int 3 0, .ref 364, .bool true, .int 318 0, .ref 365, .none, .ref 366, .ref 367, .ref 368, .int 777 0, .int 255 0, .str "/claim/cut.py" 778], #[]⟩
noncomputable def x234 (p : Params) : Obj := ⟨.type "function", none, .func ⟨"readlines", "BytesIO.readlines", fA [22, 25], .stmts (fB [22, 25]), fS [22, 19], 3, [], .ref 363, .none, .none, .str "io" 456, none, .ref 369, .none, 0⟩, #[]⟩
noncomputable def x235 (p : Params) : Obj := ⟨.type "tuple", none, .seq #[.str "self" 783] 0, #[]⟩
noncomputable def x236 (p : Params) : Obj := ⟨.none, none, .func ⟨"__iter__", "BytesIO.__iter__", fA [22, 26], .stmts (fB [22, 26]), fS [22, 4], 0, [], .none, .none, .none, .none, none, .none, .none, 0⟩, #[]⟩
noncomputable def x237 (p : Params) : Obj := ⟨.type "code", none, .fields #[.str "__iter__" 780, .str "BytesIO.__iter__" 781, .str "/claim/cut.py" 782, .int 258 0, .int 1 0, .int 0 0, .int 0 0, .int 3 0, .ref 371, .bool true, .int 318 0, .ref 372, .none, .ref 373, .ref 374, .ref 375, .int 784 0, .int 258 0, .str "/claim/cut.py" 785], #[]⟩
noncomputable def x238 (p : Params) : Obj := ⟨.type "function", none, .func ⟨"__iter__", "BytesIO.__iter__", fA [22, 26], .stmts (fB [22, 26]), fS [22, 4], 3, [], .none, .none, .none, .str "io" 456, none, .ref 376, .none, 0⟩, #[]⟩
noncomputable def x239 (p : Params) : Obj := ⟨.type "tuple", none, .seq #[.str "self" 790, .str "line" 791] 0, #[]⟩
noncomputable def x240 (p : Params) : Obj := ⟨.none, none, .func ⟨"__next__", "BytesIO.__next__", fA [22, 27], .stmts (fB [22, 27]), fS [22, 27], 0, [], .none, .none, .none, .none, none, .none, .none, 0⟩, #[]⟩
noncomputable def x241 (p : Params) : Obj := ⟨.type "code", none, .fields #[.str "__next__" 787, .str "BytesIO.__next__" 788, .str "/claim/cut.py" 789, .int 261 0, .int 1 0, .int 0 0, .int 0 0, .int 3 0, .ref 378, .bool true, .int 318 0, .ref 379, .none, .ref 380, .ref 381, .ref 382, .int 792 0, .int 261 0, .str "/claim/cut.py" 793], #[]⟩
noncomputable def x242 (p : Params) : Obj := ⟨.type "function", none, .func ⟨"__next__", "BytesIO.__next__", fA [22, 27], .stmts (fB [22, 27]), fS [22, 27], 3, [], .none, .none, .none, .str "io" 456, none, .ref 383, .none, 0⟩, #[]⟩
noncomputable def x243 (p : Params) : Obj := ⟨.type "tuple", none, .seq #[.str "self" 798, .str "b" 799, .str "n" 800, .str "start" 801] 0, #[]⟩
noncomputable def x244 (p : Params) : Obj := ⟨.none, none, .func ⟨"write", "BytesIO.write", fA [22, 28], .stmts (fB [22, 28]), fS [22, 28], 0, [], .none, .none, .none, .none, none, .none, .none, 0⟩, #[]⟩
noncomputable def x245 (p : Params) : Obj := ⟨.type "code", none, .fields #[.str "write" 795, .str "BytesIO.write" 796, .str "/claim/cut.py" 797, .int 268 0, .int 2 0, .int 2 0, .int 0 0, .int 3 0, .ref 385, .bool true, .int 318 0, .ref 386, .none, .ref 387, .ref 388, .ref 389, .int 802 0, .int 268 0, .str "/claim/cut.py" 803], #[]⟩
noncomputable def x246 (p : Params) : Obj := ⟨.type "function", none, .func ⟨"write", "BytesIO.write", fA [22, 28], .stmts (fB [22, 28]), fS [22, 28], 3, [], .none, .none, .none, .str "io" 456, none, .ref 390, .none, 0⟩, #[]⟩
noncomputable def x247 (p : Params) : Obj := ⟨.type "tuple", none, .seq #[.str "self" 808, .str "lines" 809] 0, #[]⟩
noncomputable def x248 (p : Params) : Obj := ⟨.none, none, .func ⟨"writelines", "BytesIO.writelines", fA [22, 29], .stmts (fB [22, 29]), fS [22, 29], 0, [], .none, .none, .none, .none, none, .none, .none, 0⟩, #[]⟩
noncomputable def x249 (p : Params) : Obj := ⟨.type "code", none, .fields #[.str "writelines" 805, .str "BytesIO.writelines" 806, .str "/claim/cut.py" 807, .int 284 0, .int 2 0, .int 2 0, .int 0 0, .int 3 0, .ref 392, .bool true, .int 318 0, .ref 393, .none, .ref 394, .ref 395, .ref 396, .int 810 0, .int 284 0, .str "/claim/cut.py" 811], #[]⟩
noncomputable def x250 (p : Params) : Obj := ⟨.type "function", none, .func ⟨"writelines", "BytesIO.writelines", fA [22, 29], .stmts (fB [22, 29]), fS [22, 29], 3, [], .none, .none, .none, .str "io" 456, none, .ref 397, .none, 0⟩, #[]⟩
noncomputable def x251 (p : Params) : Obj := ⟨.type "tuple", none, .seq #[.str "self" 816] 0, #[]⟩
noncomputable def x252 (p : Params) : Obj := ⟨.none, none, .func ⟨"__repr__", "BytesIO.__repr__", fA [22, 30], .stmts (fB [22, 30]), fS [22, 14], 0, [], .none, .none, .none, .none, none, .none, .none, 0⟩, #[]⟩
noncomputable def x253 (p : Params) : Obj := ⟨.type "code", none, .fields #[.str "__repr__" 813, .str "BytesIO.__repr__" 814, .str "/claim/cut.py" 815, .int 287 0, .int 1 0, .int 0 0, .int 0 0, .int 3 0, .ref 399, .bool true, .int 318 0, .ref 400, .none, .ref 401, .ref 402, .ref 403, .int 817 0, .int 287 0, .str "/claim/cut.py" 818], #[]⟩
noncomputable def x254 (p : Params) : Obj := ⟨.type "function", none, .func ⟨"__repr__", "BytesIO.__repr__", fA [22, 30], .stmts (fB [22, 30]), fS [22, 14], 3, [], .none, .none, .none, .str "io" 456, none, .ref 404, .none, 0⟩, #[]⟩
noncomputable def x255 (p : Params) : Obj := ⟨.type "tuple", none, .seq #[.str "__buf" 820, .str "__pos" 821] 0, #[]⟩
noncomputable def x256 (p : Params) : Obj := ⟨.type "dict", none, .dict #[⟨hk p "__module__", .str "__module__" 571, .str "_io" 576⟩, ⟨hk p "__firstlineno__", .str "__firstlineno__" 575, .int 119 574⟩, ⟨hk p "__init__", .str "__init__" 585, .ref 195⟩, ⟨hk p "_BytesIO__check", .str "_BytesIO__check" 592, .ref 202⟩, ⟨hk p "_BytesIO__line", .str "_BytesIO__line" 603, .ref 209⟩, ⟨hk p "closed", .str "closed" 611, .ref 217⟩, ⟨hk p "close", .str "close" 618, .ref 224⟩, ⟨hk p "__enter__", .str "__enter__" 625, .ref 231⟩, ⟨hk p "__exit__", .str "__exit__" 633, .ref 238⟩, ⟨hk p "readable", .str "readable" 640, .ref 245⟩, ⟨hk p "writable", .str "writable" 647, .ref 252⟩, ⟨hk p "seekable", .str "seekable" 654, .ref 259⟩, ⟨hk p "isatty", .str "isatty" 661, .ref 266⟩, ⟨hk p "flush", .str "flush" 668, .ref 273⟩, ⟨hk p "fileno", .str "fileno" 675, .ref 280⟩, ⟨hk p "detach", .str "detach" 682, .ref 287⟩, ⟨hk p "getvalue", .str "getvalue" 689, .ref 294⟩, ⟨hk p "getbuffer", .str "getbuffer" 696, .ref 301⟩, ⟨hk p "tell", .str "tell" 703, .ref 308⟩, ⟨hk p "seek", .str "seek" 713, .ref 316⟩, ⟨hk p "truncate", .str "truncate" 721, .ref 324⟩, ⟨hk p "read", .str "read" 733, .ref 332⟩, ⟨hk p "read1", .str "read1" 743, .ref 340⟩, ⟨hk p "readinto", .str "readinto" 753, .ref 347⟩, ⟨hk p "readinto1", .str "readinto1" 761, .ref 354⟩, ⟨hk p "readline", .str "readline" 771, .ref 362⟩, ⟨hk p "readlines", .str "readlines" 779, .ref 370⟩, ⟨hk p "__iter__", .str "__iter__" 786, .ref 377⟩, ⟨hk p "__next__", .str "__next__" 794, .ref 384⟩, ⟨hk p "write", .str "write" 804, .ref 391⟩, ⟨hk p "writelines", .str "writelines" 812, .ref 398⟩, ⟨hk p "__repr__", .str "__repr__" 819, .ref 405⟩, ⟨hk p "__static_attributes__", .str "__static_attributes__" 822, .ref 406⟩, ⟨hk p "__doc__", .str "__doc__" 823, .none⟩] 2, #[]⟩
noncomputable def x257 (p : Params) : Obj := ⟨.type "type", none, .cls ⟨"BytesIO", [.ref 166], [.ref 408, .ref 166, .ref 151, .type "object"], 407, "BytesIO", true, [], [], false, none, false⟩, #[some (.ref 181), none, some (.str "BytesIO" 564), some (.str "BytesIO" 572), some .none, some (.bool true)]⟩
noncomputable def x258 (p : Params) : Obj := ⟨.type "super", none, .fields #[.ref 408, .ref 408, .ref 408], #[]⟩
noncomputable def x259 (p : Params) : Obj := ⟨.type "builtin_function_or_method", none, .fields #[.builtin "object.__init_subclass__", .ref 408], #[]⟩
noncomputable def x260 (p : Params) : Obj := ⟨.type "dict", none, .dict #[⟨hk p "__name__", .str "__name__" 165, .str "io" 456⟩, ⟨hk p "__doc__", .str "__doc__" 166, .none⟩, ⟨hk p "__package__", .str "__package__" 167, .none⟩, ⟨hk p "__loader__", .str "__loader__" 168, .builtin "__main__.__loader__#opaque"⟩, ⟨hk p "__spec__", .str "__spec__" 169, .none⟩, ⟨hk p "__annotations__", .str "__annotations__" 170, .ref 6⟩, ⟨hk p "__builtins__", .str "__builtins__" 171, .ref 4⟩, ⟨hk p "__file__", .str "__file__" 173, .str "/claim/cut.py" 172⟩, ⟨hk p "__cached__", .str "__cached__" 174, .none⟩, ⟨hk p "_sre", .str "_sre" 275, .ref 12⟩, ⟨hk p "deque", .str "deque" 317, .type "collections.deque"⟩, ⟨hk p "_wall", .str "_wall" 330, .ref 44⟩, ⟨hk p "heappush", .str "heappush" 340, .ref 51⟩, ⟨hk p "heappop", .str "heappop" 349, .ref 58⟩, ⟨hk p "heapreplace", .str "heapreplace" 358, .ref 65⟩, ⟨hk p "heappushpop", .str "heappushpop" 366, .ref 72⟩, ⟨hk p "_siftdown", .str "_siftdown" 378, .ref 79⟩, ⟨hk p "_siftup", .str "_siftup" 391, .ref 86⟩, ⟨hk p "cmp_to_key", .str "cmp_to_key" 402, .ref 93⟩, ⟨hk p "_initial_missing", .str "_initial_missing" 403, .ref 94⟩, ⟨hk p "reduce", .str "reduce" 415, .ref 102⟩, ⟨hk p "_twin_re_1", .str "_twin_re_1" 455, .ref 107⟩, ⟨hk p "_whence", .str "_whence" 465, .ref 114⟩, ⟨hk p "_index", .str "_index" 473, .ref 121⟩, ⟨hk p "UnsupportedOperation", .str "UnsupportedOperation" 495, .ref 131⟩, ⟨hk p "IOBase", .str "IOBase" 527, .ref 151⟩, ⟨hk p "BufferedIOBase", .str "BufferedIOBase" 545, .ref 166⟩, ⟨hk p "TextIOBase", .str "TextIOBase" 563, .ref 178⟩, ⟨hk p "BytesIO", .str "BytesIO" 825, .ref 408⟩, ⟨hk p "StringIO", .str "StringIO" 1112, .ref 655⟩] 30, #[]⟩
noncomputable def x261 (p : Params) : Obj := ⟨.none, none, .fields #[.int 3 0, .int 0 0, .ref 43, .int 7 0, .int 0 0, .ref 50, .int 10 0, .int 0 0, .ref 57, .int 18 0, .int 0 0, .ref 64, .int 23 0, .int 0 0, .ref 71, .int 28 0, .int 0 0, .ref 78, .int 39 0, .int 0 0, .ref 85, .int 54 0, .int 0 0, .ref 92, .int 80 0, .int 0 0, .ref 101, .int 94 0, .int 0 0, .ref 113, .int 99 0, .int 0 0, .ref 120, .int 106 0, .int 0 0, .ref 127, .int 108 0, .int 0 0, .ref 140, .int 115 0, .int 0 0, .ref 162, .int 117 0, .int 0 0, .ref 174, .int 119 0, .int 0 0, .ref 186, .int 289 0, .int 0 0, .ref 416], #[]⟩
noncomputable def x262 (p : Params) : Obj := ⟨.type "type", none, .cls ⟨"TextIOBase", [.ref 151], [.ref 178, .ref 151, .type "object"], 177, "TextIOBase", true, [], [.ref 655], false, none, false⟩, #[some (.ref 169), none, some (.str "TextIOBase" 546), some (.str "TextIOBase" 554), some .none, some (.bool true)]⟩
noncomputable def x263 (p : Params) : Obj := ⟨.type "tuple", none, .seq #[.ref 178] 0, #[]⟩
noncomputable def x264 (p : Params) : Obj := ⟨.type "dict", none, .dict #[⟨hk p "__module__", .str "__module__" 833, .str "_io" 838⟩, ⟨hk p "__qualname__", .str "__qualname__" 835, .str "StringIO" 834⟩, ⟨hk p "__firstlineno__", .str "__firstlineno__" 837, .int 289 836⟩, ⟨hk p "__init__", .str "__init__" 850, .ref 425⟩, ⟨hk p "_StringIO__translated", .str "_StringIO__translated" 859, .ref 432⟩, ⟨hk p "_StringIO__check", .str "_StringIO__check" 866, .ref 439⟩, ⟨hk p "_StringIO__check_dot", .str "_StringIO__check_dot" 873, .ref 446⟩, ⟨hk p "_StringIO__line", .str "_StringIO__line" 888, .ref 453⟩, ⟨hk p "closed", .str "closed" 896, .ref 461⟩, ⟨hk p "line_buffering", .str "line_buffering" 904, .ref 469⟩, ⟨hk p "newlines", .str "newlines" 912, .ref 477⟩, ⟨hk p "encoding", .str "encoding" 920, .ref 485⟩, ⟨hk p "errors", .str "errors" 928, .ref 493⟩, ⟨hk p "close", .str "close" 935, .ref 500⟩, ⟨hk p "__enter__", .str "__enter__" 942, .ref 507⟩, ⟨hk p "__exit__", .str "__exit__" 950, .ref 514⟩, ⟨hk p "readable", .str "readable" 957, .ref 521⟩, ⟨hk p "writable", .str "writable" 964, .ref 528⟩, ⟨hk p "seekable", .str "seekable" 971, .ref 535⟩, ⟨hk p "isatty", .str "isatty" 978, .ref 542⟩, ⟨hk p "flush", .str "flush" 985, .ref 549⟩, ⟨hk p "fileno", .str "fileno" 992, .ref 556⟩, ⟨hk p "detach", .str "detach" 999, .ref 563⟩, ⟨hk p "getvalue", .str "getvalue" 1006, .ref 570⟩, ⟨hk p "tell", .str "tell" 1013, .ref 577⟩, ⟨hk p "seek", .str "seek" 1023, .ref 585⟩, ⟨hk p "truncate", .str "truncate" 1031, .ref 593⟩, ⟨hk p "read", .str "read" 1043, .ref 601⟩, ⟨hk p "readline", .str "readline" 1053, .ref 609⟩, ⟨hk p "readlines", .str "readlines" 1063, .ref 617⟩, ⟨hk p "__iter__", .str "__iter__" 1070, .ref 624⟩, ⟨hk p "__next__", .str "__next__" 1078, .ref 631⟩, ⟨hk p "write", .str "write" 1090, .ref 638⟩, ⟨hk p "writelines", .str "writelines" 1098, .ref 645⟩, ⟨hk p "__repr__", .str "__repr__" 1105, .ref 652⟩, ⟨hk p "__static_attributes__", .str "__static_attributes__" 1109, .ref 653⟩] 36, #[]⟩
noncomputable def x265 (p : Params) : Obj := ⟨.none, none, .fields #[.int 292 0, .int 4 0, .ref 424, .int 305 0, .int 4 0, .ref 431, .int 313 0, .int 4 0, .ref 438, .int 317 0, .int 4 0, .ref 445, .int 321 0, .int 4 0, .ref 452, .int 354 0, .int 4 0, .ref 459, .int 358 0, .int 4 0, .ref 467, .int 362 0, .int 4 0, .ref 475, .int 366 0, .int 4 0, .ref 483, .int 370 0, .int 4 0, .ref 491, .int 373 0, .int 4 0, .ref 499, .int 376 0, .int 4 0, .ref 506, .int 380 0, .int 4 0, .ref 513, .int 383 0, .int 4 0, .ref 520, .int 387 0, .int 4 0, .ref 527, .int 391 0, .int 4 0, .ref 534, .int 395 0, .int 4 0, .ref 541, .int 399 0, .int 4 0, .ref 548, .int 402 0, .int 4 0, .ref 555, .int 405 0, .int 4 0, .ref 562, .int 408 0, .int 4 0, .ref 569, .int 411 0, .int 4 0, .ref 576, .int 415 0, .int 4 0, .ref 584, .int 432 0, .int 4 0, .ref 592, .int 435 0, .int 4 0, .ref 600, .int 449 0, .int 4 0, .ref 608, .int 456 0, .int 4 0, .ref 616, .int 459 0, .int 4 0, .ref 623, .int 463 0, .int 4 0, .ref 630, .int 470 0, .int 4 0, .ref 637, .int 489 0, .int 4 0, .ref 644, .int 492 0, .int 4 0, .ref 651], #[]⟩
noncomputable def x266 (p : Params) : Obj := ⟨.type "code", none, .fields #[.str "StringIO" 828, .str "StringIO" 829, .str "/claim/cut.py" 830, .int 289 0, .int 0 0, .int 0 0, .int 0 0, .int 0 0, .ref 414, .bool false, .int 318 0, .ref 415, .none, .none, .none, .none, .int 831 0, .int 289 0, .str "/claim/cut.py" 832], #[]⟩
noncomputable def x267 (p : Params) : Obj := ⟨.type "frame", none, .plain, #[some (.ref 416), some (.ref 3), some (.ref 413), none, some (.str "io" 456), none, some (.ref 0)]⟩
noncomputable def x268 (p : Params) : Obj := ⟨.type "tuple", none, .seq #[.str "" 840, .str "\n" 841] 0, #[]⟩
noncomputable def x269 (p : Params) : Obj := ⟨.type "tuple", none, .seq #[.str "self" 845, .str "initial_value" 846, .str "newline" 847] 0, #[]⟩
noncomputable def x270 (p : Params) : Obj := ⟨.none, none, .func ⟨"__init__", "StringIO.__init__", fA [23, 1], .stmts (fB [23, 1]), fS [23, 1], 0, [], .none, .none, .none, .none, none, .none, .none, 0⟩, #[]⟩
noncomputable def x271 (p : Params) : Obj := ⟨.type "code", none, .fields #[.str "__init__" 842, .str "StringIO.__init__" 843, .str "/claim/cut.py" 844, .int 292 0, .int 3 0, .int 0 0, .int 0 0, .int 3 0, .ref 419, .bool true, .int 318 0, .ref 420, .none, .ref 421, .ref 422, .ref 423, .int 848 0, .int 292 0, .str "/claim/cut.py" 849], #[]⟩
noncomputable def x272 (p : Params) : Obj := ⟨.type "function", none, .func ⟨"__init__", "StringIO.__init__", fA [23, 1], .stmts (fB [23, 1]), fS [23, 1], 3, [], .ref 418, .none, .none, .str "io" 456, none, .ref 424, .none, 0⟩, #[]⟩
noncomputable def x273 (p : Params) : Obj := ⟨.type "tuple", none, .seq #[.str "self" 854, .str "s" 855, .str "newline" 856] 0, #[]⟩
noncomputable def x274 (p : Params) : Obj := ⟨.none, none, .func ⟨"__translated", "StringIO.__translated", fA [23, 2], .stmts (fB [23, 2]), fS [23, 2], 0, [], .none, .none, .none, .none, none, .none, .none, 0⟩, #[]⟩
noncomputable def x275 (p : Params) : Obj := ⟨.type "code", none, .fields #[.str "__translated" 851, .str "StringIO.__translated" 852, .str "/claim/cut.py" 853, .int 305 0, .int 2 0, .int 0 0, .int 0 0, .int 3 0, .ref 426, .bool true, .int 318 0, .ref 427, .none, .ref 428, .ref 429, .ref 430, .int 857 0, .int 305 0, .str "/claim/cut.py" 858], #[]⟩
noncomputable def x276 (p : Params) : Obj := ⟨.type "function", none, .func ⟨"__translated", "StringIO.__translated", fA [23, 2], .stmts (fB [23, 2]), fS [23, 2], 3, [], .none, .none, .none, .str "io" 456, none, .ref 431, .none, 0⟩, #[]⟩
noncomputable def x277 (p : Params) : Obj := ⟨.type "tuple", none, .seq #[.str "self" 863] 0, #[]⟩
noncomputable def x278 (p : Params) : Obj := ⟨.none, none, .func ⟨"__check", "StringIO.__check", fA [23, 3], .stmts (fB [23, 3]), fS [22, 2], 0, [], .none, .none, .none, .none, none, .none, .none, 0⟩, #[]⟩
noncomputable def x279 (p : Params) : Obj := ⟨.type "code", none, .fields #[.str "__check" 860, .str "StringIO.__check" 861, .str "/claim/cut.py" 862, .int 313 0, .int 1 0, .int 0 0, .int 0 0, .int 3 0, .ref 433, .bool true, .int 318 0, .ref 434, .none, .ref 435, .ref 436, .ref 437, .int 864 0, .int 313 0, .str "/claim/cut.py" 865], #[]⟩
noncomputable def x280 (p : Params) : Obj := ⟨.type "function", none, .func ⟨"__check", "StringIO.__check", fA [23, 3], .stmts (fB [23, 3]), fS [22, 2], 3, [], .none, .none, .none, .str "io" 456, none, .ref 438, .none, 0⟩, #[]⟩
noncomputable def x281 (p : Params) : Obj := ⟨.type "tuple", none, .seq #[.str "self" 870] 0, #[]⟩
noncomputable def x282 (p : Params) : Obj := ⟨.none, none, .func ⟨"__check_dot", "StringIO.__check_dot", fA [23, 4], .stmts (fB [23, 4]), fS [22, 2], 0, [], .none, .none, .none, .none, none, .none, .none, 0⟩, #[]⟩
noncomputable def x283 (p : Params) : Obj := ⟨.type "code", none, .fields #[.str "__check_dot" 867, .str "StringIO.__check_dot" 868, .str "/claim/cut.py" 869, .int 317 0, .int 1 0, .int 0 0, .int 0 0, .int 3 0, .ref 440, .bool true, .int 318 0, .ref 441, .none, .ref 442, .ref 443, .ref 444, .int 871 0, .int 317 0, .str "/claim/cut.py" 872], #[]⟩
noncomputable def x284 (p : Params) : Obj := ⟨.type "function", none, .func ⟨"__check_dot", "StringIO.__check_dot", fA [23, 4], .stmts (fB [23, 4]), fS [22, 2], 3, [], .none, .none, .none, .str "io" 456, none, .ref 445, .none, 0⟩, #[]⟩
noncomputable def x285 (p : Params) : Obj := ⟨.type "tuple", none, .seq #[.str "self" 877, .str "limit" 878, .str "start" 879, .str "stop" 880, .str "cut" 881, .str "newline" 882, .str "i" 883, .str "j" 884, .str "end" 885] 0, #[]⟩
noncomputable def x286 (p : Params) : Obj := ⟨.none, none, .func ⟨"__line", "StringIO.__line", fA [23, 5], .stmts (fB [23, 5]), fS [23, 5], 0, [], .none, .none, .none, .none, none, .none, .none, 0⟩, #[]⟩
noncomputable def x287 (p : Params) : Obj := ⟨.type "code", none, .fields #[.str "__line" 874, .str "StringIO.__line" 875, .str "/claim/cut.py" 876, .int 321 0, .int 2 0, .int 0 0, .int 0 0, .int 3 0, .ref 447, .bool true, .int 318 0, .ref 448, .none, .ref 449, .ref 450, .ref 451, .int 886 0, .int 321 0, .str "/claim/cut.py" 887], #[]⟩
noncomputable def x288 (p : Params) : Obj := ⟨.type "function", none, .func ⟨"__line", "StringIO.__line", fA [23, 5], .stmts (fB [23, 5]), fS [23, 5], 3, [], .none, .none, .none, .str "io" 456, none, .ref 452, .none, 0⟩, #[]⟩
noncomputable def x289 (p : Params) : Obj := ⟨.type "tuple", none, .seq #[.str "self" 892] 0, #[]⟩
noncomputable def x290 (p : Params) : Obj := ⟨.none, none, .func ⟨"closed", "StringIO.closed", fA [23, 6], .stmts (fB [23, 6]), fS [22, 4], 0, [], .none, .none, .none, .none, none, .none, .none, 0⟩, #[]⟩
noncomputable def x291 (p : Params) : Obj := ⟨.type "code", none, .fields #[.str "closed" 889, .str "StringIO.closed" 890, .str "/claim/cut.py" 891, .int 353 0, .int 1 0, .int 0 0, .int 0 0, .int 3 0, .ref 454, .bool true, .int 318 0, .ref 455, .none, .ref 456, .ref 457, .ref 458, .int 893 0, .int 353 0, .str "/claim/cut.py" 894], #[]⟩
noncomputable def x292 (p : Params) : Obj := ⟨.type "function", none, .func ⟨"closed", "StringIO.closed", fA [23, 6], .stmts (fB [23, 6]), fS [22, 4], 3, [], .none, .none, .none, .str "io" 456, none, .ref 459, .none, 0⟩, #[]⟩
noncomputable def x293 (p : Params) : Obj := ⟨.type "property", none, .fields #[.ref 460, .none, .none, .none, .str "closed" 896, .bool false], #[]⟩
noncomputable def x294 (p : Params) : Obj := ⟨.type "tuple", none, .seq #[.str "self" 900] 0, #[]⟩
noncomputable def x295 (p : Params) : Obj := ⟨.none, none, .func ⟨"line_buffering", "StringIO.line_buffering", fA [23, 7], .stmts (fB [23, 7]), fS [22, 14], 0, [], .none, .none, .none, .none, none, .none, .none, 0⟩, #[]⟩
noncomputable def x296 (p : Params) : Obj := ⟨.type "code", none, .fields #[.str "line_buffering" 897, .str "StringIO.line_buffering" 898, .str "/claim/cut.py" 899, .int 357 0, .int 1 0, .int 0 0, .int 0 0, .int 3 0, .ref 462, .bool true, .int 318 0, .ref 463, .none, .ref 464, .ref 465, .ref 466, .int 901 0, .int 357 0, .str "/claim/cut.py" 902], #[]⟩
noncomputable def x297 (p : Params) : Obj := ⟨.type "function", none, .func ⟨"line_buffering", "StringIO.line_buffering", fA [23, 7], .stmts (fB [23, 7]), fS [22, 14], 3, [], .none, .none, .none, .str "io" 456, none, .ref 467, .none, 0⟩, #[]⟩
noncomputable def x298 (p : Params) : Obj := ⟨.type "property", none, .fields #[.ref 468, .none, .none, .none, .str "line_buffering" 904, .bool false], #[]⟩
noncomputable def x299 (p : Params) : Obj := ⟨.type "tuple", none, .seq #[.str "self" 908] 0, #[]⟩
noncomputable def x300 (p : Params) : Obj := ⟨.none, none, .func ⟨"newlines", "StringIO.newlines", fA [23, 8], .stmts (fB [23, 8]), fS [22, 14], 0, [], .none, .none, .none, .none, none, .none, .none, 0⟩, #[]⟩
noncomputable def x301 (p : Params) : Obj := ⟨.type "code", none, .fields #[.str "newlines" 905, .str "StringIO.newlines" 906, .str "/claim/cut.py" 907, .int 361 0, .int 1 0, .int 0 0, .int 0 0, .int 3 0, .ref 470, .bool true, .int 318 0, .ref 471, .none, .ref 472, .ref 473, .ref 474, .int 909 0, .int 361 0, .str "/claim/cut.py" 910], #[]⟩
noncomputable def x302 (p : Params) : Obj := ⟨.type "function", none, .func ⟨"newlines", "StringIO.newlines", fA [23, 8], .stmts (fB [23, 8]), fS [22, 14], 3, [], .none, .none, .none, .str "io" 456, none, .ref 475, .none, 0⟩, #[]⟩
noncomputable def x303 (p : Params) : Obj := ⟨.type "property", none, .fields #[.ref 476, .none, .none, .none, .str "newlines" 912, .bool false], #[]⟩
noncomputable def x304 (p : Params) : Obj := ⟨.type "tuple", none, .seq #[.str "self" 916] 0, #[]⟩
noncomputable def x305 (p : Params) : Obj := ⟨.none, none, .func ⟨"encoding", "StringIO.encoding", fA [23, 9], .stmts (fB [23, 9]), fS [22, 14], 0, [], .none, .none, .none, .none, none, .none, .none, 0⟩, #[]⟩
noncomputable def x306 (p : Params) : Obj := ⟨.type "code", none, .fields #[.str "encoding" 913, .str "StringIO.encoding" 914, .str "/claim/cut.py" 915, .int 365 0, .int 1 0, .int 0 0, .int 0 0, .int 3 0, .ref 478, .bool true, .int 318 0, .ref 479, .none, .ref 480, .ref 481, .ref 482, .int 917 0, .int 365 0, .str "/claim/cut.py" 918], #[]⟩
noncomputable def x307 (p : Params) : Obj := ⟨.type "function", none, .func ⟨"encoding", "StringIO.encoding", fA [23, 9], .stmts (fB [23, 9]), fS [22, 14], 3, [], .none, .none, .none, .str "io" 456, none, .ref 483, .none, 0⟩, #[]⟩
noncomputable def x308 (p : Params) : Obj := ⟨.type "property", none, .fields #[.ref 484, .none, .none, .none, .str "encoding" 920, .bool false], #[]⟩
noncomputable def x309 (p : Params) : Obj := ⟨.type "tuple", none, .seq #[.str "self" 924] 0, #[]⟩
noncomputable def x310 (p : Params) : Obj := ⟨.none, none, .func ⟨"errors", "StringIO.errors", fA [23, 10], .stmts (fB [23, 10]), fS [22, 14], 0, [], .none, .none, .none, .none, none, .none, .none, 0⟩, #[]⟩
noncomputable def x311 (p : Params) : Obj := ⟨.type "code", none, .fields #[.str "errors" 921, .str "StringIO.errors" 922, .str "/claim/cut.py" 923, .int 369 0, .int 1 0, .int 0 0, .int 0 0, .int 3 0, .ref 486, .bool true, .int 318 0, .ref 487, .none, .ref 488, .ref 489, .ref 490, .int 925 0, .int 369 0, .str "/claim/cut.py" 926], #[]⟩
noncomputable def x312 (p : Params) : Obj := ⟨.type "function", none, .func ⟨"errors", "StringIO.errors", fA [23, 10], .stmts (fB [23, 10]), fS [22, 14], 3, [], .none, .none, .none, .str "io" 456, none, .ref 491, .none, 0⟩, #[]⟩
noncomputable def x313 (p : Params) : Obj := ⟨.type "property", none, .fields #[.ref 492, .none, .none, .none, .str "errors" 928, .bool false], #[]⟩
noncomputable def x314 (p : Params) : Obj := ⟨.type "tuple", none, .seq #[.str "self" 932] 0, #[]⟩
noncomputable def x315 (p : Params) : Obj := ⟨.none, none, .func ⟨"close", "StringIO.close", fA [23, 11], .stmts (fB [23, 11]), fS [22, 4], 0, [], .none, .none, .none, .none, none, .none, .none, 0⟩, #[]⟩
noncomputable def x316 (p : Params) : Obj := ⟨.type "code", none, .fields #[.str "close" 929, .str "StringIO.close" 930, .str "/claim/cut.py" 931, .int 373 0, .int 1 0, .int 0 0, .int 0 0, .int 3 0, .ref 494, .bool true, .int 318 0, .ref 495, .none, .ref 496, .ref 497, .ref 498, .int 933 0, .int 373 0, .str "/claim/cut.py" 934], #[]⟩
noncomputable def x317 (p : Params) : Obj := ⟨.type "function", none, .func ⟨"close", "StringIO.close", fA [23, 11], .stmts (fB [23, 11]), fS [22, 4], 3, [], .none, .none, .none, .str "io" 456, none, .ref 499, .none, 0⟩, #[]⟩
noncomputable def x318 (p : Params) : Obj := ⟨.type "tuple", none, .seq #[.str "self" 939] 0, #[]⟩
noncomputable def x319 (p : Params) : Obj := ⟨.none, none, .func ⟨"__enter__", "StringIO.__enter__", fA [23, 12], .stmts (fB [23, 12]), fS [22, 4], 0, [], .none, .none, .none, .none, none, .none, .none, 0⟩, #[]⟩
noncomputable def x320 (p : Params) : Obj := ⟨.type "code", none, .fields #[.str "__enter__" 936, .str "StringIO.__enter__" 937, .str "/claim/cut.py" 938, .int 376 0, .int 1 0, .int 0 0, .int 0 0, .int 3 0, .ref 501, .bool true, .int 318 0, .ref 502, .none, .ref 503, .ref 504, .ref 505, .int 940 0, .int 376 0, .str "/claim/cut.py" 941], #[]⟩
noncomputable def x321 (p : Params) : Obj := ⟨.type "function", none, .func ⟨"__enter__", "StringIO.__enter__", fA [23, 12], .stmts (fB [23, 12]), fS [22, 4], 3, [], .none, .none, .none, .str "io" 456, none, .ref 506, .none, 0⟩, #[]⟩
noncomputable def x322 (p : Params) : Obj := ⟨.type "tuple", none, .seq #[.str "self" 946, .str "args" 947] 0, #[]⟩
noncomputable def x323 (p : Params) : Obj := ⟨.none, none, .func ⟨"__exit__", "StringIO.__exit__", fA [23, 13], .stmts (fB [23, 13]), fS [22, 7], 0, [], .none, .none, .none, .none, none, .none, .none, 0⟩, #[]⟩
noncomputable def x324 (p : Params) : Obj := ⟨.type "code", none, .fields #[.str "__exit__" 943, .str "StringIO.__exit__" 944, .str "/claim/cut.py" 945, .int 380 0, .int 1 0, .int 0 0, .int 0 0, .int 7 0, .ref 508, .bool true, .int 318 0, .ref 509, .none, .ref 510, .ref 511, .ref 512, .int 948 0, .int 380 0, .str "/claim/cut.py" 949], #[]⟩
noncomputable def x325 (p : Params) : Obj := ⟨.type "function", none, .func ⟨"__exit__", "StringIO.__exit__", fA [23, 13], .stmts (fB [23, 13]), fS [22, 7], 3, [], .none, .none, .none, .str "io" 456, none, .ref 513, .none, 0⟩, #[]⟩
noncomputable def x326 (p : Params) : Obj := ⟨.type "tuple", none, .seq #[.str "self" 954] 0, #[]⟩
noncomputable def x327 (p : Params) : Obj := ⟨.none, none, .func ⟨"readable", "StringIO.readable", fA [23, 14], .stmts (fB [23, 14]), fS [22, 4], 0, [], .none, .none, .none, .none, none, .none, .none, 0⟩, #[]⟩
noncomputable def x328 (p : Params) : Obj := ⟨.type "code", none, .fields #[.str "readable" 951, .str "StringIO.readable" 952, .str "/claim/cut.py" 953, .int 383 0, .int 1 0, .int 0 0, .int 0 0, .int 3 0, .ref 515, .bool true, .int 318 0, .ref 516, .none, .ref 517, .ref 518, .ref 519, .int 955 0, .int 383 0, .str "/claim/cut.py" 956], #[]⟩
noncomputable def x329 (p : Params) : Obj := ⟨.type "function", none, .func ⟨"readable", "StringIO.readable", fA [23, 14], .stmts (fB [23, 14]), fS [22, 4], 3, [], .none, .none, .none, .str "io" 456, none, .ref 520, .none, 0⟩, #[]⟩
noncomputable def x330 (p : Params) : Obj := ⟨.type "tuple", none, .seq #[.str "self" 961] 0, #[]⟩
noncomputable def x331 (p : Params) : Obj := ⟨.none, none, .func ⟨"writable", "StringIO.writable", fA [23, 15], .stmts (fB [23, 15]), fS [22, 4], 0, [], .none, .none, .none, .none, none, .none, .none, 0⟩, #[]⟩
noncomputable def x332 (p : Params) : Obj := ⟨.type "code", none, .fields #[.str "writable" 958, .str "StringIO.writable" 959, .str "/claim/cut.py" 960, .int 387 0, .int 1 0, .int 0 0, .int 0 0, .int 3 0, .ref 522, .bool true, .int 318 0, .ref 523, .none, .ref 524, .ref 525, .ref 526, .int 962 0, .int 387 0, .str "/claim/cut.py" 963], #[]⟩
noncomputable def x333 (p : Params) : Obj := ⟨.type "function", none, .func ⟨"writable", "StringIO.writable", fA [23, 15], .stmts (fB [23, 15]), fS [22, 4], 3, [], .none, .none, .none, .str "io" 456, none, .ref 527, .none, 0⟩, #[]⟩
noncomputable def x334 (p : Params) : Obj := ⟨.type "tuple", none, .seq #[.str "self" 968] 0, #[]⟩
noncomputable def x335 (p : Params) : Obj := ⟨.none, none, .func ⟨"seekable", "StringIO.seekable", fA [23, 16], .stmts (fB [23, 16]), fS [22, 4], 0, [], .none, .none, .none, .none, none, .none, .none, 0⟩, #[]⟩
noncomputable def x336 (p : Params) : Obj := ⟨.type "code", none, .fields #[.str "seekable" 965, .str "StringIO.seekable" 966, .str "/claim/cut.py" 967, .int 391 0, .int 1 0, .int 0 0, .int 0 0, .int 3 0, .ref 529, .bool true, .int 318 0, .ref 530, .none, .ref 531, .ref 532, .ref 533, .int 969 0, .int 391 0, .str "/claim/cut.py" 970], #[]⟩
noncomputable def x337 (p : Params) : Obj := ⟨.type "function", none, .func ⟨"seekable", "StringIO.seekable", fA [23, 16], .stmts (fB [23, 16]), fS [22, 4], 3, [], .none, .none, .none, .str "io" 456, none, .ref 534, .none, 0⟩, #[]⟩
noncomputable def x338 (p : Params) : Obj := ⟨.type "tuple", none, .seq #[.str "self" 975] 0, #[]⟩
noncomputable def x339 (p : Params) : Obj := ⟨.none, none, .func ⟨"isatty", "StringIO.isatty", fA [23, 17], .stmts (fB [23, 17]), fS [22, 4], 0, [], .none, .none, .none, .none, none, .none, .none, 0⟩, #[]⟩
noncomputable def x340 (p : Params) : Obj := ⟨.type "code", none, .fields #[.str "isatty" 972, .str "StringIO.isatty" 973, .str "/claim/cut.py" 974, .int 395 0, .int 1 0, .int 0 0, .int 0 0, .int 3 0, .ref 536, .bool true, .int 318 0, .ref 537, .none, .ref 538, .ref 539, .ref 540, .int 976 0, .int 395 0, .str "/claim/cut.py" 977], #[]⟩
noncomputable def x341 (p : Params) : Obj := ⟨.type "function", none, .func ⟨"isatty", "StringIO.isatty", fA [23, 17], .stmts (fB [23, 17]), fS [22, 4], 3, [], .none, .none, .none, .str "io" 456, none, .ref 541, .none, 0⟩, #[]⟩
noncomputable def x342 (p : Params) : Obj := ⟨.type "tuple", none, .seq #[.str "self" 982] 0, #[]⟩
noncomputable def x343 (p : Params) : Obj := ⟨.none, none, .func ⟨"flush", "StringIO.flush", fA [23, 18], .stmts (fB [23, 18]), fS [22, 4], 0, [], .none, .none, .none, .none, none, .none, .none, 0⟩, #[]⟩
noncomputable def x344 (p : Params) : Obj := ⟨.type "code", none, .fields #[.str "flush" 979, .str "StringIO.flush" 980, .str "/claim/cut.py" 981, .int 399 0, .int 1 0, .int 0 0, .int 0 0, .int 3 0, .ref 543, .bool true, .int 318 0, .ref 544, .none, .ref 545, .ref 546, .ref 547, .int 983 0, .int 399 0, .str "/claim/cut.py" 984], #[]⟩
noncomputable def x345 (p : Params) : Obj := ⟨.type "function", none, .func ⟨"flush", "StringIO.flush", fA [23, 18], .stmts (fB [23, 18]), fS [22, 4], 3, [], .none, .none, .none, .str "io" 456, none, .ref 548, .none, 0⟩, #[]⟩
noncomputable def x346 (p : Params) : Obj := ⟨.type "tuple", none, .seq #[.str "self" 989] 0, #[]⟩
noncomputable def x347 (p : Params) : Obj := ⟨.none, none, .func ⟨"fileno", "StringIO.fileno", fA [23, 19], .stmts (fB [23, 19]), fS [22, 13], 0, [], .none, .none, .none, .none, none, .none, .none, 0⟩, #[]⟩
noncomputable def x348 (p : Params) : Obj := ⟨.type "code", none, .fields #[.str "fileno" 986, .str "StringIO.fileno" 987, .str "/claim/cut.py" 988, .int 402 0, .int 1 0, .int 0 0, .int 0 0, .int 3 0, .ref 550, .bool true, .int 318 0, .ref 551, .none, .ref 552, .ref 553, .ref 554, .int 990 0, .int 402 0, .str "/claim/cut.py" 991], #[]⟩
noncomputable def x349 (p : Params) : Obj := ⟨.type "function", none, .func ⟨"fileno", "StringIO.fileno", fA [23, 19], .stmts (fB [23, 19]), fS [22, 13], 3, [], .none, .none, .none, .str "io" 456, none, .ref 555, .none, 0⟩, #[]⟩
noncomputable def x350 (p : Params) : Obj := ⟨.type "tuple", none, .seq #[.str "self" 996] 0, #[]⟩
noncomputable def x351 (p : Params) : Obj := ⟨.none, none, .func ⟨"detach", "StringIO.detach", fA [23, 20], .stmts (fB [23, 20]), fS [22, 14], 0, [], .none, .none, .none, .none, none, .none, .none, 0⟩, #[]⟩
noncomputable def x352 (p : Params) : Obj := ⟨.type "code", none, .fields #[.str "detach" 993, .str "StringIO.detach" 994, .str "/claim/cut.py" 995, .int 405 0, .int 1 0, .int 0 0, .int 0 0, .int 3 0, .ref 557, .bool true, .int 318 0, .ref 558, .none, .ref 559, .ref 560, .ref 561, .int 997 0, .int 405 0, .str "/claim/cut.py" 998], #[]⟩
noncomputable def x353 (p : Params) : Obj := ⟨.type "function", none, .func ⟨"detach", "StringIO.detach", fA [23, 20], .stmts (fB [23, 20]), fS [22, 14], 3, [], .none, .none, .none, .str "io" 456, none, .ref 562, .none, 0⟩, #[]⟩
noncomputable def x354 (p : Params) : Obj := ⟨.type "tuple", none, .seq #[.str "self" 1003] 0, #[]⟩
noncomputable def x355 (p : Params) : Obj := ⟨.none, none, .func ⟨"getvalue", "StringIO.getvalue", fA [23, 21], .stmts (fB [23, 21]), fS [22, 14], 0, [], .none, .none, .none, .none, none, .none, .none, 0⟩, #[]⟩
noncomputable def x356 (p : Params) : Obj := ⟨.type "code", none, .fields #[.str "getvalue" 1000, .str "StringIO.getvalue" 1001, .str "/claim/cut.py" 1002, .int 408 0, .int 1 0, .int 0 0, .int 0 0, .int 3 0, .ref 564, .bool true, .int 318 0, .ref 565, .none, .ref 566, .ref 567, .ref 568, .int 1004 0, .int 408 0, .str "/claim/cut.py" 1005], #[]⟩
noncomputable def x357 (p : Params) : Obj := ⟨.type "function", none, .func ⟨"getvalue", "StringIO.getvalue", fA [23, 21], .stmts (fB [23, 21]), fS [22, 14], 3, [], .none, .none, .none, .str "io" 456, none, .ref 569, .none, 0⟩, #[]⟩
noncomputable def x358 (p : Params) : Obj := ⟨.type "tuple", none, .seq #[.str "self" 1010] 0, #[]⟩
noncomputable def x359 (p : Params) : Obj := ⟨.none, none, .func ⟨"tell", "StringIO.tell", fA [23, 22], .stmts (fB [23, 22]), fS [22, 4], 0, [], .none, .none, .none, .none, none, .none, .none, 0⟩, #[]⟩
noncomputable def x360 (p : Params) : Obj := ⟨.type "code", none, .fields #[.str "tell" 1007, .str "StringIO.tell" 1008, .str "/claim/cut.py" 1009, .int 411 0, .int 1 0, .int 0 0, .int 0 0, .int 3 0, .ref 571, .bool true, .int 318 0, .ref 572, .none, .ref 573, .ref 574, .ref 575, .int 1011 0, .int 411 0, .str "/claim/cut.py" 1012], #[]⟩
noncomputable def x361 (p : Params) : Obj := ⟨.type "function", none, .func ⟨"tell", "StringIO.tell", fA [23, 22], .stmts (fB [23, 22]), fS [22, 4], 3, [], .none, .none, .none, .str "io" 456, none, .ref 576, .none, 0⟩, #[]⟩
noncomputable def x362 (p : Params) : Obj := ⟨.type "tuple", none, .seq #[.int 0 1014] 0, #[]⟩
noncomputable def x363 (p : Params) : Obj := ⟨.type "tuple", none, .seq #[.str "self" 1018, .str "pos" 1019, .str "whence" 1020] 0, #[]⟩
noncomputable def x364 (p : Params) : Obj := ⟨.none, none, .func ⟨"seek", "StringIO.seek", fA [23, 23], .stmts (fB [23, 23]), fS [23, 23], 0, [], .none, .none, .none, .none, none, .none, .none, 0⟩, #[]⟩
noncomputable def x365 (p : Params) : Obj := ⟨.type "code", none, .fields #[.str "seek" 1015, .str "StringIO.seek" 1016, .str "/claim/cut.py" 1017, .int 415 0, .int 3 0, .int 3 0, .int 0 0, .int 3 0, .ref 579, .bool true, .int 318 0, .ref 580, .none, .ref 581, .ref 582, .ref 583, .int 1021 0, .int 415 0, .str "/claim/cut.py" 1022], #[]⟩
noncomputable def x366 (p : Params) : Obj := ⟨.type "function", none, .func ⟨"seek", "StringIO.seek", fA [23, 23], .stmts (fB [23, 23]), fS [23, 23], 3, [], .ref 578, .none, .none, .str "io" 456, none, .ref 584, .none, 0⟩, #[]⟩
noncomputable def x367 (p : Params) : Obj := ⟨.type "tuple", none, .seq #[.str "self" 1027, .str "pos" 1028] 0, #[]⟩
noncomputable def x368 (p : Params) : Obj := ⟨.none, none, .func ⟨"truncate", "StringIO.truncate", fA [23, 24], .stmts (fB [23, 24]), fS [23, 24], 0, [], .none, .none, .none, .none, none, .none, .none, 0⟩, #[]⟩
noncomputable def x369 (p : Params) : Obj := ⟨.type "code", none, .fields #[.str "truncate" 1024, .str "StringIO.truncate" 1025, .str "/claim/cut.py" 1026, .int 432 0, .int 2 0, .int 2 0, .int 0 0, .int 3 0, .ref 587, .bool true, .int 318 0, .ref 588, .none, .ref 589, .ref 590, .ref 591, .int 1029 0, .int 432 0, .str "/claim/cut.py" 1030], #[]⟩
noncomputable def x370 (p : Params) : Obj := ⟨.type "function", none, .func ⟨"truncate", "StringIO.truncate", fA [23, 24], .stmts (fB [23, 24]), fS [23, 24], 3, [], .ref 586, .none, .none, .str "io" 456, none, .ref 592, .none, 0⟩, #[]⟩
noncomputable def x371 (p : Params) : Obj := ⟨.type "tuple", none, .seq #[.int (-1) 1033] 0, #[]⟩
noncomputable def x372 (p : Params) : Obj := ⟨.type "tuple", none, .seq #[.str "self" 1037, .str "size" 1038, .str "start" 1039, .str "stop" 1040] 0, #[]⟩
noncomputable def x373 (p : Params) : Obj := ⟨.none, none, .func ⟨"read", "StringIO.read", fA [23, 25], .stmts (fB [23, 25]), fS [23, 25], 0, [], .none, .none, .none, .none, none, .none, .none, 0⟩, #[]⟩
noncomputable def x374 (p : Params) : Obj := ⟨.type "code", none, .fields #[.str "read" 1034, .str "StringIO.read" 1035, .str "/claim/cut.py" 1036, .int 435 0, .int 2 0, .int 2 0, .int 0 0, .int 3 0, .ref 595, .bool true, .int 318 0, .ref 596, .none, .ref 597, .ref 598, .ref 599, .int 1041 0, .int 435 0, .str "/claim/cut.py" 1042], #[]⟩
noncomputable def x375 (p : Params) : Obj := ⟨.type "function", none, .func ⟨"read", "StringIO.read", fA [23, 25], .stmts (fB [23, 25]), fS [23, 25], 3, [], .ref 594, .none, .none, .str "io" 456, none, .ref 600, .none, 0⟩, #[]⟩
noncomputable def x376 (p : Params) : Obj := ⟨.type "tuple", none, .seq #[.int (-1) 1045] 0, #[]⟩
noncomputable def x377 (p : Params) : Obj := ⟨.type "tuple", none, .seq #[.str "self" 1049, .str "size" 1050] 0, #[]⟩
noncomputable def x378 (p : Params) : Obj := ⟨.none, none, .func ⟨"readline", "StringIO.readline", fA [23, 26], .stmts (fB [23, 26]), fS [22, 24], 0, [], .none, .none, .none, .none, none, .none, .none, 0⟩, #[]⟩
noncomputable def x379 (p : Params) : Obj := ⟨.type "code", none, .fields #[.str "readline" 1046, .str "StringIO.readline" 1047, .str "/claim/cut.py" 1048, .int 449 0, .int 2 0, .int 2 0, .int 0 0, .int 3 0, .ref 603, .bool true, .int 318 0, .ref 604, .none, .ref 605, .ref 606, .ref 607, .int 1051 0, .int 449 0, .str "/claim/cut.py" 1052], #[]⟩
noncomputable def x380 (p : Params) : Obj := ⟨.type "function", none, .func ⟨"readline", "StringIO.readline", fA [23, 26], .stmts (fB [23, 26]), fS [22, 24], 3, [], .ref 602, .none, .none, .str "io" 456, none, .ref 608, .none, 0⟩, #[]⟩
noncomputable def x381 (p : Params) : Obj := ⟨.type "tuple", none, .seq #[.int (-1) 1055] 0, #[]⟩
noncomputable def x382 (p : Params) : Obj := ⟨.type "tuple", none, .seq #[.str "self" 1059, .str "hint" 1060] 0, #[]⟩
noncomputable def x383 (p : Params) : Obj := ⟨.none, none, .func ⟨"readlines", "StringIO.readlines", fA [23, 27], .stmts (fB [23, 27]), fS [23, 27], 0, [], .none, .none, .none, .none, none, .none, .none, 0⟩, #[]⟩
noncomputable def x384 (p : Params) : Obj := ⟨.type "code", none, .fields #[.str "readlines" 1056, .str "StringIO.readlines" 1057, .str "/claim/cut.py" 1058, .int 456 0, .int 2 0, .int 2 0, .int 0 0, .int 3 0, .ref 611, .bool true, .int 318 0, .ref 612, .none, .ref 613, .ref 614, .ref 615, .int 1061 0, .int 456 0, .str "/claim/cut.py" 1062], #[]⟩
noncomputable def x385 (p : Params) : Obj := ⟨.type "function", none, .func ⟨"readlines", "StringIO.readlines", fA [23, 27], .stmts (fB [23, 27]), fS [23, 27], 3, [], .ref 610, .none, .none, .str "io" 456, none, .ref 616, .none, 0⟩, #[]⟩
noncomputable def x386 (p : Params) : Obj := ⟨.type "tuple", none, .seq #[.str "self" 1067] 0, #[]⟩
noncomputable def x387 (p : Params) : Obj := ⟨.none, none, .func ⟨"__iter__", "StringIO.__iter__", fA [23, 28], .stmts (fB [23, 28]), fS [22, 4], 0, [], .none, .none, .none, .none, none, .none, .none, 0⟩, #[]⟩
noncomputable def x388 (p : Params) : Obj := ⟨.type "code", none, .fields #[.str "__iter__" 1064, .str "StringIO.__iter__" 1065, .str "/claim/cut.py" 1066, .int 459 0, .int 1 0, .int 0 0, .int 0 0, .int 3 0, .ref 618, .bool true, .int 318 0, .ref 619, .none, .ref 620, .ref 621, .ref 622, .int 1068 0, .int 459 0, .str "/claim/cut.py" 1069], #[]⟩
noncomputable def x389 (p : Params) : Obj := ⟨.type "function", none, .func ⟨"__iter__", "StringIO.__iter__", fA [23, 28], .stmts (fB [23, 28]), fS [22, 4], 3, [], .none, .none, .none, .str "io" 456, none, .ref 623, .none, 0⟩, #[]⟩
noncomputable def x390 (p : Params) : Obj := ⟨.type "tuple", none, .seq #[.str "self" 1074, .str "line" 1075] 0, #[]⟩
noncomputable def x391 (p : Params) : Obj := ⟨.none, none, .func ⟨"__next__", "StringIO.__next__", fA [23, 29], .stmts (fB [23, 29]), fS [22, 27], 0, [], .none, .none, .none, .none, none, .none, .none, 0⟩, #[]⟩
noncomputable def x392 (p : Params) : Obj := ⟨.type "code", none, .fields #[.str "__next__" 1071, .str "StringIO.__next__" 1072, .str "/claim/cut.py" 1073, .int 463 0, .int 1 0, .int 0 0, .int 0 0, .int 3 0, .ref 625, .bool true, .int 318 0, .ref 626, .none, .ref 627, .ref 628, .ref 629, .int 1076 0, .int 463 0, .str "/claim/cut.py" 1077], #[]⟩
noncomputable def x393 (p : Params) : Obj := ⟨.type "function", none, .func ⟨"__next__", "StringIO.__next__", fA [23, 29], .stmts (fB [23, 29]), fS [22, 27], 3, [], .none, .none, .none, .str "io" 456, none, .ref 630, .none, 0⟩, #[]⟩
noncomputable def x394 (p : Params) : Obj := ⟨.type "tuple", none, .seq #[.str "self" 1082, .str "s" 1083, .str "n" 1084, .str "m" 1085, .str "start" 1086, .str "buf" 1087] 0, #[]⟩
noncomputable def x395 (p : Params) : Obj := ⟨.none, none, .func ⟨"write", "StringIO.write", fA [23, 30], .stmts (fB [23, 30]), fS [23, 30], 0, [], .none, .none, .none, .none, none, .none, .none, 0⟩, #[]⟩
noncomputable def x396 (p : Params) : Obj := ⟨.type "code", none, .fields #[.str "write" 1079, .str "StringIO.write" 1080, .str "/claim/cut.py" 1081, .int 470 0, .int 2 0, .int 2 0, .int 0 0, .int 3 0, .ref 632, .bool true, .int 318 0, .ref 633, .none, .ref 634, .ref 635, .ref 636, .int 1088 0, .int 470 0, .str "/claim/cut.py" 1089], #[]⟩
noncomputable def x397 (p : Params) : Obj := ⟨.type "function", none, .func ⟨"write", "StringIO.write", fA [23, 30], .stmts (fB [23, 30]), fS [23, 30], 3, [], .none, .none, .none, .str "io" 456, none, .ref 637, .none, 0⟩, #[]⟩
noncomputable def x398 (p : Params) : Obj := ⟨.type "tuple", none, .seq #[.str "self" 1094, .str "lines" 1095] 0, #[]⟩
noncomputable def x399 (p : Params) : Obj := ⟨.none, none, .func ⟨"writelines", "StringIO.writelines", fA [23, 31], .stmts (fB [23, 31]), fS [22, 29], 0, [], .none, .none, .none, .none, none, .none, .none, 0⟩, #[]⟩
noncomputable def x400 (p : Params) : Obj := ⟨.type "code", none, .fields #[.str "writelines" 1091, .str "StringIO.writelines" 1092, .str "/claim/cut.py" 1093, .int 489 0, .int 2 0, .int 2 0, .int 0 0, .int 3 0, .ref 639, .bool true, .int 318 0, .ref 640, .none, .ref 641, .ref 642, .ref 643, .int 1096 0, .int 489 0, .str "/claim/cut.py" 1097], #[]⟩
noncomputable def x401 (p : Params) : Obj := ⟨.type "function", none, .func ⟨"writelines", "StringIO.writelines", fA [23, 31], .stmts (fB [23, 31]), fS [22, 29], 3, [], .none, .none, .none, .str "io" 456, none, .ref 644, .none, 0⟩, #[]⟩
noncomputable def x402 (p : Params) : Obj := ⟨.type "tuple", none, .seq #[.str "self" 1102] 0, #[]⟩
noncomputable def x403 (p : Params) : Obj := ⟨.none, none, .func ⟨"__repr__", "StringIO.__repr__", fA [23, 32], .stmts (fB [23, 32]), fS [22, 14], 0, [], .none, .none, .none, .none, none, .none, .none, 0⟩, #[]⟩
noncomputable def x404 (p : Params) : Obj := ⟨.type "code", none, .fields #[.str "__repr__" 1099, .str "StringIO.__repr__" 1100, .str "/claim/cut.py" 1101, .int 492 0, .int 1 0, .int 0 0, .int 0 0, .int 3 0, .ref 646, .bool true, .int 318 0, .ref 647, .none, .ref 648, .ref 649, .ref 650, .int 1103 0, .int 492 0, .str "/claim/cut.py" 1104], #[]⟩
noncomputable def x405 (p : Params) : Obj := ⟨.type "function", none, .func ⟨"__repr__", "StringIO.__repr__", fA [23, 32], .stmts (fB [23, 32]), fS [22, 14], 3, [], .none, .none, .none, .str "io" 456, none, .ref 651, .none, 0⟩, #[]⟩
noncomputable def x406 (p : Params) : Obj := ⟨.type "tuple", none, .seq #[.str "__buf" 1106, .str "__newline" 1107, .str "__pos" 1108] 0, #[]⟩
noncomputable def x407 (p : Params) : Obj := ⟨.type "dict", none, .dict #[⟨hk p "__module__", .str "__module__" 833, .str "_io" 838⟩, ⟨hk p "__firstlineno__", .str "__firstlineno__" 837, .int 289 836⟩, ⟨hk p "__init__", .str "__init__" 850, .ref 425⟩, ⟨hk p "_StringIO__translated", .str "_StringIO__translated" 859, .ref 432⟩, ⟨hk p "_StringIO__check", .str "_StringIO__check" 866, .ref 439⟩, ⟨hk p "_StringIO__check_dot", .str "_StringIO__check_dot" 873, .ref 446⟩, ⟨hk p "_StringIO__line", .str "_StringIO__line" 888, .ref 453⟩, ⟨hk p "closed", .str "closed" 896, .ref 461⟩, ⟨hk p "line_buffering", .str "line_buffering" 904, .ref 469⟩, ⟨hk p "newlines", .str "newlines" 912, .ref 477⟩, ⟨hk p "encoding", .str "encoding" 920, .ref 485⟩, ⟨hk p "errors", .str "errors" 928, .ref 493⟩, ⟨hk p "close", .str "close" 935, .ref 500⟩, ⟨hk p "__enter__", .str "__enter__" 942, .ref 507⟩, ⟨hk p "__exit__", .str "__exit__" 950, .ref 514⟩, ⟨hk p "readable", .str "readable" 957, .ref 521⟩, ⟨hk p "writable", .str "writable" 964, .ref 528⟩, ⟨hk p "seekable", .str "seekable" 971, .ref 535⟩, ⟨hk p "isatty", .str "isatty" 978, .ref 542⟩, ⟨hk p "flush", .str "flush" 985, .ref 549⟩, ⟨hk p "fileno", .str "fileno" 992, .ref 556⟩, ⟨hk p "detach", .str "detach" 999, .ref 563⟩, ⟨hk p "getvalue", .str "getvalue" 1006, .ref 570⟩, ⟨hk p "tell", .str "tell" 1013, .ref 577⟩, ⟨hk p "seek", .str "seek" 1023, .ref 585⟩, ⟨hk p "truncate", .str "truncate" 1031, .ref 593⟩, ⟨hk p "read", .str "read" 1043, .ref 601⟩, ⟨hk p "readline", .str "readline" 1053, .ref 609⟩, ⟨hk p "readlines", .str "readlines" 1063, .ref 617⟩, ⟨hk p "__iter__", .str "__iter__" 1070, .ref 624⟩, ⟨hk p "__next__", .str "__next__" 1078, .ref 631⟩, ⟨hk p "write", .str "write" 1090, .ref 638⟩, ⟨hk p "writelines", .str "writelines" 1098, .ref 645⟩, ⟨hk p "__repr__", .str "__repr__" 1105, .ref 652⟩, ⟨hk p "__static_attributes__", .str "__static_attributes__" 1109, .ref 653⟩, ⟨hk p "__doc__", .str "__doc__" 1110, .none⟩] 2, #[]⟩
noncomputable def x408 (p : Params) : Obj := ⟨.type "type", none, .cls ⟨"StringIO", [.ref 178], [.ref 655, .ref 178, .ref 151, .type "object"], 654, "StringIO", true, [], [], false, none, false⟩, #[some (.ref 411), none, some (.str "StringIO" 826), some (.str "StringIO" 834), some .none, some (.bool true)]⟩
noncomputable def x409 (p : Params) : Obj := ⟨.type "super", none, .fields #[.ref 655, .ref 655, .ref 655], #[]⟩
noncomputable def x410 (p : Params) : Obj := ⟨.type "builtin_function_or_method", none, .fields #[.builtin "object.__init_subclass__", .ref 655], #[]⟩
noncomputable def x411 (p : Params) : Obj := ⟨.type "dict", none, .dict #[⟨hk p "__name__", .str "__name__" 165, .str "law_ij0186_01" 1331⟩, ⟨hk p "__doc__", .str "__doc__" 166, .none⟩, ⟨hk p "__package__", .str "__package__" 167, .none⟩, ⟨hk p "__loader__", .str "__loader__" 168, .builtin "__main__.__loader__#opaque"⟩, ⟨hk p "__spec__", .str "__spec__" 169, .none⟩, ⟨hk p "__annotations__", .str "__annotations__" 170, .ref 6⟩, ⟨hk p "__builtins__", .str "__builtins__" 171, .ref 4⟩, ⟨hk p "__file__", .str "__file__" 173, .str "/claim/cut.py" 172⟩, ⟨hk p "__cached__", .str "__cached__" 174, .none⟩, ⟨hk p "_sre", .str "_sre" 275, .ref 12⟩, ⟨hk p "deque", .str "deque" 317, .type "collections.deque"⟩, ⟨hk p "_wall", .str "_wall" 330, .ref 44⟩, ⟨hk p "heappush", .str "heappush" 340, .ref 51⟩, ⟨hk p "heappop", .str "heappop" 349, .ref 58⟩, ⟨hk p "heapreplace", .str "heapreplace" 358, .ref 65⟩, ⟨hk p "heappushpop", .str "heappushpop" 366, .ref 72⟩, ⟨hk p "_siftdown", .str "_siftdown" 378, .ref 79⟩, ⟨hk p "_siftup", .str "_siftup" 391, .ref 86⟩, ⟨hk p "cmp_to_key", .str "cmp_to_key" 402, .ref 93⟩, ⟨hk p "_initial_missing", .str "_initial_missing" 403, .ref 94⟩, ⟨hk p "reduce", .str "reduce" 415, .ref 102⟩, ⟨hk p "_twin_re_1", .str "_twin_re_1" 455, .ref 107⟩, ⟨hk p "_whence", .str "_whence" 465, .ref 114⟩, ⟨hk p "_index", .str "_index" 473, .ref 121⟩, ⟨hk p "UnsupportedOperation", .str "UnsupportedOperation" 495, .ref 131⟩, ⟨hk p "IOBase", .str "IOBase" 527, .ref 151⟩, ⟨hk p "BufferedIOBase", .str "BufferedIOBase" 545, .ref 166⟩, ⟨hk p "TextIOBase", .str "TextIOBase" 563, .ref 178⟩, ⟨hk p "BytesIO", .str "BytesIO" 825, .ref 408⟩, ⟨hk p "StringIO", .str "StringIO" 1112, .ref 655⟩, ⟨hk p "_kind", .str "_kind" 1123, .ref 664⟩, ⟨hk p "_fspath", .str "_fspath" 1132, .ref 671⟩, ⟨hk p "_check_arg_types", .str "_check_arg_types" 1142, .ref 678⟩, ⟨hk p "isabs", .str "isabs" 1149, .ref 685⟩, ⟨hk p "join", .str "join" 1160, .ref 692⟩, ⟨hk p "dirname", .str "dirname" 1170, .ref 699⟩, ⟨hk p "shlex", .str "shlex" 1311, .ref 790⟩, ⟨hk p "split", .str "split" 1321, .ref 802⟩, ⟨hk p "_find_unsafe", .str "_find_unsafe" 1323, .ref 803⟩, ⟨hk p "quote", .str "quote" 1330, .ref 810⟩, ⟨hk p "_law_command", .str "_law_command" 1338, .ref 815⟩, ⟨hk p "_law_order", .str "_law_order" 1346, .ref 822⟩, ⟨hk p "_law_step", .str "_law_step" 1359, .ref 829⟩, ⟨hk p "_law_taken", .str "_law_taken" 1367, .ref 836⟩, ⟨hk p "_law_due", .str "_law_due" 1373, .ref 841⟩, ⟨hk p "law", .str "law" 1379, .ref 846⟩] 46, #[]⟩
noncomputable def x412 (p : Params) : Obj := ⟨.none, none, .fields #[.int 3 0, .int 0 0, .ref 43, .int 7 0, .int 0 0, .ref 50, .int 10 0, .int 0 0, .ref 57, .int 18 0, .int 0 0, .ref 64, .int 23 0, .int 0 0, .ref 71, .int 28 0, .int 0 0, .ref 78, .int 39 0, .int 0 0, .ref 85, .int 54 0, .int 0 0, .ref 92, .int 80 0, .int 0 0, .ref 101, .int 94 0, .int 0 0, .ref 113, .int 99 0, .int 0 0, .ref 120, .int 106 0, .int 0 0, .ref 127, .int 108 0, .int 0 0, .ref 140, .int 115 0, .int 0 0, .ref 162, .int 117 0, .int 0 0, .ref 174, .int 119 0, .int 0 0, .ref 186, .int 289 0, .int 0 0, .ref 416, .int 495 0, .int 0 0, .ref 663, .int 516 0, .int 0 0, .ref 670, .int 521 0, .int 0 0, .ref 677, .int 526 0, .int 0 0, .ref 684, .int 529 0, .int 0 0, .ref 691, .int 549 0, .int 0 0, .ref 698, .int 558 0, .int 0 0, .ref 705, .int 810 0, .int 0 0, .ref 801, .int 819 0, .int 0 0, .ref 809, .int 826 0, .int 0 0, .ref 814, .int 829 0, .int 0 0, .ref 821, .int 833 0, .int 0 0, .ref 828, .int 845 0, .int 0 0, .ref 835, .int 849 0, .int 0 0, .ref 840, .int 859 0, .int 0 0, .ref 845], #[]⟩
noncomputable def x413 (p : Params) : Obj := ⟨.type "tuple", none, .seq #[.str "name" 1118, .str "x" 1119, .str "t" 1120] 0, #[]⟩
noncomputable def x414 (p : Params) : Obj := ⟨.none, none, .func ⟨"_kind", "_kind", fA [25], .stmts (fB [25]), fS [25], 0, [], .none, .none, .none, .none, none, .none, .none, 0⟩, #[]⟩
noncomputable def x415 (p : Params) : Obj := ⟨.type "code", none, .fields #[.str "_kind" 1115, .str "_kind" 1116, .str "/claim/cut.py" 1117, .int 495 0, .int 2 0, .int 0 0, .int 0 0, .int 3 0, .ref 658, .bool true, .int 318 0, .ref 659, .none, .ref 660, .ref 661, .ref 662, .int 1121 0, .int 495 0, .str "/claim/cut.py" 1122], #[]⟩
noncomputable def x416 (p : Params) : Obj := ⟨.type "function", none, .func ⟨"_kind", "_kind", fA [25], .stmts (fB [25]), fS [25], 3, [], .none, .none, .none, .str "os.path" 1113, none, .ref 663, .none, 0⟩, #[]⟩
noncomputable def x417 (p : Params) : Obj := ⟨.type "tuple", none, .seq #[.str "name" 1127, .str "x" 1128, .str "k" 1129] 0, #[]⟩
noncomputable def x418 (p : Params) : Obj := ⟨.none, none, .func ⟨"_fspath", "_fspath", fA [26], .stmts (fB [26]), fS [26], 0, [], .none, .none, .none, .none, none, .none, .none, 0⟩, #[]⟩
noncomputable def x419 (p : Params) : Obj := ⟨.type "code", none, .fields #[.str "_fspath" 1124, .str "_fspath" 1125, .str "/claim/cut.py" 1126, .int 516 0, .int 2 0, .int 0 0, .int 0 0, .int 3 0, .ref 665, .bool true, .int 318 0, .ref 666, .none, .ref 667, .ref 668, .ref 669, .int 1130 0, .int 516 0, .str "/claim/cut.py" 1131], #[]⟩
noncomputable def x420 (p : Params) : Obj := ⟨.type "function", none, .func ⟨"_fspath", "_fspath", fA [26], .stmts (fB [26]), fS [26], 3, [], .none, .none, .none, .str "os.path" 1113, none, .ref 670, .none, 0⟩, #[]⟩
noncomputable def x421 (p : Params) : Obj := ⟨.type "tuple", none, .seq #[.str "funcname" 1136, .str "args" 1137, .str "s" 1138, .str "k" 1139] 0, #[]⟩
noncomputable def x422 (p : Params) : Obj := ⟨.none, none, .func ⟨"_check_arg_types", "_check_arg_types", fA [27], .stmts (fB [27]), fS [27], 0, [], .none, .none, .none, .none, none, .none, .none, 0⟩, #[]⟩
noncomputable def x423 (p : Params) : Obj := ⟨.type "code", none, .fields #[.str "_check_arg_types" 1133, .str "_check_arg_types" 1134, .str "/claim/cut.py" 1135, .int 521 0, .int 1 0, .int 0 0, .int 0 0, .int 7 0, .ref 672, .bool true, .int 318 0, .ref 673, .none, .ref 674, .ref 675, .ref 676, .int 1140 0, .int 521 0, .str "/claim/cut.py" 1141], #[]⟩
noncomputable def x424 (p : Params) : Obj := ⟨.type "function", none, .func ⟨"_check_arg_types", "_check_arg_types", fA [27], .stmts (fB [27]), fS [27], 3, [], .none, .none, .none, .str "os.path" 1113, none, .ref 677, .none, 0⟩, #[]⟩
noncomputable def x425 (p : Params) : Obj := ⟨.type "tuple", none, .seq #[.str "s" 1146] 0, #[]⟩
noncomputable def x426 (p : Params) : Obj := ⟨.none, none, .func ⟨"isabs", "isabs", fA [28], .stmts (fB [28]), fS [28], 0, [], .none, .none, .none, .none, none, .none, .none, 0⟩, #[]⟩
noncomputable def x427 (p : Params) : Obj := ⟨.type "code", none, .fields #[.str "isabs" 1143, .str "isabs" 1144, .str "/claim/cut.py" 1145, .int 526 0, .int 1 0, .int 0 0, .int 0 0, .int 3 0, .ref 679, .bool true, .int 318 0, .ref 680, .none, .ref 681, .ref 682, .ref 683, .int 1147 0, .int 526 0, .str "/claim/cut.py" 1148], #[]⟩
noncomputable def x428 (p : Params) : Obj := ⟨.type "function", none, .func ⟨"isabs", "isabs", fA [28], .stmts (fB [28]), fS [28], 3, [], .none, .none, .none, .str "os.path" 1113, none, .ref 684, .none, 0⟩, #[]⟩
noncomputable def x429 (p : Params) : Obj := ⟨.type "tuple", none, .seq #[.str "a" 1153, .str "p" 1154, .str "b" 1155, .str "sep" 1156, .str "path" 1157] 0, #[]⟩
noncomputable def x430 (p : Params) : Obj := ⟨.none, none, .func ⟨"join", "join", fA [29], .stmts (fB [29]), fS [29], 0, [], .none, .none, .none, .none, none, .none, .none, 0⟩, #[]⟩
noncomputable def x431 (p : Params) : Obj := ⟨.type "code", none, .fields #[.str "join" 1150, .str "join" 1151, .str "/claim/cut.py" 1152, .int 529 0, .int 1 0, .int 0 0, .int 0 0, .int 7 0, .ref 686, .bool true, .int 318 0, .ref 687, .none, .ref 688, .ref 689, .ref 690, .int 1158 0, .int 529 0, .str "/claim/cut.py" 1159], #[]⟩
noncomputable def x432 (p : Params) : Obj := ⟨.type "function", none, .func ⟨"join", "join", fA [29], .stmts (fB [29]), fS [29], 3, [], .none, .none, .none, .str "os.path" 1113, none, .ref 691, .none, 0⟩, #[]⟩
noncomputable def x433 (p : Params) : Obj := ⟨.type "tuple", none, .seq #[.str "p" 1164, .str "sep" 1165, .str "i" 1166, .str "head" 1167] 0, #[]⟩
noncomputable def x434 (p : Params) : Obj := ⟨.none, none, .func ⟨"dirname", "dirname", fA [30], .stmts (fB [30]), fS [30], 0, [], .none, .none, .none, .none, none, .none, .none, 0⟩, #[]⟩
noncomputable def x435 (p : Params) : Obj := ⟨.type "code", none, .fields #[.str "dirname" 1161, .str "dirname" 1162, .str "/claim/cut.py" 1163, .int 549 0, .int 1 0, .int 0 0, .int 0 0, .int 3 0, .ref 693, .bool true, .int 318 0, .ref 694, .none, .ref 695, .ref 696, .ref 697, .int 1168 0, .int 549 0, .str "/claim/cut.py" 1169], #[]⟩
noncomputable def x436 (p : Params) : Obj := ⟨.type "function", none, .func ⟨"dirname", "dirname", fA [30], .stmts (fB [30]), fS [30], 3, [], .none, .none, .none, .str "os.path" 1113, none, .ref 698, .none, 0⟩, #[]⟩
noncomputable def x437 (p : Params) : Obj := ⟨.type "dict", none, .dict #[⟨hk p "__module__", .str "__module__" 1180, .str "cpy313.shlex" 1171⟩, ⟨hk p "__qualname__", .str "__qualname__" 1182, .str "shlex" 1181⟩, ⟨hk p "__firstlineno__", .str "__firstlineno__" 1184, .int 558 1183⟩, ⟨hk p "__init__", .str "__init__" 1196, .ref 714⟩, ⟨hk p "punctuation_chars", .str "punctuation_chars" 1204, .ref 722⟩, ⟨hk p "push_token", .str "push_token" 1212, .ref 729⟩, ⟨hk p "push_source", .str "push_source" 1221, .ref 737⟩, ⟨hk p "pop_source", .str "pop_source" 1228, .ref 744⟩, ⟨hk p "get_token", .str "get_token" 1240, .ref 751⟩, ⟨hk p "read_token", .str "read_token" 1251, .ref 758⟩, ⟨hk p "sourcehook", .str "sourcehook" 1259, .ref 765⟩, ⟨hk p "error_leader", .str "error_leader" 1268, .ref 773⟩, ⟨hk p "__iter__", .str "__iter__" 1275, .ref 780⟩, ⟨hk p "__next__", .str "__next__" 1283, .ref 787⟩, ⟨hk p "__static_attributes__", .str "__static_attributes__" 1304, .ref 788⟩] 15, #[]⟩
noncomputable def x438 (p : Params) : Obj := ⟨.none, none, .fields #[.int 560 0, .int 4 0, .ref 713, .int 602 0, .int 4 0, .ref 720, .int 605 0, .int 4 0, .ref 728, .int 608 0, .int 4 0, .ref 736, .int 621 0, .int 4 0, .ref 743, .int 628 0, .int 4 0, .ref 750, .int 655 0, .int 4 0, .ref 757, .int 792 0, .int 4 0, .ref 764, .int 799 0, .int 4 0, .ref 772, .int 802 0, .int 4 0, .ref 779, .int 805 0, .int 4 0, .ref 786], #[]⟩
noncomputable def x439 (p : Params) : Obj := ⟨.type "code", none, .fields #[.str "shlex" 1175, .str "shlex" 1176, .str "/claim/cut.py" 1177, .int 558 0, .int 0 0, .int 0 0, .int 0 0, .int 0 0, .ref 703, .bool false, .int 318 0, .ref 704, .none, .none, .none, .none, .int 1178 0, .int 558 0, .str "/claim/cut.py" 1179], #[]⟩
noncomputable def x440 (p : Params) : Obj := ⟨.type "frame", none, .plain, #[some (.ref 705), some (.ref 3), some (.ref 702), none, some (.str "cpy313.shlex" 1171), none, some (.ref 0)]⟩
noncomputable def x441 (p : Params) : Obj := ⟨.type "tuple", none, .seq #[.none, .none, .bool false, .bool false] 0, #[]⟩
noncomputable def x442 (p : Params) : Obj := ⟨.type "tuple", none, .seq #[.str "self" 1188, .str "instream" 1189, .str "infile" 1190, .str "posix" 1191, .str "punctuation_chars" 1192, .str "t" 1193] 0, #[]⟩
noncomputable def x443 (p : Params) : Obj := ⟨.none, none, .func ⟨"__init__", "shlex.__init__", fA [32, 0], .stmts (fB [32, 0]), fS [32, 0], 0, [], .none, .none, .none, .none, none, .none, .none, 0⟩, #[]⟩
noncomputable def x444 (p : Params) : Obj := ⟨.type "code", none, .fields #[.str "__init__" 1185, .str "shlex.__init__" 1186, .str "/claim/cut.py" 1187, .int 560 0, .int 5 0, .int 0 0, .int 0 0, .int 3 0, .ref 708, .bool true, .int 318 0, .ref 709, .none, .ref 710, .ref 711, .ref 712, .int 1194 0, .int 560 0, .str "/claim/cut.py" 1195], #[]⟩
noncomputable def x445 (p : Params) : Obj := ⟨.type "function", none, .func ⟨"__init__", "shlex.__init__", fA [32, 0], .stmts (fB [32, 0]), fS [32, 0], 3, [], .ref 707, .none, .none, .str "cpy313.shlex" 1171, none, .ref 713, .none, 0⟩, #[]⟩
noncomputable def x446 (p : Params) : Obj := ⟨.type "tuple", none, .seq #[.str "self" 1200] 0, #[]⟩
noncomputable def x447 (p : Params) : Obj := ⟨.none, none, .func ⟨"punctuation_chars", "shlex.punctuation_chars", fA [32, 1], .stmts (fB [32, 1]), fS [22, 4], 0, [], .none, .none, .none, .none, none, .none, .none, 0⟩, #[]⟩
noncomputable def x448 (p : Params) : Obj := ⟨.type "code", none, .fields #[.str "punctuation_chars" 1197, .str "shlex.punctuation_chars" 1198, .str "/claim/cut.py" 1199, .int 601 0, .int 1 0, .int 0 0, .int 0 0, .int 3 0, .ref 715, .bool true, .int 318 0, .ref 716, .none, .ref 717, .ref 718, .ref 719, .int 1201 0, .int 601 0, .str "/claim/cut.py" 1202], #[]⟩
noncomputable def x449 (p : Params) : Obj := ⟨.type "function", none, .func ⟨"punctuation_chars", "shlex.punctuation_chars", fA [32, 1], .stmts (fB [32, 1]), fS [22, 4], 3, [], .none, .none, .none, .str "cpy313.shlex" 1171, none, .ref 720, .none, 0⟩, #[]⟩
noncomputable def x450 (p : Params) : Obj := ⟨.type "property", none, .fields #[.ref 721, .none, .none, .none, .str "punctuation_chars" 1204, .bool false], #[]⟩
noncomputable def x451 (p : Params) : Obj := ⟨.type "tuple", none, .seq #[.str "self" 1208, .str "tok" 1209] 0, #[]⟩
noncomputable def x452 (p : Params) : Obj := ⟨.none, none, .func ⟨"push_token", "shlex.push_token", fA [32, 2], .stmts (fB [32, 2]), fS [32, 2], 0, [], .none, .none, .none, .none, none, .none, .none, 0⟩, #[]⟩
noncomputable def x453 (p : Params) : Obj := ⟨.type "code", none, .fields #[.str "push_token" 1205, .str "shlex.push_token" 1206, .str "/claim/cut.py" 1207, .int 605 0, .int 2 0, .int 0 0, .int 0 0, .int 3 0, .ref 723, .bool true, .int 318 0, .ref 724, .none, .ref 725, .ref 726, .ref 727, .int 1210 0, .int 605 0, .str "/claim/cut.py" 1211], #[]⟩
noncomputable def x454 (p : Params) : Obj := ⟨.type "function", none, .func ⟨"push_token", "shlex.push_token", fA [32, 2], .stmts (fB [32, 2]), fS [32, 2], 3, [], .none, .none, .none, .str "cpy313.shlex" 1171, none, .ref 728, .none, 0⟩, #[]⟩
noncomputable def x455 (p : Params) : Obj := ⟨.type "tuple", none, .seq #[.str "self" 1216, .str "newstream" 1217, .str "newfile" 1218] 0, #[]⟩
noncomputable def x456 (p : Params) : Obj := ⟨.none, none, .func ⟨"push_source", "shlex.push_source", fA [32, 3], .stmts (fB [32, 3]), fS [32, 3], 0, [], .none, .none, .none, .none, none, .none, .none, 0⟩, #[]⟩
noncomputable def x457 (p : Params) : Obj := ⟨.type "code", none, .fields #[.str "push_source" 1213, .str "shlex.push_source" 1214, .str "/claim/cut.py" 1215, .int 608 0, .int 3 0, .int 0 0, .int 0 0, .int 3 0, .ref 731, .bool true, .int 318 0, .ref 732, .none, .ref 733, .ref 734, .ref 735, .int 1219 0, .int 608 0, .str "/claim/cut.py" 1220], #[]⟩
noncomputable def x458 (p : Params) : Obj := ⟨.type "function", none, .func ⟨"push_source", "shlex.push_source", fA [32, 3], .stmts (fB [32, 3]), fS [32, 3], 3, [], .ref 730, .none, .none, .str "cpy313.shlex" 1171, none, .ref 736, .none, 0⟩, #[]⟩
noncomputable def x459 (p : Params) : Obj := ⟨.type "tuple", none, .seq #[.str "self" 1225] 0, #[]⟩
noncomputable def x460 (p : Params) : Obj := ⟨.none, none, .func ⟨"pop_source", "shlex.pop_source", fA [32, 4], .stmts (fB [32, 4]), fS [32, 4], 0, [], .none, .none, .none, .none, none, .none, .none, 0⟩, #[]⟩
noncomputable def x461 (p : Params) : Obj := ⟨.type "code", none, .fields #[.str "pop_source" 1222, .str "shlex.pop_source" 1223, .str "/claim/cut.py" 1224, .int 621 0, .int 1 0, .int 0 0, .int 0 0, .int 3 0, .ref 738, .bool true, .int 318 0, .ref 739, .none, .ref 740, .ref 741, .ref 742, .int 1226 0, .int 621 0, .str "/claim/cut.py" 1227], #[]⟩
noncomputable def x462 (p : Params) : Obj := ⟨.type "function", none, .func ⟨"pop_source", "shlex.pop_source", fA [32, 4], .stmts (fB [32, 4]), fS [32, 4], 3, [], .none, .none, .none, .str "cpy313.shlex" 1171, none, .ref 743, .none, 0⟩, #[]⟩
noncomputable def x463 (p : Params) : Obj := ⟨.type "tuple", none, .seq #[.str "self" 1232, .str "tok" 1233, .str "raw" 1234, .str "spec" 1235, .str "newfile" 1236, .str "newstream" 1237] 0, #[]⟩
noncomputable def x464 (p : Params) : Obj := ⟨.none, none, .func ⟨"get_token", "shlex.get_token", fA [32, 5], .stmts (fB [32, 5]), fS [32, 5], 0, [], .none, .none, .none, .none, none, .none, .none, 0⟩, #[]⟩
noncomputable def x465 (p : Params) : Obj := ⟨.type "code", none, .fields #[.str "get_token" 1229, .str "shlex.get_token" 1230, .str "/claim/cut.py" 1231, .int 628 0, .int 1 0, .int 0 0, .int 0 0, .int 3 0, .ref 745, .bool true, .int 318 0, .ref 746, .none, .ref 747, .ref 748, .ref 749, .int 1238 0, .int 628 0, .str "/claim/cut.py" 1239], #[]⟩
noncomputable def x466 (p : Params) : Obj := ⟨.type "function", none, .func ⟨"get_token", "shlex.get_token", fA [32, 5], .stmts (fB [32, 5]), fS [32, 5], 3, [], .none, .none, .none, .str "cpy313.shlex" 1171, none, .ref 750, .none, 0⟩, #[]⟩
noncomputable def x467 (p : Params) : Obj := ⟨.type "tuple", none, .seq #[.str "self" 1244, .str "quoted" 1245, .str "escapedstate" 1246, .str "nextchar" 1247, .str "result" 1248] 0, #[]⟩
noncomputable def x468 (p : Params) : Obj := ⟨.none, none, .func ⟨"read_token", "shlex.read_token", fA [32, 6], .stmts (fB [32, 6]), fS [32, 6], 0, [], .none, .none, .none, .none, none, .none, .none, 0⟩, #[]⟩
noncomputable def x469 (p : Params) : Obj := ⟨.type "code", none, .fields #[.str "read_token" 1241, .str "shlex.read_token" 1242, .str "/claim/cut.py" 1243, .int 655 0, .int 1 0, .int 0 0, .int 0 0, .int 3 0, .ref 752, .bool true, .int 318 0, .ref 753, .none, .ref 754, .ref 755, .ref 756, .int 1249 0, .int 655 0, .str "/claim/cut.py" 1250], #[]⟩
noncomputable def x470 (p : Params) : Obj := ⟨.type "function", none, .func ⟨"read_token", "shlex.read_token", fA [32, 6], .stmts (fB [32, 6]), fS [32, 6], 3, [], .none, .none, .none, .str "cpy313.shlex" 1171, none, .ref 757, .none, 0⟩, #[]⟩
noncomputable def x471 (p : Params) : Obj := ⟨.type "tuple", none, .seq #[.str "self" 1255, .str "newfile" 1256] 0, #[]⟩
noncomputable def x472 (p : Params) : Obj := ⟨.none, none, .func ⟨"sourcehook", "shlex.sourcehook", fA [32, 7], .stmts (fB [32, 7]), fS [32, 7], 0, [], .none, .none, .none, .none, none, .none, .none, 0⟩, #[]⟩
noncomputable def x473 (p : Params) : Obj := ⟨.type "code", none, .fields #[.str "sourcehook" 1252, .str "shlex.sourcehook" 1253, .str "/claim/cut.py" 1254, .int 792 0, .int 2 0, .int 0 0, .int 0 0, .int 3 0, .ref 759, .bool true, .int 318 0, .ref 760, .none, .ref 761, .ref 762, .ref 763, .int 1257 0, .int 792 0, .str "/claim/cut.py" 1258], #[]⟩
noncomputable def x474 (p : Params) : Obj := ⟨.type "function", none, .func ⟨"sourcehook", "shlex.sourcehook", fA [32, 7], .stmts (fB [32, 7]), fS [32, 7], 3, [], .none, .none, .none, .str "cpy313.shlex" 1171, none, .ref 764, .none, 0⟩, #[]⟩
noncomputable def x475 (p : Params) : Obj := ⟨.type "tuple", none, .seq #[.none, .none] 0, #[]⟩
noncomputable def x476 (p : Params) : Obj := ⟨.type "tuple", none, .seq #[.str "self" 1263, .str "infile" 1264, .str "lineno" 1265] 0, #[]⟩
noncomputable def x477 (p : Params) : Obj := ⟨.none, none, .func ⟨"error_leader", "shlex.error_leader", fA [32, 8], .stmts (fB [32, 8]), fS [32, 8], 0, [], .none, .none, .none, .none, none, .none, .none, 0⟩, #[]⟩
noncomputable def x478 (p : Params) : Obj := ⟨.type "code", none, .fields #[.str "error_leader" 1260, .str "shlex.error_leader" 1261, .str "/claim/cut.py" 1262, .int 799 0, .int 3 0, .int 0 0, .int 0 0, .int 3 0, .ref 767, .bool true, .int 318 0, .ref 768, .none, .ref 769, .ref 770, .ref 771, .int 1266 0, .int 799 0, .str "/claim/cut.py" 1267], #[]⟩
noncomputable def x479 (p : Params) : Obj := ⟨.type "function", none, .func ⟨"error_leader", "shlex.error_leader", fA [32, 8], .stmts (fB [32, 8]), fS [32, 8], 3, [], .ref 766, .none, .none, .str "cpy313.shlex" 1171, none, .ref 772, .none, 0⟩, #[]⟩
noncomputable def x480 (p : Params) : Obj := ⟨.type "tuple", none, .seq #[.str "self" 1272] 0, #[]⟩
noncomputable def x481 (p : Params) : Obj := ⟨.none, none, .func ⟨"__iter__", "shlex.__iter__", fA [32, 9], .stmts (fB [32, 9]), fS [22, 4], 0, [], .none, .none, .none, .none, none, .none, .none, 0⟩, #[]⟩
noncomputable def x482 (p : Params) : Obj := ⟨.type "code", none, .fields #[.str "__iter__" 1269, .str "shlex.__iter__" 1270, .str "/claim/cut.py" 1271, .int 802 0, .int 1 0, .int 0 0, .int 0 0, .int 3 0, .ref 774, .bool true, .int 318 0, .ref 775, .none, .ref 776, .ref 777, .ref 778, .int 1273 0, .int 802 0, .str "/claim/cut.py" 1274], #[]⟩
noncomputable def x483 (p : Params) : Obj := ⟨.type "function", none, .func ⟨"__iter__", "shlex.__iter__", fA [32, 9], .stmts (fB [32, 9]), fS [22, 4], 3, [], .none, .none, .none, .str "cpy313.shlex" 1171, none, .ref 779, .none, 0⟩, #[]⟩
noncomputable def x484 (p : Params) : Obj := ⟨.type "tuple", none, .seq #[.str "self" 1279, .str "token" 1280] 0, #[]⟩
noncomputable def x485 (p : Params) : Obj := ⟨.none, none, .func ⟨"__next__", "shlex.__next__", fA [32, 10], .stmts (fB [32, 10]), fS [32, 10], 0, [], .none, .none, .none, .none, none, .none, .none, 0⟩, #[]⟩
noncomputable def x486 (p : Params) : Obj := ⟨.type "code", none, .fields #[.str "__next__" 1276, .str "shlex.__next__" 1277, .str "/claim/cut.py" 1278, .int 805 0, .int 1 0, .int 0 0, .int 0 0, .int 3 0, .ref 781, .bool true, .int 318 0, .ref 782, .none, .ref 783, .ref 784, .ref 785, .int 1281 0, .int 805 0, .str "/claim/cut.py" 1282], #[]⟩
noncomputable def x487 (p : Params) : Obj := ⟨.type "function", none, .func ⟨"__next__", "shlex.__next__", fA [32, 10], .stmts (fB [32, 10]), fS [32, 10], 3, [], .none, .none, .none, .str "cpy313.shlex" 1171, none, .ref 786, .none, 0⟩, #[]⟩
noncomputable def x488 (p : Params) : Obj := ⟨.type "tuple", none, .seq #[.str "_punctuation_chars" 1284, .str "_pushback_chars" 1285, .str "commenters" 1286, .str "debug" 1287, .str "eof" 1288, .str "escape" 1289, .str "escapedquotes" 1290, .str "filestack" 1291, .str "infile" 1292, .str "instream" 1293, .str "lineno" 1294, .str "posix" 1295, .str "pushback" 1296, .str "quotes" 1297, .str "source" 1298, .str "state" 1299, .str "token" 1300, .str "whitespace" 1301, .str "whitespace_split" 1302, .str "wordchars" 1303] 0, #[]⟩
noncomputable def x489 (p : Params) : Obj := ⟨.type "dict", none, .dict #[⟨hk p "__module__", .str "__module__" 1180, .str "cpy313.shlex" 1171⟩, ⟨hk p "__firstlineno__", .str "__firstlineno__" 1184, .int 558 1183⟩, ⟨hk p "__init__", .str "__init__" 1196, .ref 714⟩, ⟨hk p "punctuation_chars", .str "punctuation_chars" 1204, .ref 722⟩, ⟨hk p "push_token", .str "push_token" 1212, .ref 729⟩, ⟨hk p "push_source", .str "push_source" 1221, .ref 737⟩, ⟨hk p "pop_source", .str "pop_source" 1228, .ref 744⟩, ⟨hk p "get_token", .str "get_token" 1240, .ref 751⟩, ⟨hk p "read_token", .str "read_token" 1251, .ref 758⟩, ⟨hk p "sourcehook", .str "sourcehook" 1259, .ref 765⟩, ⟨hk p "error_leader", .str "error_leader" 1268, .ref 773⟩, ⟨hk p "__iter__", .str "__iter__" 1275, .ref 780⟩, ⟨hk p "__next__", .str "__next__" 1283, .ref 787⟩, ⟨hk p "__static_attributes__", .str "__static_attributes__" 1304, .ref 788⟩, ⟨hk p "__dict__", .str "__dict__" 1306, .ref 791⟩, ⟨hk p "__weakref__", .str "__weakref__" 1308, .ref 792⟩, ⟨hk p "__doc__", .str "__doc__" 1309, .none⟩] 4, #[]⟩
noncomputable def x490 (p : Params) : Obj := ⟨.type "type", none, .cls ⟨"shlex", [.type "object"], [.ref 790, .type "object"], 789, "shlex", true, [], [], false, none, false⟩, #[none, none, some (.str "shlex" 1173), some (.str "shlex" 1181), some (.builtin "object.__new__"), some (.bool true)]⟩
noncomputable def x491 (p : Params) : Obj := ⟨.type "getset_descriptor", none, .fields #[.str "__dict__" 1305, .ref 790, .builtin "function.__dict__", .builtin "function.__dict__#set"], #[]⟩
noncomputable def x492 (p : Params) : Obj := ⟨.type "getset_descriptor", none, .fields #[.str "__weakref__" 1307, .ref 790, .builtin "ExceptionGroup.__weakref__", .none], #[]⟩
noncomputable def x493 (p : Params) : Obj := ⟨.type "super", none, .fields #[.ref 790, .ref 790, .ref 790], #[]⟩
noncomputable def x494 (p : Params) : Obj := ⟨.type "builtin_function_or_method", none, .fields #[.builtin "object.__init_subclass__", .ref 790], #[]⟩
noncomputable def x495 (p : Params) : Obj := ⟨.type "tuple", none, .seq #[.bool false, .bool true] 0, #[]⟩
noncomputable def x496 (p : Params) : Obj := ⟨.type "tuple", none, .seq #[.str "s" 1315, .str "comments" 1316, .str "posix" 1317, .str "lex" 1318] 0, #[]⟩
noncomputable def x497 (p : Params) : Obj := ⟨.none, none, .func ⟨"split", "split", fA [33], .stmts (fB [33]), fS [33], 0, [], .none, .none, .none, .none, none, .none, .none, 0⟩, #[]⟩
noncomputable def x498 (p : Params) : Obj := ⟨.type "code", none, .fields #[.str "split" 1312, .str "split" 1313, .str "/claim/cut.py" 1314, .int 810 0, .int 3 0, .int 0 0, .int 0 0, .int 3 0, .ref 796, .bool true, .int 318 0, .ref 797, .none, .ref 798, .ref 799, .ref 800, .int 1319 0, .int 810 0, .str "/claim/cut.py" 1320], #[]⟩
noncomputable def x499 (p : Params) : Obj := ⟨.type "function", none, .func ⟨"split", "split", fA [33], .stmts (fB [33]), fS [33], 3, [], .ref 795, .none, .none, .str "cpy313.shlex" 1171, none, .ref 801, .none, 0⟩, #[]⟩
noncomputable def x500 (p : Params) : Obj := ⟨.type "builtin_function_or_method", none, .fields #[.builtin "re.Pattern.search", .ref 107], #[]⟩
noncomputable def x501 (p : Params) : Obj := ⟨.type "tuple", none, .seq #[.str "s" 1327] 0, #[]⟩
noncomputable def x502 (p : Params) : Obj := ⟨.none, none, .func ⟨"quote", "quote", fA [35], .stmts (fB [35]), fS [35], 0, [], .none, .none, .none, .none, none, .none, .none, 0⟩, #[]⟩
noncomputable def x503 (p : Params) : Obj := ⟨.type "code", none, .fields #[.str "quote" 1324, .str "quote" 1325, .str "/claim/cut.py" 1326, .int 819 0, .int 1 0, .int 0 0, .int 0 0, .int 3 0, .ref 804, .bool true, .int 318 0, .ref 805, .none, .ref 806, .ref 807, .ref 808, .int 1328 0, .int 819 0, .str "/claim/cut.py" 1329], #[]⟩
noncomputable def x504 (p : Params) : Obj := ⟨.type "function", none, .func ⟨"quote", "quote", fA [35], .stmts (fB [35]), fS [35], 3, [], .none, .none, .none, .str "cpy313.shlex" 1171, none, .ref 809, .none, 0⟩, #[]⟩
noncomputable def x505 (p : Params) : Obj := ⟨.none, none, .func ⟨"_law_command", "_law_command", fA [37], .stmts (fB [37]), fS [37], 0, [], .none, .none, .none, .none, none, .none, .none, 0⟩, #[]⟩
noncomputable def x506 (p : Params) : Obj := ⟨.type "code", none, .fields #[.str "_law_command" 1333, .str "_law_command" 1334, .str "/claim/cut.py" 1335, .int 826 0, .int 1 0, .int 0 0, .int 0 0, .int 3 0, .ref 811, .bool true, .int 318 0, .ref 812, .none, .none, .none, .ref 813, .int 1336 0, .int 826 0, .str "/claim/cut.py" 1337], #[]⟩
noncomputable def x507 (p : Params) : Obj := ⟨.type "function", none, .func ⟨"_law_command", "_law_command", fA [37], .stmts (fB [37]), fS [37], 3, [], .none, .none, .none, .str "law_ij0186_01" 1331, none, .ref 814, .none, 0⟩, #[]⟩
noncomputable def x508 (p : Params) : Obj := ⟨.type "tuple", none, .seq #[.str "one" 1342, .str "two" 1343] 0, #[]⟩
noncomputable def x509 (p : Params) : Obj := ⟨.none, none, .func ⟨"_law_order", "_law_order", fA [38], .stmts (fB [38]), fS [38], 0, [], .none, .none, .none, .none, none, .none, .none, 0⟩, #[]⟩
noncomputable def x510 (p : Params) : Obj := ⟨.type "code", none, .fields #[.str "_law_order" 1339, .str "_law_order" 1340, .str "/claim/cut.py" 1341, .int 829 0, .int 2 0, .int 0 0, .int 0 0, .int 3 0, .ref 816, .bool true, .int 318 0, .ref 817, .none, .ref 818, .ref 819, .ref 820, .int 1344 0, .int 829 0, .str "/claim/cut.py" 1345], #[]⟩
noncomputable def x511 (p : Params) : Obj := ⟨.type "function", none, .func ⟨"_law_order", "_law_order", fA [38], .stmts (fB [38]), fS [38], 3, [], .none, .none, .none, .str "law_ij0186_01" 1331, none, .ref 821, .none, 0⟩, #[]⟩
noncomputable def x512 (p : Params) : Obj := ⟨.type "tuple", none, .seq #[.str "state" 1350, .str "command" 1351, .str "heap" 1352, .str "out" 1353, .str "key" 1354, .str "sign" 1355, .str "text" 1356] 0, #[]⟩
noncomputable def x513 (p : Params) : Obj := ⟨.none, none, .func ⟨"_law_step", "_law_step", fA [39], .stmts (fB [39]), fS [39], 0, [], .none, .none, .none, .none, none, .none, .none, 0⟩, #[]⟩
noncomputable def x514 (p : Params) : Obj := ⟨.type "code", none, .fields #[.str "_law_step" 1347, .str "_law_step" 1348, .str "/claim/cut.py" 1349, .int 833 0, .int 2 0, .int 0 0, .int 0 0, .int 3 0, .ref 823, .bool true, .int 318 0, .ref 824, .none, .ref 825, .ref 826, .ref 827, .int 1357 0, .int 833 0, .str "/claim/cut.py" 1358], #[]⟩
noncomputable def x515 (p : Params) : Obj := ⟨.type "function", none, .func ⟨"_law_step", "_law_step", fA [39], .stmts (fB [39]), fS [39], 3, [], .none, .none, .none, .str "law_ij0186_01" 1331, none, .ref 828, .none, 0⟩, #[]⟩
noncomputable def x516 (p : Params) : Obj := ⟨.type "tuple", none, .seq #[.str "rest" 1363, .str "first" 1364] 0, #[]⟩
noncomputable def x517 (p : Params) : Obj := ⟨.none, none, .func ⟨"_law_taken", "_law_taken", fA [40], .stmts (fB [40]), fS [40], 0, [], .none, .none, .none, .none, none, .none, .none, 0⟩, #[]⟩
noncomputable def x518 (p : Params) : Obj := ⟨.type "code", none, .fields #[.str "_law_taken" 1360, .str "_law_taken" 1361, .str "/claim/cut.py" 1362, .int 845 0, .int 1 0, .int 0 0, .int 0 0, .int 3 0, .ref 830, .bool true, .int 318 0, .ref 831, .none, .ref 832, .ref 833, .ref 834, .int 1365 0, .int 845 0, .str "/claim/cut.py" 1366], #[]⟩
noncomputable def x519 (p : Params) : Obj := ⟨.type "function", none, .func ⟨"_law_taken", "_law_taken", fA [40], .stmts (fB [40]), fS [40], 3, [], .none, .none, .none, .str "law_ij0186_01" 1331, none, .ref 835, .none, 0⟩, #[]⟩
noncomputable def x520 (p : Params) : Obj := ⟨.none, none, .func ⟨"_law_due", "_law_due", fA [41], .stmts (fB [41]), fS [41], 0, [], .none, .none, .none, .none, none, .none, .none, 0⟩, #[]⟩
noncomputable def x521 (p : Params) : Obj := ⟨.type "code", none, .fields #[.str "_law_due" 1368, .str "_law_due" 1369, .str "/claim/cut.py" 1370, .int 849 0, .int 1 0, .int 0 0, .int 0 0, .int 3 0, .ref 837, .bool true, .int 318 0, .ref 838, .none, .none, .none, .ref 839, .int 1371 0, .int 849 0, .str "/claim/cut.py" 1372], #[]⟩
noncomputable def x522 (p : Params) : Obj := ⟨.type "function", none, .func ⟨"_law_due", "_law_due", fA [41], .stmts (fB [41]), fS [41], 3, [], .none, .none, .none, .str "law_ij0186_01" 1331, none, .ref 840, .none, 0⟩, #[]⟩
noncomputable def x523 (p : Params) : Obj := ⟨.none, none, .func ⟨"law", "law", fA [42], .stmts (fB [42]), fS [42], 0, [], .none, .none, .none, .none, none, .none, .none, 0⟩, #[]⟩
noncomputable def x524 (p : Params) : Obj := ⟨.type "code", none, .fields #[.str "law" 1374, .str "law" 1375, .str "/claim/cut.py" 1376, .int 859 0, .int 1 0, .int 0 0, .int 0 0, .int 3 0, .ref 842, .bool true, .int 318 0, .ref 843, .none, .none, .none, .ref 844, .int 1377 0, .int 859 0, .str "/claim/cut.py" 1378], #[]⟩
noncomputable def x525 (p : Params) : Obj := ⟨.type "function", none, .func ⟨"law", "law", fA [42], .stmts (fB [42]), fS [42], 3, [], .none, .none, .none, .str "law_ij0186_01" 1331, none, .ref 845, .none, 0⟩, #[]⟩
noncomputable def hLife : Life := ⟨[], [], [], 0, [], [], false, #[], [], 0, false, false, false, 0, [2000, 10, 10], false, 0, true, [], [], 0, false⟩
noncomputable def hpI (p : Params) : Heap := ⟨#[boot_o_0 p, x0 p, x1 p, x2 p, boot_o_4 p, boot_o_5 p, boot_o_6 p, boot_o_7 p, boot_o_8 p, boot_o_9 p, boot_o_10 p, x3 p, x4 p, x5 p, x6 p, boot_o_7 p, x7 p, x8 p, x9 p, x10 p, x11 p, x12 p, x13 p, x14 p, x15 p, x16 p, x17 p, x18 p, x19 p, x20 p, x21 p, x10 p, x22 p, x23 p], hLife⟩
noncomputable def hpO (p : Params) : Heap := ⟨#[boot_o_0 p, x0 p, x1 p, x2 p, boot_o_4 p, boot_o_5 p, boot_o_6 p, boot_o_7 p, boot_o_8 p, boot_o_9 p, boot_o_10 p, x24 p, x4 p, x5 p, x6 p, boot_o_7 p, x7 p, x8 p, x9 p, x10 p, x11 p, x12 p, x13 p, x14 p, x15 p, x16 p, x17 p, x18 p, x19 p, x25 p, x21 p, x10 p, x22 p, x23 p], hLife⟩
noncomputable def hpA (p : Params) : Heap := ⟨#[boot_o_0 p, x0 p, x1 p, x2 p, boot_o_4 p, boot_o_5 p, boot_o_6 p, boot_o_7 p, boot_o_8 p, boot_o_9 p, boot_o_10 p, x24 p, x4 p, x5 p, x6 p, boot_o_7 p, x7 p, x8 p, x9 p, x10 p, x11 p, x12 p, x13 p, x14 p, x15 p, x16 p, x17 p, x18 p, x19 p, x25 p, x21 p, x10 p, x22 p, x23 p, boot_o_7 p, boot_o_8 p, x26 p, x27 p], hLife⟩
noncomputable def htB (p : Params) : BT := .node (boot_o_0 p) (.node (x0 p) (.node (x2 p) (.node (boot_o_7 p) (.node (boot_o_7 p) (.node (x10 p) .nil .nil) .nil) (.node (x14 p) .nil .nil)) (.node (x24 p) (.node (x10 p) (.node (boot_o_8 p) .nil .nil) .nil) (.node (x18 p) .nil .nil))) (.node (boot_o_5 p) (.node (boot_o_9 p) (.node (x8 p) (.node (x23 p) .nil .nil) .nil) (.node (x16 p) .nil .nil)) (.node (x5 p) (.node (x12 p) (.node (x27 p) .nil .nil) .nil) (.node (x25 p) .nil .nil)))) (.node (x1 p) (.node (boot_o_4 p) (.node (boot_o_8 p) (.node (x7 p) (.node (x22 p) .nil .nil) .nil) (.node (x15 p) .nil .nil)) (.node (x4 p) (.node (x11 p) (.node (x26 p) .nil .nil) .nil) (.node (x19 p) .nil .nil))) (.node (boot_o_6 p) (.node (boot_o_10 p) (.node (x9 p) (.node (boot_o_7 p) .nil .nil) .nil) (.node (x17 p) .nil .nil)) (.node (x6 p) (.node (x13 p) .nil .nil) (.node (x21 p) .nil .nil))))
noncomputable def ht19 (p : Params) : BT := .node (boot_o_0 p) (.node (x0 p) (.node (x29 p) (.node (boot_o_7 p) (.node (boot_o_7 p) (.node (x10 p) (.node (x44 p) (.node (x85 p) .nil .nil) .nil) (.node (x65 p) (.node (x108 p) .nil .nil) .nil)) (.node (x35 p) (.node (x54 p) (.node (boot_o_8 p) .nil .nil) .nil) (.node (boot_o_7 p) (.node (x117 p) .nil .nil) .nil))) (.node (x14 p) (.node (boot_o_8 p) (.node (x49 p) (.node (boot_o_7 p) .nil .nil) .nil) (.node (x70 p) (.node (x113 p) .nil .nil) .nil)) (.node (boot_o_7 p) (.node (boot_o_7 p) (.node (x101 p) .nil .nil) .nil) (.node (x79 p) .nil .nil)))) (.node (x24 p) (.node (x10 p) (.node (x30 p) (.node (boot_o_8 p) (.node (x88 p) .nil .nil) .nil) (.node (boot_o_7 p) (.node (x110 p) .nil .nil) .nil)) (.node (x38 p) (.node (boot_o_7 p) (.node (x98 p) .nil .nil) .nil) (.node (boot_o_7 p) (.node (x120 p) .nil .nil) .nil))) (.node (x18 p) (.node (x33 p) (.node (x51 p) (.node (x93 p) .nil .nil) .nil) (.node (x73 p) (.node (x115 p) .nil .nil) .nil)) (.node (boot_o_7 p) (.node (x61 p) (.node (x105 p) .nil .nil) .nil) (.node (x83 p) .nil .nil))))) (.node (boot_o_5 p) (.node (boot_o_9 p) (.node (x8 p) (.node (x23 p) (.node (x46 p) (.node (boot_o_7 p) .nil .nil) .nil) (.node (boot_o_8 p) (.node (boot_o_8 p) .nil .nil) .nil)) (.node (x36 p) (.node (boot_o_8 p) (.node (boot_o_7 p) .nil .nil) .nil) (.node (x76 p) (.node (x118 p) .nil .nil) .nil))) (.node (x16 p) (.node (boot_o_7 p) (.node (boot_o_7 p) (.node (x92 p) .nil .nil) .nil) (.node (x71 p) (.node (x107 p) .nil .nil) .nil)) (.node (x41 p) (.node (x59 p) (.node (x103 p) .nil .nil) .nil) (.node (x81 p) .nil .nil)))) (.node (x5 p) (.node (x12 p) (.node (x27 p) (.node (boot_o_7 p) (.node (x90 p) .nil .nil) .nil) (.node (x68 p) (.node (x111 p) .nil .nil) .nil)) (.node (boot_o_8 p) (.node (x57 p) (.node (boot_o_7 p) .nil .nil) .nil) (.node (x78 p) .nil .nil))) (.node (x25 p) (.node (boot_o_7 p) (.node (x52 p) (.node (x95 p) .nil .nil) .nil) (.node (boot_o_8 p) (.node (boot_o_8 p) .nil .nil) .nil)) (.node (x43 p) (.node (x63 p) (.node (x107 p) .nil .nil) .nil) (.node (boot_o_7 p) .nil .nil)))))) (.node (x28 p) (.node (boot_o_4 p) (.node (boot_o_8 p) (.node (x7 p) (.node (x22 p) (.node (x45 p) (.node (x86 p) .nil .nil) .nil) (.node (boot_o_7 p) (.node (boot_o_7 p) .nil .nil) .nil)) (.node (boot_o_7 p) (.node (boot_o_7 p) (.node (x96 p) .nil .nil) .nil) (.node (x75 p) (.node (boot_o_7 p) .nil .nil) .nil))) (.node (x15 p) (.node (x31 p) (.node (x50 p) (.node (x83 p) .nil .nil) .nil) (.node (boot_o_6 p) (.node (x114 p) .nil .nil) .nil)) (.node (x40 p) (.node (boot_o_8 p) (.node (x102 p) .nil .nil) .nil) (.node (x80 p) .nil .nil)))) (.node (x4 p) (.node (x11 p) (.node (x26 p) (.node (x47 p) (.node (x89 p) .nil .nil) .nil) (.node (x67 p) (.node (boot_o_7 p) .nil .nil) .nil)) (.node (boot_o_7 p) (.node (x56 p) (.node (x99 p) .nil .nil) .nil) (.node (boot_o_8 p) (.node (x121 p) .nil .nil) .nil))) (.node (x19 p) (.node (x34 p) (.node (boot_o_7 p) (.node (x94 p) .nil .nil) .nil) (.node (boot_o_7 p) (.node (boot_o_7 p) .nil .nil) .nil)) (.node (boot_o_8 p) (.node (x62 p) (.node (x106 p) .nil .nil) .nil) (.node (x84 p) .nil .nil))))) (.node (boot_o_6 p) (.node (boot_o_10 p) (.node (x9 p) (.node (boot_o_7 p) (.node (boot_o_7 p) (.node (x87 p) .nil .nil) .nil) (.node (x66 p) (.node (x109 p) .nil .nil) .nil)) (.node (x37 p) (.node (x55 p) (.node (x97 p) .nil .nil) .nil) (.node (x77 p) (.node (x119 p) .nil .nil) .nil))) (.node (x17 p) (.node (x32 p) (.node (boot_o_8 p) (.node (boot_o_7 p) .nil .nil) .nil) (.node (x72 p) (.node (x83 p) .nil .nil) .nil)) (.node (x42 p) (.node (x60 p) (.node (x104 p) .nil .nil) .nil) (.node (x82 p) .nil .nil)))) (.node (x6 p) (.node (x13 p) (.node (boot_o_7 p) (.node (x48 p) (.node (x91 p) .nil .nil) .nil) (.node (x69 p) (.node (x112 p) .nil .nil) .nil)) (.node (x39 p) (.node (x58 p) (.node (x100 p) .nil .nil) .nil) (.node (boot_o_7 p) .nil .nil))) (.node (x21 p) (.node (boot_o_8 p) (.node (x53 p) (.node (boot_o_7 p) .nil .nil) .nil) (.node (x74 p) (.node (x116 p) .nil .nil) .nil)) (.node (boot_o_7 p) (.node (x64 p) (.node (x83 p) .nil .nil) .nil) (.node (boot_o_8 p) .nil .nil))))))
noncomputable def ht20 (p : Params) : BT := .node (boot_o_0 p) (.node (x0 p) (.node (x122 p) (.node (boot_o_7 p) (.node (boot_o_7 p) (.node (x10 p) (.node (x44 p) (.node (x85 p) (.node (x167 p) .nil .nil) (.node (x241 p) .nil .nil)) (.node (x130 p) (.node (boot_o_8 p) .nil .nil) .nil)) (.node (x65 p) (.node (x108 p) (.node (x186 p) .nil .nil) .nil) (.node (x149 p) (.node (boot_o_7 p) .nil .nil) .nil))) (.node (x35 p) (.node (x54 p) (.node (boot_o_8 p) (.node (x176 p) .nil .nil) (.node (boot_o_7 p) .nil .nil)) (.node (x139 p) (.node (boot_o_8 p) .nil .nil) .nil)) (.node (boot_o_7 p) (.node (x117 p) (.node (boot_o_8 p) .nil .nil) .nil) (.node (boot_o_7 p) (.node (boot_o_7 p) .nil .nil) .nil)))) (.node (x14 p) (.node (boot_o_8 p) (.node (x49 p) (.node (boot_o_7 p) (.node (boot_o_7 p) .nil .nil) (.node (x246 p) .nil .nil)) (.node (boot_o_7 p) (.node (boot_o_8 p) .nil .nil) .nil)) (.node (x70 p) (.node (x113 p) (.node (boot_o_7 p) .nil .nil) .nil) (.node (x154 p) (.node (boot_o_7 p) .nil .nil) .nil))) (.node (boot_o_7 p) (.node (boot_o_7 p) (.node (x101 p) (.node (x181 p) .nil .nil) (.node (x256 p) .nil .nil)) (.node (x144 p) (.node (x218 p) .nil .nil) .nil)) (.node (x79 p) (.node (x126 p) (.node (boot_o_8 p) .nil .nil) .nil) (.node (boot_o_8 p) (.node (x236 p) .nil .nil) .nil))))) (.node (x24 p) (.node (x10 p) (.node (x123 p) (.node (boot_o_8 p) (.node (x88 p) (.node (x170 p) .nil .nil) (.node (x243 p) .nil .nil)) (.node (x133 p) (.node (x206 p) .nil .nil) .nil)) (.node (boot_o_7 p) (.node (x110 p) (.node (boot_o_7 p) .nil .nil) .nil) (.node (x151 p) (.node (x226 p) .nil .nil) .nil))) (.node (x38 p) (.node (boot_o_7 p) (.node (x98 p) (.node (boot_o_8 p) .nil .nil) (.node (x252 p) .nil .nil)) (.node (boot_o_8 p) (.node (x216 p) .nil .nil) .nil)) (.node (boot_o_7 p) (.node (x120 p) (.node (x197 p) .nil .nil) .nil) (.node (x160 p) (.node (boot_o_7 p) .nil .nil) .nil)))) (.node (x18 p) (.node (x33 p) (.node (x51 p) (.node (x93 p) (.node (boot_o_7 p) .nil .nil) (.node (boot_o_7 p) .nil .nil)) (.node (boot_o_7 p) (.node (x211 p) .nil .nil) .nil)) (.node (x73 p) (.node (x115 p) (.node (x192 p) .nil .nil) .nil) (.node (boot_o_7 p) (.node (x71 p) .nil .nil) .nil))) (.node (boot_o_7 p) (.node (x61 p) (.node (x105 p) (.node (x183 p) .nil .nil) .nil) (.node (boot_o_8 p) (.node (x221 p) .nil .nil) .nil)) (.node (x83 p) (.node (x129 p) (.node (x202 p) .nil .nil) .nil) (.node (x165 p) (.node (boot_o_8 p) .nil .nil) .nil)))))) (.node (boot_o_5 p) (.node (boot_o_9 p) (.node (x8 p) (.node (x23 p) (.node (x46 p) (.node (boot_o_7 p) (.node (x168 p) .nil .nil) (.node (boot_o_7 p) .nil .nil)) (.node (x131 p) (.node (boot_o_7 p) .nil .nil) .nil)) (.node (boot_o_8 p) (.node (boot_o_8 p) (.node (boot_o_8 p) .nil .nil) .nil) (.node (boot_o_7 p) (.node (x224 p) .nil .nil) .nil))) (.node (x36 p) (.node (boot_o_8 p) (.node (boot_o_7 p) (.node (x178 p) .nil .nil) (.node (x251 p) .nil .nil)) (.node (x141 p) (.node (boot_o_7 p) .nil .nil) .nil)) (.node (x76 p) (.node (x118 p) (.node (boot_o_7 p) .nil .nil) .nil) (.node (x159 p) (.node (x233 p) .nil .nil) .nil)))) (.node (x16 p) (.node (boot_o_7 p) (.node (boot_o_7 p) (.node (x92 p) (.node (x173 p) .nil .nil) (.node (boot_o_8 p) .nil .nil)) (.node (x136 p) (.node (boot_o_7 p) .nil .nil) .nil)) (.node (x71 p) (.node (x107 p) (.node (x191 p) .nil .nil) .nil) (.node (boot_o_8 p) (.node (x229 p) .nil .nil) .nil))) (.node (x41 p) (.node (x59 p) (.node (x103 p) (.node (boot_o_7 p) .nil .nil) (.node (x258 p) .nil .nil)) (.node (x146 p) (.node (x219 p) .nil .nil) .nil)) (.node (x81 p) (.node (x127 p) (.node (boot_o_7 p) .nil .nil) .nil) (.node (boot_o_7 p) (.node (x238 p) .nil .nil) .nil))))) (.node (x5 p) (.node (x12 p) (.node (x27 p) (.node (boot_o_7 p) (.node (x90 p) (.node (boot_o_8 p) .nil .nil) (.node (x244 p) .nil .nil)) (.node (boot_o_8 p) (.node (x208 p) .nil .nil) .nil)) (.node (x68 p) (.node (x111 p) (.node (x189 p) .nil .nil) .nil) (.node (x152 p) (.node (boot_o_8 p) .nil .nil) .nil))) (.node (boot_o_8 p) (.node (x57 p) (.node (boot_o_7 p) (.node (boot_o_7 p) .nil .nil) (.node (x254 p) .nil .nil)) (.node (boot_o_7 p) (.node (boot_o_7 p) .nil .nil) .nil)) (.node (x78 p) (.node (x125 p) (.node (x199 p) .nil .nil) .nil) (.node (x162 p) (.node (x235 p) .nil .nil) .nil)))) (.node (x25 p) (.node (boot_o_7 p) (.node (x52 p) (.node (x95 p) (.node (x175 p) .nil .nil) (.node (x249 p) .nil .nil)) (.node (x138 p) (.node (x213 p) .nil .nil) .nil)) (.node (boot_o_8 p) (.node (boot_o_8 p) (.node (x194 p) .nil .nil) .nil) (.node (x157 p) (.node (boot_o_8 p) .nil .nil) .nil))) (.node (x43 p) (.node (x63 p) (.node (x107 p) (.node (x184 p) .nil .nil) .nil) (.node (boot_o_7 p) (.node (boot_o_8 p) .nil .nil) .nil)) (.node (boot_o_7 p) (.node (boot_o_7 p) (.node (x71 p) .nil .nil) .nil) (.node (boot_o_7 p) (.node (boot_o_7 p) .nil .nil) .nil))))))) (.node (x28 p) (.node (boot_o_4 p) (.node (boot_o_8 p) (.node (x7 p) (.node (x22 p) (.node (x45 p) (.node (x86 p) (.node (boot_o_7 p) .nil .nil) (.node (x242 p) .nil .nil)) (.node (boot_o_7 p) (.node (x204 p) .nil .nil) .nil)) (.node (boot_o_7 p) (.node (boot_o_7 p) (.node (boot_o_7 p) .nil .nil) .nil) (.node (x150 p) (.node (x223 p) .nil .nil) .nil))) (.node (boot_o_7 p) (.node (boot_o_7 p) (.node (x96 p) (.node (x177 p) .nil .nil) (.node (boot_o_8 p) .nil .nil)) (.node (x140 p) (.node (x214 p) .nil .nil) .nil)) (.node (x75 p) (.node (boot_o_7 p) (.node (x195 p) .nil .nil) .nil) (.node (boot_o_8 p) (.node (x232 p) .nil .nil) .nil)))) (.node (x15 p) (.node (x31 p) (.node (x50 p) (.node (x83 p) (.node (x172 p) .nil .nil) (.node (boot_o_7 p) .nil .nil)) (.node (x135 p) (.node (x209 p) .nil .nil) .nil)) (.node (boot_o_6 p) (.node (x114 p) (.node (boot_o_8 p) .nil .nil) .nil) (.node (boot_o_7 p) (.node (x228 p) .nil .nil) .nil))) (.node (x40 p) (.node (boot_o_8 p) (.node (x102 p) (.node (x182 p) .nil .nil) (.node (x257 p) .nil .nil)) (.node (x145 p) (.node (boot_o_7 p) .nil .nil) .nil)) (.node (x80 p) (.node (boot_o_7 p) (.node (x200 p) .nil .nil) .nil) (.node (x163 p) (.node (x237 p) .nil .nil) .nil))))) (.node (x4 p) (.node (x11 p) (.node (x26 p) (.node (x47 p) (.node (x89 p) (.node (boot_o_7 p) .nil .nil) (.node (boot_o_7 p) .nil .nil)) (.node (boot_o_7 p) (.node (x207 p) .nil .nil) .nil)) (.node (x67 p) (.node (boot_o_7 p) (.node (x188 p) .nil .nil) .nil) (.node (boot_o_7 p) (.node (boot_o_7 p) .nil .nil) .nil))) (.node (boot_o_7 p) (.node (x56 p) (.node (x99 p) (.node (x179 p) .nil .nil) (.node (x253 p) .nil .nil)) (.node (x142 p) (.node (x217 p) .nil .nil) .nil)) (.node (boot_o_8 p) (.node (x121 p) (.node (x198 p) .nil .nil) .nil) (.node (x161 p) (.node (boot_o_8 p) .nil .nil) .nil)))) (.node (x19 p) (.node (x34 p) (.node (boot_o_7 p) (.node (x94 p) (.node (boot_o_8 p) .nil .nil) (.node (x248 p) .nil .nil)) (.node (boot_o_8 p) (.node (x212 p) .nil .nil) .nil)) (.node (boot_o_7 p) (.node (boot_o_7 p) (.node (x193 p) .nil .nil) .nil) (.node (x156 p) (.node (boot_o_7 p) .nil .nil) .nil))) (.node (boot_o_8 p) (.node (x62 p) (.node (x106 p) (.node (boot_o_7 p) .nil .nil) .nil) (.node (x147 p) (.node (boot_o_7 p) .nil .nil) .nil)) (.node (x84 p) (.node (x71 p) (.node (x203 p) .nil .nil) .nil) (.node (x166 p) (.node (x239 p) .nil .nil) .nil)))))) (.node (boot_o_6 p) (.node (boot_o_10 p) (.node (x9 p) (.node (boot_o_7 p) (.node (boot_o_7 p) (.node (x87 p) (.node (x169 p) .nil .nil) (.node (boot_o_8 p) .nil .nil)) (.node (x132 p) (.node (x205 p) .nil .nil) .nil)) (.node (x66 p) (.node (x109 p) (.node (x187 p) .nil .nil) .nil) (.node (boot_o_8 p) (.node (x225 p) .nil .nil) .nil))) (.node (x37 p) (.node (x55 p) (.node (x97 p) (.node (boot_o_7 p) .nil .nil) (.node (boot_o_7 p) .nil .nil)) (.node (boot_o_7 p) (.node (x215 p) .nil .nil) .nil)) (.node (x77 p) (.node (x119 p) (.node (x196 p) .nil .nil) .nil) (.node (boot_o_7 p) (.node (x234 p) .nil .nil) .nil)))) (.node (x17 p) (.node (x32 p) (.node (boot_o_8 p) (.node (boot_o_7 p) (.node (x174 p) .nil .nil) (.node (x247 p) .nil .nil)) (.node (x137 p) (.node (x210 p) .nil .nil) .nil)) (.node (x72 p) (.node (x83 p) (.node (boot_o_7 p) .nil .nil) .nil) (.node (x155 p) (.node (x230 p) .nil .nil) .nil))) (.node (x42 p) (.node (x60 p) (.node (x104 p) (.node (boot_o_8 p) .nil .nil) (.node (x259 p) .nil .nil)) (.node (boot_o_7 p) (.node (x220 p) .nil .nil) .nil)) (.node (x82 p) (.node (x128 p) (.node (x201 p) .nil .nil) .nil) (.node (x164 p) (.node (boot_o_7 p) .nil .nil) .nil))))) (.node (x6 p) (.node (x13 p) (.node (boot_o_7 p) (.node (x48 p) (.node (x91 p) (.node (x171 p) .nil .nil) (.node (x245 p) .nil .nil)) (.node (x134 p) (.node (boot_o_7 p) .nil .nil) .nil)) (.node (x69 p) (.node (x124 p) (.node (x190 p) .nil .nil) .nil) (.node (x153 p) (.node (x227 p) .nil .nil) .nil))) (.node (x39 p) (.node (x58 p) (.node (x100 p) (.node (x180 p) .nil .nil) (.node (x255 p) .nil .nil)) (.node (x143 p) (.node (boot_o_8 p) .nil .nil) .nil)) (.node (boot_o_7 p) (.node (x83 p) (.node (boot_o_7 p) .nil .nil) .nil) (.node (boot_o_7 p) (.node (boot_o_7 p) .nil .nil) .nil)))) (.node (x21 p) (.node (boot_o_8 p) (.node (x53 p) (.node (boot_o_7 p) (.node (boot_o_7 p) .nil .nil) (.node (x250 p) .nil .nil)) (.node (boot_o_7 p) (.node (boot_o_7 p) .nil .nil) .nil)) (.node (x74 p) (.node (x116 p) (.node (boot_o_7 p) .nil .nil) .nil) (.node (x158 p) (.node (x231 p) .nil .nil) .nil))) (.node (boot_o_7 p) (.node (x64 p) (.node (x83 p) (.node (x185 p) .nil .nil) .nil) (.node (x148 p) (.node (x222 p) .nil .nil) .nil)) (.node (boot_o_8 p) (.node (boot_o_8 p) (.node (boot_o_7 p) .nil .nil) .nil) (.node (boot_o_8 p) (.node (x240 p) .nil .nil) .nil)))))))
noncomputable def ht21 (p : Params) : BT := .node (boot_o_0 p) (.node (x0 p) (.node (x260 p) (.node (boot_o_7 p) (.node (boot_o_7 p) (.node (x10 p) (.node (x44 p) (.node (x85 p) (.node (x167 p) (.node (boot_o_7 p) .nil .nil) .nil) (.node (x241 p) (.node (boot_o_7 p) .nil .nil) .nil)) (.node (x130 p) (.node (boot_o_8 p) (.node (x359 p) .nil .nil) .nil) (.node (boot_o_7 p) .nil .nil))) (.node (x65 p) (.node (x108 p) (.node (x186 p) (.node (boot_o_7 p) .nil .nil) .nil) (.node (x265 p) .nil .nil)) (.node (x149 p) (.node (boot_o_7 p) (.node (x378 p) .nil .nil) .nil) (.node (boot_o_8 p) .nil .nil)))) (.node (x35 p) (.node (x54 p) (.node (boot_o_8 p) (.node (x176 p) (.node (x332 p) .nil .nil) .nil) (.node (boot_o_7 p) (.node (x408 p) .nil .nil) .nil)) (.node (x139 p) (.node (boot_o_8 p) (.node (x368 p) .nil .nil) .nil) (.node (boot_o_8 p) .nil .nil))) (.node (boot_o_7 p) (.node (x117 p) (.node (boot_o_8 p) (.node (x350 p) .nil .nil) .nil) (.node (x275 p) .nil .nil)) (.node (boot_o_7 p) (.node (boot_o_7 p) (.node (x388 p) .nil .nil) .nil) (.node (boot_o_8 p) .nil .nil))))) (.node (x14 p) (.node (boot_o_8 p) (.node (x49 p) (.node (boot_o_7 p) (.node (boot_o_7 p) (.node (x327 p) .nil .nil) .nil) (.node (x246 p) (.node (boot_o_8 p) .nil .nil) .nil)) (.node (boot_o_7 p) (.node (boot_o_8 p) (.node (x364 p) .nil .nil) .nil) (.node (boot_o_8 p) .nil .nil))) (.node (x70 p) (.node (x113 p) (.node (boot_o_7 p) (.node (boot_o_8 p) .nil .nil) .nil) (.node (x270 p) .nil .nil)) (.node (x154 p) (.node (boot_o_7 p) (.node (x383 p) .nil .nil) .nil) (.node (boot_o_8 p) .nil .nil)))) (.node (boot_o_7 p) (.node (boot_o_7 p) (.node (x101 p) (.node (x181 p) (.node (x337 p) .nil .nil) .nil) (.node (x256 p) .nil .nil)) (.node (x144 p) (.node (x218 p) (.node (x373 p) .nil .nil) .nil) (.node (boot_o_8 p) .nil .nil))) (.node (x79 p) (.node (x126 p) (.node (boot_o_8 p) (.node (boot_o_7 p) .nil .nil) .nil) (.node (x280 p) .nil .nil)) (.node (boot_o_8 p) (.node (x236 p) (.node (x393 p) .nil .nil) .nil) (.node (x318 p) .nil .nil)))))) (.node (x24 p) (.node (x10 p) (.node (x261 p) (.node (boot_o_8 p) (.node (x88 p) (.node (x170 p) (.node (boot_o_7 p) .nil .nil) .nil) (.node (x243 p) (.node (x399 p) .nil .nil) .nil)) (.node (x133 p) (.node (x206 p) (.node (boot_o_7 p) .nil .nil) .nil) (.node (x286 p) .nil .nil))) (.node (boot_o_7 p) (.node (x110 p) (.node (boot_o_7 p) (.node (x343 p) .nil .nil) .nil) (.node (boot_o_7 p) .nil .nil)) (.node (x151 p) (.node (x226 p) (.node (boot_o_7 p) .nil .nil) .nil) (.node (x306 p) .nil .nil)))) (.node (x38 p) (.node (boot_o_7 p) (.node (x98 p) (.node (boot_o_8 p) (.node (x334 p) .nil .nil) .nil) (.node (x252 p) .nil .nil)) (.node (boot_o_8 p) (.node (x216 p) (.node (boot_o_7 p) .nil .nil) .nil) (.node (x296 p) .nil .nil))) (.node (boot_o_7 p) (.node (x120 p) (.node (x197 p) (.node (x353 p) .nil .nil) .nil) (.node (x277 p) .nil .nil)) (.node (x160 p) (.node (boot_o_7 p) (.node (x390 p) .nil .nil) .nil) (.node (x316 p) .nil .nil))))) (.node (x18 p) (.node (x33 p) (.node (x51 p) (.node (x93 p) (.node (boot_o_7 p) (.node (boot_o_8 p) .nil .nil) .nil) (.node (boot_o_7 p) (.node (x404 p) .nil .nil) .nil)) (.node (boot_o_7 p) (.node (x211 p) (.node (boot_o_7 p) .nil .nil) .nil) (.node (x291 p) .nil .nil))) (.node (x73 p) (.node (x115 p) (.node (x192 p) (.node (x348 p) .nil .nil) .nil) (.node (boot_o_8 p) .nil .nil)) (.node (boot_o_7 p) (.node (x71 p) (.node (boot_o_8 p) .nil .nil) .nil) (.node (x311 p) .nil .nil)))) (.node (boot_o_7 p) (.node (x61 p) (.node (x105 p) (.node (x183 p) (.node (boot_o_7 p) .nil .nil) .nil) (.node (x263 p) .nil .nil)) (.node (boot_o_8 p) (.node (x221 p) (.node (boot_o_7 p) .nil .nil) .nil) (.node (x301 p) .nil .nil))) (.node (x83 p) (.node (x129 p) (.node (x202 p) (.node (boot_o_7 p) .nil .nil) .nil) (.node (boot_o_7 p) .nil .nil)) (.node (x165 p) (.node (boot_o_8 p) (.node (boot_o_7 p) .nil .nil) .nil) (.node (x321 p) .nil .nil))))))) (.node (boot_o_5 p) (.node (boot_o_9 p) (.node (x8 p) (.node (x23 p) (.node (x46 p) (.node (boot_o_7 p) (.node (x168 p) (.node (x324 p) .nil .nil) .nil) (.node (boot_o_7 p) (.node (x398 p) .nil .nil) .nil)) (.node (x131 p) (.node (boot_o_7 p) (.node (x361 p) .nil .nil) .nil) (.node (x285 p) .nil .nil))) (.node (boot_o_8 p) (.node (boot_o_8 p) (.node (boot_o_8 p) (.node (x342 p) .nil .nil) .nil) (.node (x267 p) .nil .nil)) (.node (boot_o_7 p) (.node (x224 p) (.node (x380 p) .nil .nil) .nil) (.node (boot_o_7 p) .nil .nil)))) (.node (x36 p) (.node (boot_o_8 p) (.node (boot_o_7 p) (.node (x178 p) (.node (boot_o_7 p) .nil .nil) .nil) (.node (x251 p) (.node (x410 p) .nil .nil) .nil)) (.node (x141 p) (.node (boot_o_7 p) (.node (x370 p) .nil .nil) .nil) (.node (boot_o_7 p) .nil .nil))) (.node (x76 p) (.node (x118 p) (.node (boot_o_7 p) (.node (x351 p) .nil .nil) .nil) (.node (boot_o_7 p) .nil .nil)) (.node (x159 p) (.node (x233 p) (.node (boot_o_7 p) .nil .nil) .nil) (.node (boot_o_7 p) .nil .nil))))) (.node (x16 p) (.node (boot_o_7 p) (.node (boot_o_7 p) (.node (x92 p) (.node (x173 p) (.node (x329 p) .nil .nil) .nil) (.node (boot_o_8 p) (.node (boot_o_7 p) .nil .nil) .nil)) (.node (x136 p) (.node (boot_o_7 p) (.node (x366 p) .nil .nil) .nil) (.node (boot_o_7 p) .nil .nil))) (.node (x71 p) (.node (x107 p) (.node (x191 p) (.node (boot_o_7 p) .nil .nil) .nil) (.node (x272 p) .nil .nil)) (.node (boot_o_8 p) (.node (x229 p) (.node (x385 p) .nil .nil) .nil) (.node (boot_o_7 p) .nil .nil)))) (.node (x41 p) (.node (x59 p) (.node (x103 p) (.node (boot_o_7 p) (.node (boot_o_8 p) .nil .nil) .nil) (.node (x258 p) .nil .nil)) (.node (x146 p) (.node (x219 p) (.node (x375 p) .nil .nil) .nil) (.node (boot_o_7 p) .nil .nil))) (.node (x81 p) (.node (x127 p) (.node (boot_o_7 p) (.node (x356 p) .nil .nil) .nil) (.node (boot_o_8 p) .nil .nil)) (.node (boot_o_7 p) (.node (x238 p) (.node (boot_o_8 p) .nil .nil) .nil) (.node (x319 p) .nil .nil)))))) (.node (x5 p) (.node (x12 p) (.node (x27 p) (.node (boot_o_7 p) (.node (x90 p) (.node (boot_o_8 p) (.node (x326 p) .nil .nil) .nil) (.node (x244 p) (.node (x401 p) .nil .nil) .nil)) (.node (boot_o_8 p) (.node (x208 p) (.node (x363 p) .nil .nil) .nil) (.node (x288 p) .nil .nil))) (.node (x68 p) (.node (x111 p) (.node (x189 p) (.node (x345 p) .nil .nil) .nil) (.node (x269 p) .nil .nil)) (.node (x152 p) (.node (boot_o_8 p) (.node (x382 p) .nil .nil) .nil) (.node (x308 p) .nil .nil)))) (.node (boot_o_8 p) (.node (x57 p) (.node (boot_o_7 p) (.node (boot_o_7 p) (.node (x335 p) .nil .nil) .nil) (.node (x254 p) .nil .nil)) (.node (boot_o_7 p) (.node (boot_o_7 p) (.node (x372 p) .nil .nil) .nil) (.node (x298 p) .nil .nil))) (.node (x78 p) (.node (x125 p) (.node (x199 p) (.node (boot_o_8 p) .nil .nil) .nil) (.node (x278 p) .nil .nil)) (.node (x162 p) (.node (x235 p) (.node (x391 p) .nil .nil) .nil) (.node (boot_o_7 p) .nil .nil))))) (.node (x25 p) (.node (boot_o_7 p) (.node (x52 p) (.node (x95 p) (.node (x175 p) (.node (boot_o_7 p) .nil .nil) .nil) (.node (x249 p) (.node (x406 p) .nil .nil) .nil)) (.node (x138 p) (.node (x213 p) (.node (x367 p) .nil .nil) .nil) (.node (x293 p) .nil .nil))) (.node (boot_o_8 p) (.node (boot_o_8 p) (.node (x194 p) (.node (boot_o_7 p) .nil .nil) .nil) (.node (boot_o_7 p) .nil .nil)) (.node (x157 p) (.node (boot_o_8 p) (.node (boot_o_7 p) .nil .nil) .nil) (.node (x313 p) .nil .nil)))) (.node (x43 p) (.node (x63 p) (.node (x107 p) (.node (x184 p) (.node (x340 p) .nil .nil) .nil) (.node (x264 p) .nil .nil)) (.node (boot_o_7 p) (.node (boot_o_8 p) (.node (x377 p) .nil .nil) .nil) (.node (x303 p) .nil .nil))) (.node (boot_o_7 p) (.node (boot_o_7 p) (.node (x71 p) (.node (x358 p) .nil .nil) .nil) (.node (x283 p) .nil .nil)) (.node (boot_o_7 p) (.node (boot_o_7 p) (.node (x396 p) .nil .nil) .nil) (.node (boot_o_8 p) .nil .nil)))))))) (.node (x28 p) (.node (boot_o_4 p) (.node (boot_o_8 p) (.node (x7 p) (.node (x22 p) (.node (x45 p) (.node (x86 p) (.node (boot_o_7 p) (.node (x323 p) .nil .nil) .nil) (.node (x242 p) (.node (boot_o_8 p) .nil .nil) .nil)) (.node (boot_o_7 p) (.node (x204 p) (.node (x360 p) .nil .nil) .nil) (.node (boot_o_8 p) .nil .nil))) (.node (boot_o_7 p) (.node (boot_o_7 p) (.node (boot_o_7 p) (.node (boot_o_8 p) .nil .nil) .nil) (.node (x266 p) .nil .nil)) (.node (x150 p) (.node (x223 p) (.node (x379 p) .nil .nil) .nil) (.node (x304 p) .nil .nil)))) (.node (boot_o_7 p) (.node (boot_o_7 p) (.node (x96 p) (.node (x177 p) (.node (x333 p) .nil .nil) .nil) (.node (boot_o_8 p) (.node (x409 p) .nil .nil) .nil)) (.node (x140 p) (.node (x214 p) (.node (x369 p) .nil .nil) .nil) (.node (x294 p) .nil .nil))) (.node (x75 p) (.node (boot_o_7 p) (.node (x195 p) (.node (boot_o_7 p) .nil .nil) .nil) (.node (x276 p) .nil .nil)) (.node (boot_o_8 p) (.node (x232 p) (.node (x389 p) .nil .nil) .nil) (.node (x314 p) .nil .nil))))) (.node (x15 p) (.node (x31 p) (.node (x50 p) (.node (x83 p) (.node (x172 p) (.node (x328 p) .nil .nil) .nil) (.node (boot_o_7 p) (.node (x402 p) .nil .nil) .nil)) (.node (x135 p) (.node (x209 p) (.node (x365 p) .nil .nil) .nil) (.node (x289 p) .nil .nil))) (.node (boot_o_6 p) (.node (x114 p) (.node (boot_o_8 p) (.node (x346 p) .nil .nil) .nil) (.node (x271 p) .nil .nil)) (.node (boot_o_7 p) (.node (x228 p) (.node (x384 p) .nil .nil) .nil) (.node (x309 p) .nil .nil)))) (.node (x40 p) (.node (boot_o_8 p) (.node (x102 p) (.node (x182 p) (.node (boot_o_7 p) .nil .nil) .nil) (.node (x257 p) .nil .nil)) (.node (x145 p) (.node (boot_o_7 p) (.node (x374 p) .nil .nil) .nil) (.node (x299 p) .nil .nil))) (.node (x80 p) (.node (boot_o_7 p) (.node (x200 p) (.node (x355 p) .nil .nil) .nil) (.node (boot_o_7 p) .nil .nil)) (.node (x163 p) (.node (x237 p) (.node (boot_o_7 p) .nil .nil) .nil) (.node (boot_o_7 p) .nil .nil)))))) (.node (x4 p) (.node (x11 p) (.node (x26 p) (.node (x47 p) (.node (x89 p) (.node (boot_o_7 p) (.node (boot_o_8 p) .nil .nil) .nil) (.node (boot_o_7 p) (.node (x400 p) .nil .nil) .nil)) (.node (boot_o_7 p) (.node (x207 p) (.node (boot_o_8 p) .nil .nil) .nil) (.node (x287 p) .nil .nil))) (.node (x67 p) (.node (boot_o_7 p) (.node (x188 p) (.node (x344 p) .nil .nil) .nil) (.node (boot_o_8 p) .nil .nil)) (.node (boot_o_7 p) (.node (boot_o_7 p) (.node (boot_o_8 p) .nil .nil) .nil) (.node (x307 p) .nil .nil)))) (.node (boot_o_7 p) (.node (x56 p) (.node (x99 p) (.node (x179 p) (.node (boot_o_7 p) .nil .nil) .nil) (.node (x253 p) .nil .nil)) (.node (x142 p) (.node (x217 p) (.node (boot_o_8 p) .nil .nil) .nil) (.node (x297 p) .nil .nil))) (.node (boot_o_8 p) (.node (x121 p) (.node (x198 p) (.node (boot_o_7 p) .nil .nil) .nil) (.node (boot_o_7 p) .nil .nil)) (.node (x161 p) (.node (boot_o_8 p) (.node (boot_o_7 p) .nil .nil) .nil) (.node (x317 p) .nil .nil))))) (.node (x19 p) (.node (x34 p) (.node (boot_o_7 p) (.node (x94 p) (.node (boot_o_8 p) (.node (x330 p) .nil .nil) .nil) (.node (x248 p) (.node (x405 p) .nil .nil) .nil)) (.node (boot_o_8 p) (.node (x212 p) (.node (boot_o_8 p) .nil .nil) .nil) (.node (x292 p) .nil .nil))) (.node (boot_o_7 p) (.node (boot_o_7 p) (.node (x193 p) (.node (x349 p) .nil .nil) .nil) (.node (x273 p) .nil .nil)) (.node (x156 p) (.node (boot_o_7 p) (.node (x386 p) .nil .nil) .nil) (.node (x312 p) .nil .nil)))) (.node (boot_o_8 p) (.node (x62 p) (.node (x106 p) (.node (boot_o_7 p) (.node (x339 p) .nil .nil) .nil) (.node (x83 p) .nil .nil)) (.node (x147 p) (.node (boot_o_7 p) (.node (boot_o_8 p) .nil .nil) .nil) (.node (x302 p) .nil .nil))) (.node (x84 p) (.node (x71 p) (.node (x203 p) (.node (boot_o_8 p) .nil .nil) .nil) (.node (x282 p) .nil .nil)) (.node (x166 p) (.node (x239 p) (.node (x395 p) .nil .nil) .nil) (.node (boot_o_7 p) .nil .nil))))))) (.node (boot_o_6 p) (.node (boot_o_10 p) (.node (x9 p) (.node (boot_o_7 p) (.node (boot_o_7 p) (.node (x87 p) (.node (x169 p) (.node (x325 p) .nil .nil) .nil) (.node (boot_o_8 p) (.node (boot_o_7 p) .nil .nil) .nil)) (.node (x132 p) (.node (x205 p) (.node (x362 p) .nil .nil) .nil) (.node (boot_o_7 p) .nil .nil))) (.node (x66 p) (.node (x109 p) (.node (x187 p) (.node (boot_o_7 p) .nil .nil) .nil) (.node (x268 p) .nil .nil)) (.node (boot_o_8 p) (.node (x225 p) (.node (x381 p) .nil .nil) .nil) (.node (x305 p) .nil .nil)))) (.node (x37 p) (.node (x55 p) (.node (x97 p) (.node (boot_o_7 p) (.node (boot_o_8 p) .nil .nil) .nil) (.node (boot_o_7 p) .nil .nil)) (.node (boot_o_7 p) (.node (x215 p) (.node (x371 p) .nil .nil) .nil) (.node (x295 p) .nil .nil))) (.node (x77 p) (.node (x262 p) (.node (x196 p) (.node (x352 p) .nil .nil) .nil) (.node (boot_o_8 p) .nil .nil)) (.node (boot_o_7 p) (.node (x234 p) (.node (boot_o_8 p) .nil .nil) .nil) (.node (x315 p) .nil .nil))))) (.node (x17 p) (.node (x32 p) (.node (boot_o_8 p) (.node (boot_o_7 p) (.node (x174 p) (.node (boot_o_7 p) .nil .nil) .nil) (.node (x247 p) (.node (x403 p) .nil .nil) .nil)) (.node (x137 p) (.node (x210 p) (.node (x71 p) .nil .nil) .nil) (.node (x290 p) .nil .nil))) (.node (x72 p) (.node (x83 p) (.node (boot_o_7 p) (.node (x347 p) .nil .nil) .nil) (.node (boot_o_7 p) .nil .nil)) (.node (x155 p) (.node (x230 p) (.node (boot_o_7 p) .nil .nil) .nil) (.node (x310 p) .nil .nil)))) (.node (x42 p) (.node (x60 p) (.node (x104 p) (.node (boot_o_8 p) (.node (x338 p) .nil .nil) .nil) (.node (x259 p) .nil .nil)) (.node (boot_o_7 p) (.node (x220 p) (.node (x376 p) .nil .nil) .nil) (.node (x300 p) .nil .nil))) (.node (x82 p) (.node (x128 p) (.node (x201 p) (.node (x357 p) .nil .nil) .nil) (.node (x281 p) .nil .nil)) (.node (x164 p) (.node (boot_o_7 p) (.node (x394 p) .nil .nil) .nil) (.node (x320 p) .nil .nil)))))) (.node (x6 p) (.node (x13 p) (.node (boot_o_7 p) (.node (x48 p) (.node (x91 p) (.node (x171 p) (.node (boot_o_7 p) .nil .nil) .nil) (.node (x245 p) (.node (boot_o_7 p) .nil .nil) .nil)) (.node (x134 p) (.node (boot_o_7 p) (.node (boot_o_7 p) .nil .nil) .nil) (.node (boot_o_7 p) .nil .nil))) (.node (x69 p) (.node (x124 p) (.node (x190 p) (.node (boot_o_7 p) .nil .nil) .nil) (.node (boot_o_7 p) .nil .nil)) (.node (x153 p) (.node (x227 p) (.node (boot_o_7 p) .nil .nil) .nil) (.node (boot_o_7 p) .nil .nil)))) (.node (x39 p) (.node (x58 p) (.node (x100 p) (.node (x180 p) (.node (x336 p) .nil .nil) .nil) (.node (x255 p) .nil .nil)) (.node (x143 p) (.node (boot_o_8 p) (.node (boot_o_7 p) .nil .nil) .nil) (.node (boot_o_7 p) .nil .nil))) (.node (boot_o_7 p) (.node (x83 p) (.node (boot_o_7 p) (.node (x354 p) .nil .nil) .nil) (.node (x279 p) .nil .nil)) (.node (boot_o_7 p) (.node (boot_o_7 p) (.node (x392 p) .nil .nil) .nil) (.node (boot_o_8 p) .nil .nil))))) (.node (x21 p) (.node (boot_o_8 p) (.node (x53 p) (.node (boot_o_7 p) (.node (boot_o_7 p) (.node (x331 p) .nil .nil) .nil) (.node (x250 p) (.node (x407 p) .nil .nil) .nil)) (.node (boot_o_7 p) (.node (boot_o_7 p) (.node (boot_o_7 p) .nil .nil) .nil) (.node (boot_o_7 p) .nil .nil))) (.node (x74 p) (.node (x116 p) (.node (boot_o_7 p) (.node (boot_o_8 p) .nil .nil) .nil) (.node (x274 p) .nil .nil)) (.node (x158 p) (.node (x231 p) (.node (x387 p) .nil .nil) .nil) (.node (boot_o_7 p) .nil .nil)))) (.node (boot_o_7 p) (.node (x64 p) (.node (x83 p) (.node (x185 p) (.node (x341 p) .nil .nil) .nil) (.node (boot_o_7 p) .nil .nil)) (.node (x148 p) (.node (x222 p) (.node (boot_o_7 p) .nil .nil) .nil) (.node (boot_o_7 p) .nil .nil))) (.node (boot_o_8 p) (.node (boot_o_8 p) (.node (boot_o_7 p) (.node (boot_o_7 p) .nil .nil) .nil) (.node (x284 p) .nil .nil)) (.node (boot_o_8 p) (.node (x240 p) (.node (x397 p) .nil .nil) .nil) (.node (x322 p) .nil .nil))))))))
noncomputable def ht40 (p : Params) : BT := .node (boot_o_0 p) (.node (x0 p) (.node (x411 p) (.node (boot_o_7 p) (.node (boot_o_7 p) (.node (x10 p) (.node (x44 p) (.node (x85 p) (.node (x167 p) (.node (boot_o_7 p) .nil .nil) (.node (boot_o_7 p) .nil .nil)) (.node (x241 p) (.node (boot_o_7 p) .nil .nil) .nil)) (.node (x130 p) (.node (boot_o_8 p) (.node (x359 p) .nil .nil) (.node (boot_o_8 p) .nil .nil)) (.node (boot_o_7 p) (.node (boot_o_7 p) .nil .nil) .nil))) (.node (x65 p) (.node (x108 p) (.node (x186 p) (.node (boot_o_7 p) .nil .nil) (.node (boot_o_7 p) .nil .nil)) (.node (x265 p) (.node (x420 p) .nil .nil) .nil)) (.node (x149 p) (.node (boot_o_7 p) (.node (x378 p) .nil .nil) .nil) (.node (boot_o_8 p) (.node (x456 p) .nil .nil) .nil)))) (.node (x35 p) (.node (x54 p) (.node (boot_o_8 p) (.node (x176 p) (.node (x332 p) .nil .nil) (.node (x484 p) .nil .nil)) (.node (boot_o_7 p) (.node (x408 p) .nil .nil) .nil)) (.node (x139 p) (.node (boot_o_8 p) (.node (x368 p) .nil .nil) .nil) (.node (boot_o_8 p) (.node (x447 p) .nil .nil) .nil))) (.node (boot_o_7 p) (.node (x117 p) (.node (boot_o_8 p) (.node (x350 p) .nil .nil) (.node (x507 p) .nil .nil)) (.node (x275 p) (.node (boot_o_8 p) .nil .nil) .nil)) (.node (boot_o_7 p) (.node (boot_o_7 p) (.node (x388 p) .nil .nil) .nil) (.node (boot_o_8 p) (.node (x466 p) .nil .nil) .nil))))) (.node (x14 p) (.node (boot_o_8 p) (.node (x49 p) (.node (boot_o_7 p) (.node (boot_o_7 p) (.node (x327 p) .nil .nil) (.node (boot_o_8 p) .nil .nil)) (.node (x246 p) (.node (boot_o_8 p) .nil .nil) .nil)) (.node (boot_o_7 p) (.node (boot_o_8 p) (.node (x364 p) .nil .nil) (.node (x520 p) .nil .nil)) (.node (boot_o_8 p) (.node (boot_o_7 p) .nil .nil) .nil))) (.node (x70 p) (.node (x113 p) (.node (boot_o_7 p) (.node (boot_o_8 p) .nil .nil) (.node (boot_o_7 p) .nil .nil)) (.node (x270 p) (.node (boot_o_7 p) .nil .nil) .nil)) (.node (x154 p) (.node (boot_o_7 p) (.node (x383 p) .nil .nil) .nil) (.node (boot_o_8 p) (.node (x461 p) .nil .nil) .nil)))) (.node (boot_o_7 p) (.node (boot_o_7 p) (.node (x101 p) (.node (x181 p) (.node (x337 p) .nil .nil) (.node (x491 p) .nil .nil)) (.node (x256 p) (.node (x415 p) .nil .nil) .nil)) (.node (x144 p) (.node (x218 p) (.node (x373 p) .nil .nil) .nil) (.node (boot_o_8 p) (.node (x452 p) .nil .nil) .nil))) (.node (x79 p) (.node (x126 p) (.node (boot_o_8 p) (.node (boot_o_7 p) .nil .nil) (.node (boot_o_7 p) .nil .nil)) (.node (x280 p) (.node (x433 p) .nil .nil) .nil)) (.node (boot_o_8 p) (.node (x236 p) (.node (x393 p) .nil .nil) .nil) (.node (x318 p) (.node (boot_o_7 p) .nil .nil) .nil)))))) (.node (x24 p) (.node (x10 p) (.node (x412 p) (.node (boot_o_8 p) (.node (x88 p) (.node (x170 p) (.node (boot_o_7 p) .nil .nil) (.node (x477 p) .nil .nil)) (.node (x243 p) (.node (x399 p) .nil .nil) .nil)) (.node (x133 p) (.node (x206 p) (.node (boot_o_7 p) .nil .nil) (.node (x518 p) .nil .nil)) (.node (x286 p) (.node (x441 p) .nil .nil) .nil))) (.node (boot_o_7 p) (.node (x110 p) (.node (boot_o_7 p) (.node (x343 p) .nil .nil) (.node (x500 p) .nil .nil)) (.node (boot_o_7 p) (.node (boot_o_7 p) .nil .nil) .nil)) (.node (x151 p) (.node (x226 p) (.node (boot_o_7 p) .nil .nil) .nil) (.node (x306 p) (.node (boot_o_8 p) .nil .nil) .nil)))) (.node (x38 p) (.node (boot_o_7 p) (.node (x98 p) (.node (boot_o_8 p) (.node (x334 p) .nil .nil) (.node (x487 p) .nil .nil)) (.node (x252 p) (.node (boot_o_8 p) .nil .nil) .nil)) (.node (boot_o_8 p) (.node (x216 p) (.node (boot_o_7 p) .nil .nil) .nil) (.node (x296 p) (.node (boot_o_7 p) .nil .nil) .nil))) (.node (boot_o_7 p) (.node (x120 p) (.node (x197 p) (.node (x353 p) .nil .nil) (.node (boot_o_7 p) .nil .nil)) (.node (x277 p) (.node (x431 p) .nil .nil) .nil)) (.node (x160 p) (.node (boot_o_7 p) (.node (x390 p) .nil .nil) .nil) (.node (x316 p) (.node (boot_o_7 p) .nil .nil) .nil))))) (.node (x18 p) (.node (x33 p) (.node (x51 p) (.node (x93 p) (.node (boot_o_7 p) (.node (boot_o_8 p) .nil .nil) (.node (x482 p) .nil .nil)) (.node (boot_o_7 p) (.node (x404 p) .nil .nil) .nil)) (.node (boot_o_7 p) (.node (x211 p) (.node (boot_o_7 p) .nil .nil) (.node (boot_o_8 p) .nil .nil)) (.node (x291 p) (.node (boot_o_7 p) .nil .nil) .nil))) (.node (x73 p) (.node (x115 p) (.node (x192 p) (.node (x348 p) .nil .nil) (.node (boot_o_7 p) .nil .nil)) (.node (boot_o_8 p) (.node (x426 p) .nil .nil) .nil)) (.node (boot_o_7 p) (.node (x71 p) (.node (boot_o_8 p) .nil .nil) .nil) (.node (x311 p) (.node (x463 p) .nil .nil) .nil)))) (.node (boot_o_7 p) (.node (x61 p) (.node (x105 p) (.node (x183 p) (.node (boot_o_7 p) .nil .nil) (.node (x495 p) .nil .nil)) (.node (x263 p) (.node (x417 p) .nil .nil) .nil)) (.node (boot_o_8 p) (.node (x221 p) (.node (boot_o_7 p) .nil .nil) .nil) (.node (x301 p) (.node (boot_o_7 p) .nil .nil) .nil))) (.node (x83 p) (.node (x129 p) (.node (x202 p) (.node (boot_o_7 p) .nil .nil) (.node (x513 p) .nil .nil)) (.node (boot_o_7 p) (.node (x436 p) .nil .nil) .nil)) (.node (x165 p) (.node (boot_o_8 p) (.node (boot_o_7 p) .nil .nil) .nil) (.node (x321 p) (.node (x472 p) .nil .nil) .nil))))))) (.node (boot_o_5 p) (.node (boot_o_9 p) (.node (x8 p) (.node (x23 p) (.node (x46 p) (.node (boot_o_7 p) (.node (x168 p) (.node (x324 p) .nil .nil) (.node (x476 p) .nil .nil)) (.node (boot_o_7 p) (.node (x398 p) .nil .nil) .nil)) (.node (x131 p) (.node (boot_o_7 p) (.node (x361 p) .nil .nil) (.node (boot_o_7 p) .nil .nil)) (.node (x285 p) (.node (x439 p) .nil .nil) .nil))) (.node (boot_o_8 p) (.node (boot_o_8 p) (.node (boot_o_8 p) (.node (x342 p) .nil .nil) (.node (x498 p) .nil .nil)) (.node (x267 p) (.node (boot_o_8 p) .nil .nil) .nil)) (.node (boot_o_7 p) (.node (x224 p) (.node (x380 p) .nil .nil) .nil) (.node (boot_o_7 p) (.node (x458 p) .nil .nil) .nil)))) (.node (x36 p) (.node (boot_o_8 p) (.node (boot_o_7 p) (.node (x178 p) (.node (boot_o_7 p) .nil .nil) (.node (x485 p) .nil .nil)) (.node (x251 p) (.node (x410 p) .nil .nil) .nil)) (.node (x141 p) (.node (boot_o_7 p) (.node (x370 p) .nil .nil) .nil) (.node (boot_o_7 p) (.node (x449 p) .nil .nil) .nil))) (.node (x76 p) (.node (x118 p) (.node (boot_o_7 p) (.node (x351 p) .nil .nil) (.node (boot_o_8 p) .nil .nil)) (.node (boot_o_7 p) (.node (boot_o_7 p) .nil .nil) .nil)) (.node (x159 p) (.node (x233 p) (.node (boot_o_7 p) .nil .nil) .nil) (.node (boot_o_7 p) (.node (boot_o_8 p) .nil .nil) .nil))))) (.node (x16 p) (.node (boot_o_7 p) (.node (boot_o_7 p) (.node (x92 p) (.node (x173 p) (.node (x329 p) .nil .nil) (.node (boot_o_7 p) .nil .nil)) (.node (boot_o_8 p) (.node (boot_o_7 p) .nil .nil) .nil)) (.node (x136 p) (.node (boot_o_7 p) (.node (x366 p) .nil .nil) (.node (x522 p) .nil .nil)) (.node (boot_o_7 p) (.node (x444 p) .nil .nil) .nil))) (.node (x71 p) (.node (x107 p) (.node (x191 p) (.node (boot_o_7 p) .nil .nil) (.node (x503 p) .nil .nil)) (.node (x272 p) (.node (x425 p) .nil .nil) .nil)) (.node (boot_o_8 p) (.node (x229 p) (.node (x385 p) .nil .nil) .nil) (.node (boot_o_7 p) (.node (boot_o_7 p) .nil .nil) .nil)))) (.node (x41 p) (.node (x59 p) (.node (x103 p) (.node (boot_o_7 p) (.node (boot_o_8 p) .nil .nil) (.node (x493 p) .nil .nil)) (.node (x258 p) (.node (boot_o_7 p) .nil .nil) .nil)) (.node (x146 p) (.node (x219 p) (.node (x375 p) .nil .nil) .nil) (.node (boot_o_7 p) (.node (x454 p) .nil .nil) .nil))) (.node (x81 p) (.node (x127 p) (.node (boot_o_7 p) (.node (x356 p) .nil .nil) (.node (x512 p) .nil .nil)) (.node (boot_o_8 p) (.node (x434 p) .nil .nil) .nil)) (.node (boot_o_7 p) (.node (x238 p) (.node (boot_o_8 p) .nil .nil) .nil) (.node (x319 p) (.node (x471 p) .nil .nil) .nil)))))) (.node (x5 p) (.node (x12 p) (.node (x27 p) (.node (boot_o_7 p) (.node (x90 p) (.node (boot_o_8 p) (.node (x326 p) .nil .nil) (.node (x479 p) .nil .nil)) (.node (x244 p) (.node (x401 p) .nil .nil) .nil)) (.node (boot_o_8 p) (.node (x208 p) (.node (x363 p) .nil .nil) (.node (boot_o_7 p) .nil .nil)) (.node (x288 p) (.node (boot_o_8 p) .nil .nil) .nil))) (.node (x68 p) (.node (x111 p) (.node (x189 p) (.node (x345 p) .nil .nil) (.node (boot_o_8 p) .nil .nil)) (.node (x269 p) (.node (x423 p) .nil .nil) .nil)) (.node (x152 p) (.node (boot_o_8 p) (.node (x382 p) .nil .nil) .nil) (.node (x308 p) (.node (boot_o_7 p) .nil .nil) .nil)))) (.node (boot_o_8 p) (.node (x57 p) (.node (boot_o_7 p) (.node (boot_o_7 p) (.node (x335 p) .nil .nil) (.node (x489 p) .nil .nil)) (.node (x254 p) (.node (boot_o_7 p) .nil .nil) .nil)) (.node (boot_o_7 p) (.node (boot_o_7 p) (.node (x372 p) .nil .nil) .nil) (.node (x298 p) (.node (x451 p) .nil .nil) .nil))) (.node (x78 p) (.node (x125 p) (.node (x199 p) (.node (boot_o_8 p) .nil .nil) (.node (x510 p) .nil .nil)) (.node (x278 p) (.node (boot_o_7 p) .nil .nil) .nil)) (.node (x162 p) (.node (x235 p) (.node (x391 p) .nil .nil) .nil) (.node (boot_o_7 p) (.node (x469 p) .nil .nil) .nil))))) (.node (x25 p) (.node (boot_o_7 p) (.node (x52 p) (.node (x95 p) (.node (x175 p) (.node (boot_o_7 p) .nil .nil) (.node (boot_o_7 p) .nil .nil)) (.node (x249 p) (.node (x406 p) .nil .nil) .nil)) (.node (x138 p) (.node (x213 p) (.node (x367 p) .nil .nil) (.node (x524 p) .nil .nil)) (.node (x293 p) (.node (x446 p) .nil .nil) .nil))) (.node (boot_o_8 p) (.node (boot_o_8 p) (.node (x194 p) (.node (boot_o_7 p) .nil .nil) (.node (x505 p) .nil .nil)) (.node (boot_o_7 p) (.node (x428 p) .nil .nil) .nil)) (.node (x157 p) (.node (boot_o_8 p) (.node (boot_o_7 p) .nil .nil) .nil) (.node (x313 p) (.node (x464 p) .nil .nil) .nil)))) (.node (x43 p) (.node (x63 p) (.node (x107 p) (.node (x184 p) (.node (x340 p) .nil .nil) (.node (boot_o_8 p) .nil .nil)) (.node (x264 p) (.node (x418 p) .nil .nil) .nil)) (.node (boot_o_7 p) (.node (boot_o_8 p) (.node (x377 p) .nil .nil) .nil) (.node (x303 p) (.node (x455 p) .nil .nil) .nil))) (.node (boot_o_7 p) (.node (boot_o_7 p) (.node (x71 p) (.node (x358 p) .nil .nil) (.node (x515 p) .nil .nil)) (.node (x283 p) (.node (x83 p) .nil .nil) .nil)) (.node (boot_o_7 p) (.node (boot_o_7 p) (.node (x396 p) .nil .nil) .nil) (.node (boot_o_8 p) (.node (x474 p) .nil .nil) .nil)))))))) (.node (x28 p) (.node (boot_o_4 p) (.node (boot_o_8 p) (.node (x7 p) (.node (x22 p) (.node (x45 p) (.node (x86 p) (.node (boot_o_7 p) (.node (x323 p) .nil .nil) (.node (boot_o_8 p) .nil .nil)) (.node (x242 p) (.node (boot_o_8 p) .nil .nil) .nil)) (.node (boot_o_7 p) (.node (x204 p) (.node (x360 p) .nil .nil) (.node (x516 p) .nil .nil)) (.node (boot_o_8 p) (.node (x438 p) .nil .nil) .nil))) (.node (boot_o_7 p) (.node (boot_o_7 p) (.node (boot_o_7 p) (.node (boot_o_8 p) .nil .nil) (.node (x497 p) .nil .nil)) (.node (x266 p) (.node (boot_o_7 p) .nil .nil) .nil)) (.node (x150 p) (.node (x223 p) (.node (x379 p) .nil .nil) .nil) (.node (x304 p) (.node (x457 p) .nil .nil) .nil)))) (.node (boot_o_7 p) (.node (boot_o_7 p) (.node (x96 p) (.node (x177 p) (.node (x333 p) .nil .nil) (.node (boot_o_7 p) .nil .nil)) (.node (boot_o_8 p) (.node (x409 p) .nil .nil) .nil)) (.node (x140 p) (.node (x214 p) (.node (x369 p) .nil .nil) .nil) (.node (x294 p) (.node (x448 p) .nil .nil) .nil))) (.node (x75 p) (.node (boot_o_7 p) (.node (x195 p) (.node (boot_o_7 p) .nil .nil) (.node (boot_o_7 p) .nil .nil)) (.node (x276 p) (.node (x429 p) .nil .nil) .nil)) (.node (boot_o_8 p) (.node (x232 p) (.node (x389 p) .nil .nil) .nil) (.node (x314 p) (.node (boot_o_7 p) .nil .nil) .nil))))) (.node (x15 p) (.node (x31 p) (.node (x50 p) (.node (x83 p) (.node (x172 p) (.node (x328 p) .nil .nil) (.node (x480 p) .nil .nil)) (.node (boot_o_7 p) (.node (x402 p) .nil .nil) .nil)) (.node (x135 p) (.node (x209 p) (.node (x365 p) .nil .nil) (.node (x521 p) .nil .nil)) (.node (x289 p) (.node (x443 p) .nil .nil) .nil))) (.node (boot_o_6 p) (.node (x114 p) (.node (boot_o_8 p) (.node (x346 p) .nil .nil) (.node (x502 p) .nil .nil)) (.node (x271 p) (.node (boot_o_8 p) .nil .nil) .nil)) (.node (boot_o_7 p) (.node (x228 p) (.node (x384 p) .nil .nil) .nil) (.node (x309 p) (.node (x462 p) .nil .nil) .nil)))) (.node (x40 p) (.node (boot_o_8 p) (.node (x102 p) (.node (x182 p) (.node (boot_o_7 p) .nil .nil) (.node (x492 p) .nil .nil)) (.node (x257 p) (.node (x416 p) .nil .nil) .nil)) (.node (x145 p) (.node (boot_o_7 p) (.node (x374 p) .nil .nil) .nil) (.node (x299 p) (.node (x453 p) .nil .nil) .nil))) (.node (x80 p) (.node (boot_o_7 p) (.node (x200 p) (.node (x355 p) .nil .nil) (.node (boot_o_8 p) .nil .nil)) (.node (boot_o_7 p) (.node (boot_o_7 p) .nil .nil) .nil)) (.node (x163 p) (.node (x237 p) (.node (boot_o_7 p) .nil .nil) .nil) (.node (boot_o_7 p) (.node (boot_o_8 p) .nil .nil) .nil)))))) (.node (x4 p) (.node (x11 p) (.node (x26 p) (.node (x47 p) (.node (x89 p) (.node (boot_o_7 p) (.node (boot_o_8 p) .nil .nil) (.node (x478 p) .nil .nil)) (.node (boot_o_7 p) (.node (x400 p) .nil .nil) .nil)) (.node (boot_o_7 p) (.node (x207 p) (.node (boot_o_8 p) .nil .nil) (.node (x519 p) .nil .nil)) (.node (x287 p) (.node (boot_o_7 p) .nil .nil) .nil))) (.node (x67 p) (.node (boot_o_7 p) (.node (x188 p) (.node (x344 p) .nil .nil) (.node (boot_o_7 p) .nil .nil)) (.node (boot_o_8 p) (.node (x422 p) .nil .nil) .nil)) (.node (boot_o_7 p) (.node (boot_o_7 p) (.node (boot_o_8 p) .nil .nil) .nil) (.node (x307 p) (.node (x459 p) .nil .nil) .nil)))) (.node (boot_o_7 p) (.node (x56 p) (.node (x99 p) (.node (x179 p) (.node (boot_o_7 p) .nil .nil) (.node (x488 p) .nil .nil)) (.node (x253 p) (.node (x413 p) .nil .nil) .nil)) (.node (x142 p) (.node (x217 p) (.node (boot_o_8 p) .nil .nil) .nil) (.node (x297 p) (.node (boot_o_8 p) .nil .nil) .nil))) (.node (boot_o_8 p) (.node (x121 p) (.node (x198 p) (.node (boot_o_7 p) .nil .nil) (.node (x509 p) .nil .nil)) (.node (boot_o_7 p) (.node (x432 p) .nil .nil) .nil)) (.node (x161 p) (.node (boot_o_8 p) (.node (boot_o_7 p) .nil .nil) .nil) (.node (x317 p) (.node (x468 p) .nil .nil) .nil))))) (.node (x19 p) (.node (x34 p) (.node (boot_o_7 p) (.node (x94 p) (.node (boot_o_8 p) (.node (x330 p) .nil .nil) (.node (x483 p) .nil .nil)) (.node (x248 p) (.node (x405 p) .nil .nil) .nil)) (.node (boot_o_8 p) (.node (x212 p) (.node (boot_o_8 p) .nil .nil) (.node (x523 p) .nil .nil)) (.node (x292 p) (.node (boot_o_8 p) .nil .nil) .nil))) (.node (boot_o_7 p) (.node (boot_o_7 p) (.node (x193 p) (.node (x349 p) .nil .nil) (.node (boot_o_8 p) .nil .nil)) (.node (x273 p) (.node (x427 p) .nil .nil) .nil)) (.node (x156 p) (.node (boot_o_7 p) (.node (x386 p) .nil .nil) .nil) (.node (x312 p) (.node (boot_o_7 p) .nil .nil) .nil)))) (.node (boot_o_8 p) (.node (x62 p) (.node (x106 p) (.node (boot_o_7 p) (.node (x339 p) .nil .nil) (.node (boot_o_7 p) .nil .nil)) (.node (x83 p) (.node (boot_o_7 p) .nil .nil) .nil)) (.node (x147 p) (.node (boot_o_7 p) (.node (boot_o_8 p) .nil .nil) .nil) (.node (x302 p) (.node (boot_o_8 p) .nil .nil) .nil))) (.node (x84 p) (.node (x71 p) (.node (x203 p) (.node (boot_o_8 p) .nil .nil) (.node (x514 p) .nil .nil)) (.node (x282 p) (.node (boot_o_7 p) .nil .nil) .nil)) (.node (x166 p) (.node (x239 p) (.node (x395 p) .nil .nil) .nil) (.node (boot_o_7 p) (.node (x473 p) .nil .nil) .nil))))))) (.node (boot_o_6 p) (.node (boot_o_10 p) (.node (x9 p) (.node (boot_o_7 p) (.node (boot_o_7 p) (.node (x87 p) (.node (x169 p) (.node (x325 p) .nil .nil) (.node (boot_o_7 p) .nil .nil)) (.node (boot_o_8 p) (.node (boot_o_7 p) .nil .nil) .nil)) (.node (x132 p) (.node (x205 p) (.node (x362 p) .nil .nil) (.node (x517 p) .nil .nil)) (.node (boot_o_7 p) (.node (x440 p) .nil .nil) .nil))) (.node (x66 p) (.node (x109 p) (.node (x187 p) (.node (boot_o_7 p) .nil .nil) (.node (x499 p) .nil .nil)) (.node (x268 p) (.node (x421 p) .nil .nil) .nil)) (.node (boot_o_8 p) (.node (x225 p) (.node (x381 p) .nil .nil) .nil) (.node (x305 p) (.node (boot_o_7 p) .nil .nil) .nil)))) (.node (x37 p) (.node (x55 p) (.node (x97 p) (.node (boot_o_7 p) (.node (boot_o_8 p) .nil .nil) (.node (x486 p) .nil .nil)) (.node (boot_o_7 p) (.node (boot_o_7 p) .nil .nil) .nil)) (.node (boot_o_7 p) (.node (x215 p) (.node (x371 p) .nil .nil) .nil) (.node (x295 p) (.node (x450 p) .nil .nil) .nil))) (.node (x77 p) (.node (x262 p) (.node (x196 p) (.node (x352 p) .nil .nil) (.node (x508 p) .nil .nil)) (.node (boot_o_8 p) (.node (x430 p) .nil .nil) .nil)) (.node (boot_o_7 p) (.node (x234 p) (.node (boot_o_8 p) .nil .nil) .nil) (.node (x315 p) (.node (x467 p) .nil .nil) .nil))))) (.node (x17 p) (.node (x32 p) (.node (boot_o_8 p) (.node (boot_o_7 p) (.node (x174 p) (.node (boot_o_7 p) .nil .nil) (.node (x481 p) .nil .nil)) (.node (x247 p) (.node (x403 p) .nil .nil) .nil)) (.node (x137 p) (.node (x210 p) (.node (x71 p) .nil .nil) (.node (boot_o_7 p) .nil .nil)) (.node (x290 p) (.node (x445 p) .nil .nil) .nil))) (.node (x72 p) (.node (x83 p) (.node (boot_o_7 p) (.node (x347 p) .nil .nil) (.node (x504 p) .nil .nil)) (.node (boot_o_7 p) (.node (boot_o_7 p) .nil .nil) .nil)) (.node (x155 p) (.node (x230 p) (.node (boot_o_7 p) .nil .nil) .nil) (.node (x310 p) (.node (boot_o_8 p) .nil .nil) .nil)))) (.node (x42 p) (.node (x60 p) (.node (x104 p) (.node (boot_o_8 p) (.node (x338 p) .nil .nil) (.node (x494 p) .nil .nil)) (.node (x259 p) (.node (boot_o_8 p) .nil .nil) .nil)) (.node (boot_o_7 p) (.node (x220 p) (.node (x376 p) .nil .nil) .nil) (.node (x300 p) (.node (x71 p) .nil .nil) .nil))) (.node (x82 p) (.node (x128 p) (.node (x201 p) (.node (x357 p) .nil .nil) (.node (boot_o_7 p) .nil .nil)) (.node (x281 p) (.node (x435 p) .nil .nil) .nil)) (.node (x164 p) (.node (boot_o_7 p) (.node (x394 p) .nil .nil) .nil) (.node (x320 p) (.node (boot_o_7 p) .nil .nil) .nil)))))) (.node (x6 p) (.node (x13 p) (.node (boot_o_7 p) (.node (x48 p) (.node (x91 p) (.node (x171 p) (.node (boot_o_7 p) .nil .nil) (.node (boot_o_7 p) .nil .nil)) (.node (x245 p) (.node (boot_o_7 p) .nil .nil) .nil)) (.node (x134 p) (.node (boot_o_7 p) (.node (boot_o_7 p) .nil .nil) (.node (boot_o_8 p) .nil .nil)) (.node (boot_o_7 p) (.node (x442 p) .nil .nil) .nil))) (.node (x69 p) (.node (x124 p) (.node (x190 p) (.node (boot_o_7 p) .nil .nil) (.node (x501 p) .nil .nil)) (.node (boot_o_7 p) (.node (x424 p) .nil .nil) .nil)) (.node (x153 p) (.node (x227 p) (.node (boot_o_7 p) .nil .nil) .nil) (.node (boot_o_7 p) (.node (x460 p) .nil .nil) .nil)))) (.node (x39 p) (.node (x58 p) (.node (x100 p) (.node (x180 p) (.node (x336 p) .nil .nil) (.node (x490 p) .nil .nil)) (.node (x255 p) (.node (x414 p) .nil .nil) .nil)) (.node (x143 p) (.node (boot_o_8 p) (.node (boot_o_7 p) .nil .nil) .nil) (.node (boot_o_7 p) (.node (boot_o_7 p) .nil .nil) .nil))) (.node (boot_o_7 p) (.node (x83 p) (.node (boot_o_7 p) (.node (x354 p) .nil .nil) (.node (x511 p) .nil .nil)) (.node (x279 p) (.node (boot_o_8 p) .nil .nil) .nil)) (.node (boot_o_7 p) (.node (boot_o_7 p) (.node (x392 p) .nil .nil) .nil) (.node (boot_o_8 p) (.node (x470 p) .nil .nil) .nil))))) (.node (x21 p) (.node (boot_o_8 p) (.node (x53 p) (.node (boot_o_7 p) (.node (boot_o_7 p) (.node (x331 p) .nil .nil) (.node (boot_o_8 p) .nil .nil)) (.node (x250 p) (.node (x407 p) .nil .nil) .nil)) (.node (boot_o_7 p) (.node (boot_o_7 p) (.node (boot_o_7 p) .nil .nil) (.node (x525 p) .nil .nil)) (.node (boot_o_7 p) (.node (boot_o_7 p) .nil .nil) .nil))) (.node (x74 p) (.node (x116 p) (.node (boot_o_7 p) (.node (boot_o_8 p) .nil .nil) (.node (x506 p) .nil .nil)) (.node (x274 p) (.node (boot_o_7 p) .nil .nil) .nil)) (.node (x158 p) (.node (x231 p) (.node (x387 p) .nil .nil) .nil) (.node (boot_o_7 p) (.node (x465 p) .nil .nil) .nil)))) (.node (boot_o_7 p) (.node (x64 p) (.node (x83 p) (.node (x185 p) (.node (x341 p) .nil .nil) (.node (x496 p) .nil .nil)) (.node (boot_o_7 p) (.node (x419 p) .nil .nil) .nil)) (.node (x148 p) (.node (x222 p) (.node (boot_o_7 p) .nil .nil) .nil) (.node (boot_o_7 p) (.node (boot_o_7 p) .nil .nil) .nil))) (.node (boot_o_8 p) (.node (boot_o_8 p) (.node (boot_o_7 p) (.node (boot_o_7 p) .nil .nil) (.node (boot_o_7 p) .nil .nil)) (.node (x284 p) (.node (x437 p) .nil .nil) .nil)) (.node (boot_o_8 p) (.node (x240 p) (.node (x397 p) .nil .nil) .nil) (.node (x322 p) (.node (x475 p) .nil .nil) .nil))))))))
noncomputable def hpF (p : Params) : Heap := ⟨#[boot_o_0 p, x0 p, x28 p, x411 p, boot_o_4 p, boot_o_5 p, boot_o_6 p, boot_o_7 p, boot_o_8 p, boot_o_9 p, boot_o_10 p, x24 p, x4 p, x5 p, x6 p, boot_o_7 p, x7 p, x8 p, x9 p, x10 p, x11 p, x12 p, x13 p, x14 p, x15 p, x16 p, x17 p, x18 p, x19 p, x25 p, x21 p, x10 p, x22 p, x23 p, boot_o_7 p, x412 p, x26 p, x27 p, boot_o_7 p, boot_o_8 p, x31 p, boot_o_7 p, x32 p, x33 p, x34 p, boot_o_7 p, boot_o_8 p, x35 p, boot_o_7 p, x36 p, x37 p, x38 p, boot_o_7 p, boot_o_8 p, x39 p, boot_o_7 p, x40 p, x41 p, x42 p, boot_o_7 p, boot_o_8 p, x43 p, boot_o_7 p, x44 p, x45 p, x46 p, boot_o_7 p, boot_o_8 p, x47 p, boot_o_7 p, x48 p, x49 p, x50 p, boot_o_7 p, boot_o_8 p, x51 p, boot_o_7 p, x52 p, x53 p, x54 p, boot_o_7 p, boot_o_8 p, x55 p, boot_o_7 p, x56 p, x57 p, x58 p, boot_o_7 p, boot_o_8 p, x59 p, x60 p, x61 p, x62 p, x63 p, x64 p, x65 p, boot_o_7 p, boot_o_8 p, x66 p, boot_o_7 p, x67 p, x68 p, x69 p, x70 p, boot_o_6 p, x71 p, x72 p, x73 p, boot_o_7 p, boot_o_8 p, x74 p, boot_o_7 p, x75 p, x76 p, x77 p, boot_o_7 p, boot_o_8 p, x78 p, boot_o_7 p, x79 p, x80 p, x81 p, x82 p, x83 p, x84 p, boot_o_7 p, boot_o_8 p, x85 p, x86 p, boot_o_7 p, x87 p, x88 p, x89 p, x90 p, x91 p, boot_o_7 p, x83 p, x92 p, boot_o_7 p, x93 p, x94 p, x95 p, boot_o_7 p, boot_o_8 p, x96 p, boot_o_7 p, x97 p, x98 p, x99 p, boot_o_7 p, x100 p, x101 p, x102 p, x103 p, x104 p, x105 p, x106 p, x107 p, x83 p, x108 p, boot_o_7 p, boot_o_8 p, x109 p, x110 p, boot_o_7 p, x111 p, x124 p, x113 p, x114 p, x107 p, x83 p, x115 p, boot_o_7 p, boot_o_8 p, x116 p, x117 p, boot_o_7 p, x118 p, x262 p, x120 p, x121 p, x125 p, x83 p, x126 p, boot_o_7 p, x127 p, x128 p, x129 p, x71 p, boot_o_7 p, boot_o_8 p, x130 p, boot_o_7 p, x131 p, x132 p, x133 p, boot_o_7 p, boot_o_8 p, x134 p, boot_o_7 p, x135 p, x136 p, x137 p, boot_o_7 p, boot_o_8 p, x138 p, boot_o_7 p, x139 p, x140 p, x141 p, boot_o_7 p, boot_o_8 p, x142 p, boot_o_7 p, x143 p, x144 p, x145 p, x146 p, boot_o_7 p, boot_o_8 p, x147 p, boot_o_7 p, x148 p, x149 p, x150 p, boot_o_7 p, boot_o_8 p, x151 p, boot_o_7 p, x152 p, x153 p, x154 p, boot_o_7 p, boot_o_8 p, x155 p, boot_o_7 p, x156 p, x157 p, x158 p, boot_o_7 p, boot_o_8 p, x159 p, boot_o_7 p, x160 p, x161 p, x162 p, boot_o_7 p, boot_o_8 p, x163 p, boot_o_7 p, x164 p, x165 p, x166 p, boot_o_7 p, boot_o_8 p, x167 p, boot_o_7 p, x168 p, x169 p, x170 p, boot_o_7 p, boot_o_8 p, x171 p, boot_o_7 p, x172 p, x173 p, x174 p, boot_o_7 p, boot_o_8 p, x175 p, boot_o_7 p, x176 p, x177 p, x178 p, boot_o_7 p, boot_o_8 p, x179 p, boot_o_7 p, x180 p, x181 p, x182 p, boot_o_7 p, boot_o_8 p, x183 p, boot_o_7 p, x184 p, x185 p, x186 p, boot_o_7 p, boot_o_8 p, x187 p, boot_o_7 p, x188 p, x189 p, x190 p, boot_o_7 p, boot_o_8 p, x191 p, boot_o_7 p, x192 p, x193 p, x194 p, boot_o_7 p, boot_o_8 p, x195 p, boot_o_7 p, x196 p, x197 p, x198 p, x199 p, boot_o_7 p, boot_o_8 p, x200 p, boot_o_7 p, x201 p, x202 p, x203 p, x71 p, boot_o_7 p, boot_o_8 p, x204 p, boot_o_7 p, x205 p, x206 p, x207 p, x208 p, boot_o_7 p, boot_o_8 p, x209 p, boot_o_7 p, x210 p, x211 p, x212 p, x213 p, boot_o_7 p, boot_o_8 p, x214 p, boot_o_7 p, x215 p, x216 p, x217 p, boot_o_7 p, boot_o_8 p, x218 p, boot_o_7 p, x219 p, x220 p, x221 p, boot_o_7 p, boot_o_8 p, x222 p, boot_o_7 p, x223 p, x224 p, x225 p, x226 p, boot_o_7 p, boot_o_8 p, x227 p, boot_o_7 p, x228 p, x229 p, x230 p, x71 p, boot_o_7 p, boot_o_8 p, x231 p, boot_o_7 p, x232 p, x233 p, x234 p, boot_o_7 p, boot_o_8 p, x235 p, boot_o_7 p, x236 p, x237 p, x238 p, boot_o_7 p, boot_o_8 p, x239 p, boot_o_7 p, x240 p, x241 p, x242 p, boot_o_7 p, boot_o_8 p, x243 p, boot_o_7 p, x244 p, x245 p, x246 p, boot_o_7 p, boot_o_8 p, x247 p, boot_o_7 p, x248 p, x249 p, x250 p, boot_o_7 p, boot_o_8 p, x251 p, boot_o_7 p, x252 p, x253 p, x254 p, x255 p, x256 p, x257 p, x258 p, x259 p, x263 p, x83 p, x264 p, boot_o_7 p, x265 p, x266 p, x267 p, x268 p, boot_o_7 p, boot_o_8 p, x269 p, boot_o_7 p, x270 p, x271 p, x272 p, boot_o_7 p, boot_o_8 p, x273 p, boot_o_7 p, x274 p, x275 p, x276 p, boot_o_7 p, boot_o_8 p, x277 p, boot_o_7 p, x278 p, x279 p, x280 p, boot_o_7 p, boot_o_8 p, x281 p, boot_o_7 p, x282 p, x283 p, x284 p, boot_o_7 p, boot_o_8 p, x285 p, boot_o_7 p, x286 p, x287 p, x288 p, boot_o_7 p, boot_o_8 p, x289 p, boot_o_7 p, x290 p, x291 p, x292 p, x293 p, boot_o_7 p, boot_o_8 p, x294 p, boot_o_7 p, x295 p, x296 p, x297 p, x298 p, boot_o_7 p, boot_o_8 p, x299 p, boot_o_7 p, x300 p, x301 p, x302 p, x303 p, boot_o_7 p, boot_o_8 p, x304 p, boot_o_7 p, x305 p, x306 p, x307 p, x308 p, boot_o_7 p, boot_o_8 p, x309 p, boot_o_7 p, x310 p, x311 p, x312 p, x313 p, boot_o_7 p, boot_o_8 p, x314 p, boot_o_7 p, x315 p, x316 p, x317 p, boot_o_7 p, boot_o_8 p, x318 p, boot_o_7 p, x319 p, x320 p, x321 p, boot_o_7 p, boot_o_8 p, x322 p, boot_o_7 p, x323 p, x324 p, x325 p, boot_o_7 p, boot_o_8 p, x326 p, boot_o_7 p, x327 p, x328 p, x329 p, boot_o_7 p, boot_o_8 p, x330 p, boot_o_7 p, x331 p, x332 p, x333 p, boot_o_7 p, boot_o_8 p, x334 p, boot_o_7 p, x335 p, x336 p, x337 p, boot_o_7 p, boot_o_8 p, x338 p, boot_o_7 p, x339 p, x340 p, x341 p, boot_o_7 p, boot_o_8 p, x342 p, boot_o_7 p, x343 p, x344 p, x345 p, boot_o_7 p, boot_o_8 p, x346 p, boot_o_7 p, x347 p, x348 p, x349 p, boot_o_7 p, boot_o_8 p, x350 p, boot_o_7 p, x351 p, x352 p, x353 p, boot_o_7 p, boot_o_8 p, x354 p, boot_o_7 p, x355 p, x356 p, x357 p, boot_o_7 p, boot_o_8 p, x358 p, boot_o_7 p, x359 p, x360 p, x361 p, x362 p, boot_o_7 p, boot_o_8 p, x363 p, boot_o_7 p, x364 p, x365 p, x366 p, x71 p, boot_o_7 p, boot_o_8 p, x367 p, boot_o_7 p, x368 p, x369 p, x370 p, x371 p, boot_o_7 p, boot_o_8 p, x372 p, boot_o_7 p, x373 p, x374 p, x375 p, x376 p, boot_o_7 p, boot_o_8 p, x377 p, boot_o_7 p, x378 p, x379 p, x380 p, x381 p, boot_o_7 p, boot_o_8 p, x382 p, boot_o_7 p, x383 p, x384 p, x385 p, boot_o_7 p, boot_o_8 p, x386 p, boot_o_7 p, x387 p, x388 p, x389 p, boot_o_7 p, boot_o_8 p, x390 p, boot_o_7 p, x391 p, x392 p, x393 p, boot_o_7 p, boot_o_8 p, x394 p, boot_o_7 p, x395 p, x396 p, x397 p, boot_o_7 p, boot_o_8 p, x398 p, boot_o_7 p, x399 p, x400 p, x401 p, boot_o_7 p, boot_o_8 p, x402 p, boot_o_7 p, x403 p, x404 p, x405 p, x406 p, x407 p, x408 p, x409 p, x410 p, boot_o_7 p, boot_o_8 p, x413 p, boot_o_7 p, x414 p, x415 p, x416 p, boot_o_7 p, boot_o_8 p, x417 p, boot_o_7 p, x418 p, x419 p, x420 p, boot_o_7 p, boot_o_8 p, x421 p, boot_o_7 p, x422 p, x423 p, x424 p, boot_o_7 p, boot_o_8 p, x425 p, boot_o_7 p, x426 p, x427 p, x428 p, boot_o_7 p, boot_o_8 p, x429 p, boot_o_7 p, x430 p, x431 p, x432 p, boot_o_7 p, boot_o_8 p, x433 p, boot_o_7 p, x434 p, x435 p, x436 p, boot_o_7 p, x83 p, x437 p, boot_o_7 p, x438 p, x439 p, x440 p, x441 p, boot_o_7 p, boot_o_8 p, x442 p, boot_o_7 p, x443 p, x444 p, x445 p, boot_o_7 p, boot_o_8 p, x446 p, boot_o_7 p, x447 p, x448 p, x449 p, x450 p, boot_o_7 p, boot_o_8 p, x451 p, boot_o_7 p, x452 p, x453 p, x454 p, x71 p, boot_o_7 p, boot_o_8 p, x455 p, boot_o_7 p, x456 p, x457 p, x458 p, boot_o_7 p, boot_o_8 p, x459 p, boot_o_7 p, x460 p, x461 p, x462 p, boot_o_7 p, boot_o_8 p, x463 p, boot_o_7 p, x464 p, x465 p, x466 p, boot_o_7 p, boot_o_8 p, x467 p, boot_o_7 p, x468 p, x469 p, x470 p, boot_o_7 p, boot_o_8 p, x471 p, boot_o_7 p, x472 p, x473 p, x474 p, x475 p, boot_o_7 p, boot_o_8 p, x476 p, boot_o_7 p, x477 p, x478 p, x479 p, boot_o_7 p, boot_o_8 p, x480 p, boot_o_7 p, x481 p, x482 p, x483 p, boot_o_7 p, boot_o_8 p, x484 p, boot_o_7 p, x485 p, x486 p, x487 p, x488 p, x489 p, x490 p, x491 p, x492 p, x493 p, x494 p, x495 p, boot_o_7 p, boot_o_8 p, x496 p, boot_o_7 p, x497 p, x498 p, x499 p, x500 p, boot_o_7 p, boot_o_8 p, x501 p, boot_o_7 p, x502 p, x503 p, x504 p, boot_o_7 p, boot_o_8 p, x505 p, x506 p, x507 p, boot_o_7 p, boot_o_8 p, x508 p, boot_o_7 p, x509 p, x510 p, x511 p, boot_o_7 p, boot_o_8 p, x512 p, boot_o_7 p, x513 p, x514 p, x515 p, boot_o_7 p, boot_o_8 p, x516 p, boot_o_7 p, x517 p, x518 p, x519 p, boot_o_7 p, boot_o_8 p, x520 p, x521 p, x522 p, boot_o_7 p, boot_o_8 p, x523 p, x524 p, x525 p], hLife⟩
noncomputable def hEnv : Env := { scope := pw.main.scope, locals := mainNs, globals := mainNs, cells := [], code := .ref 36, frame := some 37 }
noncomputable def hb : List Stmt := behindTheImports pw
noncomputable def hC : Code := .body hb hEnv
noncomputable def hAnn : Option Value := some (.ref 6)
noncomputable def hQ : Pos := ⟨0, 0, 0, 0⟩
noncomputable def hDr : Drawn := ⟨0, 0, 0, 0⟩
noncomputable def hs0 : List Stmt := (hb.drop 0).take 20
noncomputable def hs1 : List Stmt := (hb.drop 20).take 1
noncomputable def hs2 : List Stmt := (hb.drop 21).take 1
noncomputable def hs3 : List Stmt := (hb.drop 22).take 19
theorem hOpen : ∀ w : World, (fencedOpening treeTable pw w 10806).map (fun s => (s.heap, s.gens, s.drawn, s.toks)) = some (hpO w.params, #[], ⟨0, 0, 0, 0⟩, 318) := open_cut (M := 1086) (He := hpI) (H₀ := hpO) (ge := #[]) (g₀ := #[]) (de := ⟨0, 0, 0, 0⟩) (d₀ := ⟨0, 0, 0, 0⟩) (ke := 318) (k₀ := 318) (fun w => by kernel_rfl) (by decide +kernel) (fun w => by kernel_rfl)
theorem hPre (w : World) (os : OsState) : topGo treeTable pw w 34 hAnn 12 ⟨hpO w.params, #[], ⟨0, 0, 0, 0⟩, 318, os⟩ (topStub pw) = some (Shared.mk (hpA w.params) #[] hDr 324 os, ⟨denote treeTable hC, hC, ⟨0, 0, 0, 0⟩, [topFrame hQ]⟩) := by kernel_rfl
theorem hBlock (w : World) (os : OsState) : segRun treeTable pw w 34 hAnn 1 1 (Shared.mk (hpA w.params) #[] hDr 324 os) (blockOf hb hEnv hC ⟨0, 0, 0, 0⟩ [topFrame hQ]) = some (.next, (SharedT.mk (htB w.params) 38 hLife #[] hDr 324 os).abs, hC, ⟨0, 0, 0, 0⟩) := by kernel_rfl
theorem hG0 (w : World) (os : OsState) : segRunT treeTable pw w 34 hAnn 1 1378 (SharedT.mk (htB w.params) 38 hLife #[] hDr 324 os) (piecesOf hs0 hEnv hC ⟨0, 0, 0, 0⟩ [topFrame hQ]) = some (.next, SharedT.mk (ht19 w.params) 181 hLife #[] hDr 564 os, hC, ⟨117, 0, 118, 21⟩) := by kernel_rfl
theorem hG1 (w : World) (os : OsState) : segRunT treeTable pw w 34 hAnn 1 1278 (SharedT.mk (ht19 w.params) 181 hLife #[] hDr 564 os) (piecesOf hs1 hEnv hC ⟨117, 0, 118, 21⟩ [topFrame hQ]) = some (.next, SharedT.mk (ht20 w.params) 411 hLife #[] hDr 826 os, hC, ⟨119, 0, 288, 17⟩) := by kernel_rfl
theorem hG2 (w : World) (os : OsState) : segRunT treeTable pw w 34 hAnn 1 1578 (SharedT.mk (ht20 w.params) 411 hLife #[] hDr 826 os) (piecesOf hs2 hEnv hC ⟨119, 0, 288, 17⟩ [topFrame hQ]) = some (.next, SharedT.mk (ht21 w.params) 658 hLife #[] hDr 1113 os, hC, ⟨289, 0, 493, 17⟩) := by kernel_rfl
theorem hG3 (w : World) (os : OsState) : segRunT treeTable pw w 34 hAnn 1 1110 (SharedT.mk (ht21 w.params) 658 hLife #[] hDr 1113 os) (piecesOf hs3 hEnv hC ⟨289, 0, 493, 17⟩ [topFrame hQ]) = some (.next, SharedT.mk (ht40 w.params) 847 hLife #[] hDr 1380 os, hC, ⟨859, 0, 864, 89⟩) := by kernel_rfl
theorem hFin (w : World) (os : OsState) : topRun treeTable pw w 34 hAnn 2 (SharedT.mk (ht40 w.params) 847 hLife #[] hDr 1380 os).abs ⟨doneF .next, hC, ⟨859, 0, 864, 89⟩, [topFrame hQ]⟩ = some (Shared.mk (hpF w.params) #[] hDr 1380 os) := by kernel_rfl
theorem hsplit : hs0 ++ (hs1 ++ (hs2 ++ (hs3 ++ ([])))) = hb := by kernel_rfl
theorem hRun (w : World) (os : OsState) : topRun treeTable pw w 34 hAnn (12 + (1 + (1378 + (1278 + (1578 + (1110 + (2))))))) ⟨hpO w.params, #[], ⟨0, 0, 0, 0⟩, 318, os⟩ (topStub pw) = some (Shared.mk (hpF w.params) #[] hDr 1380 os) := by
  refine go_top (hPre w os) (piece_block (hBlock w os) ?_)
  rw [← hsplit]
  exact piece_app (segRun_of (hG0 w os)) (piece_app (segRun_of (hG1 w os)) (piece_app (segRun_of (hG2 w os)) (piece_app (segRun_of (hG3 w os)) (piece_nil (hFin w os)))))
theorem hSize (w : World) : ((hpO w.params).isNs mainGlobals && (#[] : Array GenState).size == 0, (hpO w.params).objs.size, (hpO w.params).nsMap mainGlobals "__annotations__") = (true, 34, hAnn) := by kernel_rfl
theorem hLe : Nat.ble (12 + (1 + (1378 + (1278 + (1578 + (1110 + (2))))))) 10806 = true := by decide +kernel
noncomputable abbrev hr : OpenRow := PySem.Challenge.rw_ij0186_01.row
noncomputable def hview : Program := { pw with main := { pw.main with body := [0, 1, 2, 4, 5, 6, 7, 8, 9, 11, 12, 14, 16, 17, 18, 19, 20, 21, 22, 23, 25, 26, 27, 28, 29, 30, 32, 34, 35, 37, 38, 39, 40, 41, 42].filterMap fun i => pw.main.body[i]? } }
noncomputable def hloose : List PySem.Str := ["_initial_missing", "reduce", "_twin_re_1", "UnsupportedOperation", "IOBase", "BufferedIOBase", "TextIOBase", "BytesIO", "StringIO", "shlex", "split", "_find_unsafe"]
noncomputable abbrev hXt : Shared → Bool := fun s => xlAt hview [] s && recOk (RowW.records (OpenRow.toRowW hr)) s
noncomputable abbrev hSt (w : World) (os : OsState) : Shared := Shared.mk (hpF w.params) #[] hDr 1380 os
theorem lA1 (w : World) : staticsOk (importedModules pw.main.body) (hpO w.params) (hpF w.params) = true := by kernel_rfl
theorem lA2 (w : World) : namesBound pw (hpF w.params) = true := by kernel_rfl
theorem lA3 (w : World) : laidKept (hpO w.params) (hpF w.params) = true := by kernel_rfl
theorem lookA (w : World) (os : OsState) : (staticsOk (importedModules pw.main.body) (hpO w.params) (hpF w.params) && namesBound pw (hpF w.params) && gensDone (hSt w os) && laidKept (hpO w.params) (hpF w.params)) = true := by
  rw [lA1, lA2, lA3]; rfl
theorem lB1 (w : World) (os : OsState) : seen ((recsOf hview).map (·.name)) (ownsOf hview) [] { hSt w os with gens := #[] } = expectedOf hview := by kernel_rfl
theorem lB2 (w : World) : (hpF w.params).bltView = bltViewBooted := by kernel_rfl
theorem lB3a (w : World) : (hpF w.params).keysOk (looseW hview hloose) ((recsOf hview).map (·.name)) ((litsOf hview).map (·.1)) ((clssOf hview (looseW hview hloose)).map (·.name)) = true := by kernel_rfl
theorem lB3b (w : World) : (hpF w.params).accountedOkI (importedModules pw.main.body) = true := by kernel_rfl
theorem lB3c (w : World) : tablesOk hview (hpF w.params) = true := by kernel_rfl
theorem lB3d (w : World) (os : OsState) : hXt (hSt w os) = true := by kernel_rfl
theorem lB3 (w : World) (os : OsState) : ((hpF w.params).keysOk (looseW hview hloose) ((recsOf hview).map (·.name)) ((litsOf hview).map (·.1)) ((clssOf hview (looseW hview hloose)).map (·.name)) && (hpF w.params).accountedOkI (importedModules pw.main.body) && (hpF w.params).isNs mainGlobals && (hpF w.params).isNs builtinsNs && tablesOk hview (hpF w.params) && hXt (hSt w os) && (#[] : Array GenState).size == 0) = true := by
  rw [lB3a, lB3b, lB3c, lB3d]; kernel_rfl
theorem lB4 (w : World) (os : OsState) : tabsOk hview (hSt w os) = true := by kernel_rfl
theorem lB5 (w : World) (os : OsState) : pinSeenD hview (drecsOf hview) (hSt w os) = pinGoodD (drecsOf hview) := by kernel_rfl
theorem lB6 (w : World) (os : OsState) : plainSeenE hview (looseW hview hloose) (hSt w os) = plainGoodE hview (looseW hview hloose) := by kernel_rfl
theorem lB7 (w : World) (os : OsState) : plainSeenD hview hloose (hSt w os) = plainGoodD hview hloose := by kernel_rfl
theorem lB8 (w : World) (os : OsState) : wideSeen hview (hSt w os) = wideGood hview := by kernel_rfl
theorem lB9 (w : World) (os : OsState) : clsSeenW hview hloose (hSt w os) = clsGoodW hview hloose := by kernel_rfl
theorem lookB (w : World) (os : OsState) : openSeen hview hloose (importedModules pw.main.body) hXt true (hSt w os) = openGood hview hloose := looks_pair (lB1 w os) (looks_pair (lB2 w) (looks_pair (lB3 w os) (looks_pair (lB4 w os) (looks_pair (lB5 w os) (looks_pair (lB6 w os) (looks_pair (lB7 w os) (looks_pair (lB8 w os) (lB9 w os))))))))
theorem lS1 : sreFenced PySem.Challenge.rw_ij0186_01.row.prog.main = true := by
  rw [PySem.W.Fast.te11788848310118352699]
  kernel_rfl
theorem lS2 : ((moduleNames PySem.Challenge.rw_ij0186_01.row.prog.main.body).isEmpty || lookedIntoSs (moduleNames PySem.Challenge.rw_ij0186_01.row.prog.main.body) PySem.Challenge.rw_ij0186_01.row.prog.main.body) = true := by
  rw [PySem.W.Fast.te9807087744658564304, PySem.W.Fast.te12862048085361865435]
  kernel_rfl
theorem lS3 : namesResolve PySem.Challenge.rw_ij0186_01.row.prog = true := by
  rw [PySem.W.Fast.te8377067652309620493]
  kernel_rfl
theorem lS4 : PySem.Challenge.rw_ij0186_01.row.prog.boundNames.all (fun n => !worldNames.contains n) = true := by kernel_rfl
theorem lS5 : noRoadLSs { strict := !(importedModules PySem.Challenge.rw_ij0186_01.row.prog.main.body).all cThrough.contains, foot := none, bare := (["vars", "dir", "locals"] : List Str).filter (readsOut PySem.Challenge.rw_ij0186_01.row.prog PySem.Challenge.rw_ij0186_01.row.prog.main.body) } PySem.Challenge.rw_ij0186_01.row.prog.main.body = true := by
  rw [PySem.W.Fast.te8326940854005059898, PySem.W.Fast.te13343964577679436407]
  kernel_rfl
theorem lS6 : namesMeet PySem.Challenge.rw_ij0186_01.row.prog PySem.Challenge.rw_ij0186_01.row.prog.main.body (fun _ n => attrL n) = true := by
  rw [PySem.W.Fast.te17119622794617984870]
  kernel_rfl
theorem hLooks : looksOpen PySem.Challenge.rw_ij0186_01.row.prog = true := by
  unfold looksOpen
  rw [lS1, lS2, lS3, lS4, lS5, lS6]
  rfl
theorem hPart : PySem.Challenge.rw_ij0186_01.row.partSaid = true := by
  unfold OpenRow.partSaid
  rw [hLooks]
  kernel_rfl
theorem hRow : PySem.Challenge.rw_ij0186_01.row.wellSaid = true := by
  unfold OpenRow.wellSaid
  rw [hPart]
  kernel_rfl
theorem hSaid : PySem.Challenge.rw_ij0186_01.wellSaid = true := by
  unfold OpenLaw.wellSaid
  rw [hRow, PySem.W.Fast.te17119622794617984870, PySem.W.Fast.te8326940854005059898]
  kernel_rfl
local macro_rules | `(tactic| o_law) => `(tactic| refine holds_law hSaid fun said => ?_)
theorem hHead (H : Hook) {d : DefRec} {kwd : List (Str × PySem.Expr)} (e : ∀ w os, H.obs (hSt w os) = H.val w) (hdef : defOf hview PySem.Challenge.rw_ij0186_01.row.name = some (d, kwd)) (hp : PySem.Challenge.rw_ij0186_01.row.prog.theDef PySem.Challenge.rw_ij0186_01.row.name = some (d.params, d.body, d.scope)) (hk : kwWritten? d.params.kwonlyargs d.params.kw_defaults = some kwd) (k1 : PySem.Challenge.rw_ij0186_01.row.wellSaid = true)
    (hw : PySem.Challenge.rw_ij0186_01.row.toRowW.promised) (call : WalkO hview hloose (XL hview []) H.says PySem.Challenge.rw_ij0186_01.row.toRowW d kwd fun f vs => PySem.call f vs) : PySem.Challenge.rw_ij0186_01.row.Holds :=
  holds_open (q := hview) (loose := hloose) (Xt := hXt) (XP := XL hview []) (Yf := H.obs) (Ya := H.val) (YP := H.says) (N := 10806) (LeftO.of_pieces hOpen hSize hRun hLe (fun w => funext fun os => looks_pair (lookA w os) (looks_pair (lookB w os) (e w os))))
    H.of H.keeps (fun s e => xl_of s (Bool.and_eq_true_iff.mp e).1) XL.keeps hdef hp hk (fun s e => recFacts_of (Bool.and_eq_true_iff.mp e).2) (by rfl) k1 (by decide +kernel) ⟨rfl, rfl, rfl, rfl, rfl, by decide +kernel⟩ hw call
local macro_rules | `(tactic| o_head $H) => do
  let (hw, hc) := (Lean.mkIdent `hw, Lean.mkIdent `hc)
  `(tactic| refine hHead $H (fun w os => by kernel_rfl) (by rfl) (by rfl) (by rfl) (by assumption) ?$hw ?$hc)
open_top hd for PySem.Challenge.rw_ij0186_01
end Mine
end
open PySem PySem.W PyProof.Rows PySem.Calls PySem.Spec
set_option Elab.async false
set_option maxRecDepth 100000
set_option maxHeartbeats 0
namespace Mine
example : True := by
  w_top off
  trivial
example (w : World) : hd.heap_1 w.params = hd.heap_1 w.params ∧ PySem.Challenge.rw_ij0186_01 = PySem.Challenge.rw_ij0186_01 := by
  k_fill
  exact ⟨rfl, rfl⟩
local macro_rules | `(tactic| walk_at $s:str) => `(tactic| k_extra $s)
local macro_rules | `(tactic| k_inst) => `(tactic| k_extra "k_inst")
local macro_rules | `(tactic| k_all) => `(tactic| k_extra "k_all")
local macro_rules | `(tactic| x_close) => `(tactic| k_extra "x_close")
section
example : True := by
  k_with_none
  trivial
section
section
variable {α : Type} [Inhabited α] (lt : α → α → Bool)

/-- what a sift towards the root leaves: the walk of _siftdown(heap, 0, pos) with x in hand; the first number is fuel -/
noncomputable def bubF (x : α) : Nat → Nat → List α → List α
  | 0, _, l => l
  | f + 1, pos, l => if pos = 0 then l.set 0 x else if lt x l[(pos - 1) / 2]! then bubF x f ((pos - 1) / 2) (l.set pos l[(pos - 1) / 2]!) else l.set pos x
noncomputable def bubble (x : α) (pos : Nat) (l : List α) : List α := bubF lt x (pos + 1) pos l
theorem bubF_fuel (x : α) : ∀ (f pos : Nat) (l : List α), pos < f → bubF lt x f pos l = bubF lt x (pos + 1) pos l := by
  intro f
  induction f using Nat.strongRecOn with
  | ind f ih =>
    intro pos l h
    obtain ⟨g, rfl⟩ : ∃ g, f = g + 1 := ⟨f - 1, by omega⟩
    rw [bubF, bubF]
    split
    · rfl
    · split
      · rw [ih g (by omega) _ _ (by omega)]
        by_cases e : g = pos
        · subst e
          rw [ih g (by omega) _ _ (by omega)]
        · rw [ih pos (by omega) _ _ (by omega)]
      · rfl
theorem bubble_zero (x : α) (l : List α) : bubble lt x 0 l = l.set 0 x := rfl
theorem bubble_succ (x : α) (pos : Nat) (l : List α) : bubble lt x (pos + 1) l = if lt x l[pos / 2]! then bubble lt x (pos / 2) (l.set (pos + 1) l[pos / 2]!) else l.set (pos + 1) x := by
  unfold bubble
  rw [bubF, if_neg (Nat.succ_ne_zero _), Nat.add_sub_cancel, bubF_fuel lt x (pos + 1) (pos / 2) _ (by omega)]

/-- the child that _siftup takes -/
noncomputable def childOf (l : List α) (pos : Nat) : Nat :=
  if 2 * pos + 2 < l.length ∧ lt l[2 * pos + 1]! l[2 * pos + 2]! = false then 2 * pos + 2 else 2 * pos + 1

noncomputable def sink (n : Nat) : Nat → Nat → List α → List α × Nat
  | 0, pos, l => (l, pos)
  | f + 1, pos, l => if 2 * pos + 1 < n then sink n f (childOf lt l pos) (l.set pos l[childOf lt l pos]!) else (l, pos)

noncomputable def siftup (l : List α) : List α :=
  let r := sink lt l.length l.length 0 l
  bubble lt l[0]! r.2 (r.1.set r.2 l[0]!)

noncomputable def hpush (l : List α) (x : α) : List α := bubble lt x l.length (l ++ [x])
noncomputable def hpop (l : List α) : List α :=
  let r := l.dropLast
  if r.isEmpty then [] else siftup lt (r.set 0 l.getLast!)
noncomputable def hreplace (l : List α) (x : α) : List α := siftup lt (l.set 0 x)

structure Ord : Prop where
  irr : ∀ a, lt a a = false
  tr : ∀ a b c, lt a b = true → lt b c = true → lt a c = true
  neg : ∀ a b c, lt b a = false → lt c b = false → lt c a = false

noncomputable def IsHeap (l : List α) : Prop := ∀ i, 0 < i → i < l.length → lt l[i]! l[(i - 1) / 2]! = false

/-- all is a heap but the hole at pos, where x is to stand -/
noncomputable def Hole (x : α) (pos : Nat) (l : List α) : Prop :=
  (∀ i, 0 < i → i < l.length → i ≠ pos → (i - 1) / 2 ≠ pos → lt l[i]! l[(i - 1) / 2]! = false) ∧
  (∀ i, 0 < i → i < l.length → (i - 1) / 2 = pos → lt l[i]! x = false) ∧
  (∀ i, 0 < i → i < l.length → (i - 1) / 2 = pos → 0 < pos → lt l[i]! l[(pos - 1) / 2]! = false)

theorem get_set (l : List α) (i j : Nat) (x : α) (hi : i < l.length) : (l.set i x)[j]! = if i = j then x else l[j]! := by
  by_cases h : i = j
  · subst h
    simp [hi]
  · simp [h]

theorem bubble_heap (O : Ord lt) (x : α) : ∀ (pos : Nat) (l : List α), pos < l.length → Hole lt x pos l → IsHeap lt (bubble lt x pos l) := by
  intro pos
  induction pos using Nat.strongRecOn with
  | ind pos ih =>
    intro l hp H
    obtain ⟨h1, h2, h3⟩ := H
    cases pos with
    | zero =>
      rw [bubble_zero]
      intro i hi0 hi
      rw [List.length_set] at hi
      rw [get_set _ _ _ _ hp, get_set _ _ _ _ hp]
      by_cases hpar : (i - 1) / 2 = 0
      · rw [if_neg (by omega), if_pos hpar.symm]
        exact h2 i hi0 hi hpar
      · rw [if_neg (by omega), if_neg (by omega)]
        exact h1 i hi0 hi (by omega) hpar
    | succ q =>
      rw [bubble_succ]
      split
      · rename_i hlt
        refine ih (q / 2) (by omega) _ (by rw [List.length_set]; omega) ⟨?_, ?_, ?_⟩
        · intro i hi0 hi hne hpar
          rw [List.length_set] at hi
          rw [get_set _ _ _ _ hp, get_set _ _ _ _ hp]
          by_cases e1 : q + 1 = i
          · subst e1
            exact absurd (by omega) hpar
          · rw [if_neg e1]
            by_cases e2 : q + 1 = (i - 1) / 2
            · rw [if_pos e2]
              have := h3 i hi0 hi e2.symm (by omega)
              rw [show (q + 1 - 1) / 2 = q / 2 by omega] at this
              exact this
            · rw [if_neg e2]
              exact h1 i hi0 hi (fun h => e1 h.symm) (fun h => e2 h.symm)
        · intro i hi0 hi hpar
          rw [List.length_set] at hi
          rw [get_set _ _ _ _ hp]
          have irr := O.irr
          have asym : lt l[q / 2]! x = false := by
            cases hc : lt l[q / 2]! x with
            | false => rfl
            | true => have := O.tr _ _ _ hlt hc; rw [irr] at this; cases this
          by_cases e1 : q + 1 = i
          · rw [if_pos e1]; exact asym
          · rw [if_neg e1]
            have e := h1 i hi0 hi (fun h => e1 h.symm) (by omega)
            rw [hpar] at e
            exact O.neg _ _ _ asym e
        · intro i hi0 hi hpar hpos
          rw [List.length_set] at hi
          rw [get_set _ _ _ _ hp, get_set _ _ _ _ hp]
          have e0 : lt l[q / 2]! l[(q / 2 - 1) / 2]! = false := h1 (q / 2) hpos (by omega) (by omega) (by omega)
          rw [if_neg (show q + 1 ≠ (q / 2 - 1) / 2 by omega)]
          by_cases e1 : q + 1 = i
          · rw [if_pos e1]; exact e0
          · rw [if_neg e1]
            have e := h1 i hi0 hi (fun h => e1 h.symm) (by omega)
            rw [hpar] at e
            exact O.neg _ _ _ e0 e
      · rename_i hlt
        have hlt' : lt x l[q / 2]! = false := by simpa using hlt
        intro i hi0 hi
        rw [List.length_set] at hi
        rw [get_set _ _ _ _ hp, get_set _ _ _ _ hp]
        by_cases e1 : q + 1 = i
        · subst e1
          rw [if_pos rfl, if_neg (by omega), show (q + 1 - 1) / 2 = q / 2 by omega]
          exact hlt'
        · rw [if_neg e1]
          by_cases e2 : q + 1 = (i - 1) / 2
          · rw [if_pos e2]; exact h2 i hi0 hi e2.symm
          · rw [if_neg e2]; exact h1 i hi0 hi (fun h => e1 h.symm) (fun h => e2 h.symm)

theorem bubble_length (x : α) : ∀ (pos : Nat) (l : List α), (bubble lt x pos l).length = l.length := by
  intro pos
  induction pos using Nat.strongRecOn with
  | ind pos ih =>
    intro l
    cases pos with
    | zero => rw [bubble_zero, List.length_set]
    | succ q => rw [bubble_succ]; split
                · rw [ih _ (by omega), List.length_set]
                · rw [List.length_set]

theorem set_get_self (l : List α) (i : Nat) (hi : i < l.length) : l.set i l[i]! = l := by
  apply List.ext_getElem
  · simp
  · intro j h1 h2
    rw [List.getElem_set]
    split
    · rename_i e; subst e; simp [hi]
    · rfl
theorem swap_perm (l : List α) (i j : Nat) (x : α) (hi : i < l.length) (hj : j < l.length) (hij : i ≠ j) : ((l.set i l[j]!).set j x).Perm (l.set i x) := by
  induction l generalizing i j with
  | nil => cases hi
  | cons a l ih =>
    cases i with
    | zero =>
      cases j with
      | zero => exact absurd rfl hij
      | succ j =>
        have hj' : j < l.length := by simpa using hj
        show ((a :: l)[j + 1]! :: l.set j x).Perm (x :: l)
        have e : (a :: l)[j + 1]! = l[j]! := by simp
        rw [e]
        clear ih hij hi hj e
        induction l generalizing j with
        | nil => cases hj'
        | cons b l ih =>
          cases j with
          | zero => exact List.Perm.swap _ _ _
          | succ j =>
            have e : (b :: l)[j + 1]! = l[j]! := by simp
            rw [e]
            show (l[j]! :: b :: l.set j x).Perm (x :: b :: l)
            exact (List.Perm.swap _ _ _).trans (((ih j (by simpa using hj')).cons b).trans (List.Perm.swap _ _ _))
    | succ i =>
      have hi' : i < l.length := by simpa using hi
      cases j with
      | zero =>
        show (x :: l.set i a).Perm (a :: l.set i x)
        clear ih hij hi hj
        induction l generalizing i with
        | nil => cases hi'
        | cons b l ih =>
          cases i with
          | zero => exact List.Perm.swap _ _ _
          | succ i =>
            show (x :: b :: l.set i a).Perm (a :: b :: l.set i x)
            exact (List.Perm.swap _ _ _).trans (((ih i (by simpa using hi')).cons b).trans (List.Perm.swap _ _ _))
      | succ j =>
        have e : (a :: l)[j + 1]! = l[j]! := by simp
        rw [e]
        show (a :: (l.set i l[j]!).set j x).Perm (a :: l.set i x)
        exact (ih i j hi' (by simpa using hj) (by omega)).cons a

theorem bubble_perm (x : α) : ∀ (pos : Nat) (l : List α), pos < l.length → (bubble lt x pos l).Perm (l.set pos x) := by
  intro pos
  induction pos using Nat.strongRecOn with
  | ind pos ih =>
    intro l hp
    cases pos with
    | zero => rw [bubble_zero]
    | succ q =>
      rw [bubble_succ]
      split
      · exact (ih (q / 2) (by omega) _ (by rw [List.length_set]; omega)).trans (swap_perm l (q + 1) (q / 2) x hp (by omega) (by omega))
      · exact .refl _

/-- a heap but for the hole at pos: nothing is said of what stands there -/
noncomputable def Open (pos : Nat) (l : List α) : Prop :=
  (∀ i, 0 < i → i < l.length → i ≠ pos → (i - 1) / 2 ≠ pos → lt l[i]! l[(i - 1) / 2]! = false) ∧
  (∀ i, 0 < i → i < l.length → (i - 1) / 2 = pos → 0 < pos → lt l[i]! l[(pos - 1) / 2]! = false)

theorem childOf_lt (l : List α) (pos : Nat) (h : 2 * pos + 1 < l.length) : childOf lt l pos < l.length ∧ (childOf lt l pos = 2 * pos + 1 ∨ childOf lt l pos = 2 * pos + 2) := by
  unfold childOf
  split <;> omega
theorem childOf_min (O : Ord lt) (l : List α) (pos i : Nat) (hi0 : 0 < i) (hi : i < l.length) (hpar : (i - 1) / 2 = pos) : lt l[i]! l[childOf lt l pos]! = false := by
  have irr := O.irr
  unfold childOf
  have hi2 : i = 2 * pos + 1 ∨ i = 2 * pos + 2 := by omega
  split
  · rename_i hc
    obtain ⟨hc1, hc2⟩ := hc
    rcases hi2 with rfl | rfl
    · exact hc2
    · exact irr _
  · rename_i hc
    rcases hi2 with rfl | rfl
    · exact irr _
    · have : lt l[2 * pos + 1]! l[2 * pos + 2]! = true := by
        cases hv : lt l[2 * pos + 1]! l[2 * pos + 2]! with
        | true => rfl
        | false => exact absurd ⟨hi, hv⟩ hc
      cases hv : lt l[2 * pos + 2]! l[2 * pos + 1]! with
      | false => rfl
      | true => have z := O.tr _ _ _ this hv; rw [irr] at z; cases z

theorem sink_step (O : Ord lt) (l : List α) (pos : Nat) (h : 2 * pos + 1 < l.length) (H : Open lt pos l) : Open lt (childOf lt l pos) (l.set pos l[childOf lt l pos]!) := by
  obtain ⟨h1, h2⟩ := H
  have hp : pos < l.length := by omega
  have hm := childOf_min lt O l pos
  obtain ⟨hc, hcc⟩ := childOf_lt lt l pos h
  generalize childOf lt l pos = c at *
  refine ⟨?_, ?_⟩
  · intro i hi0 hi hne hpar
    rw [List.length_set] at hi
    rw [get_set _ _ _ _ hp, get_set _ _ _ _ hp]
    by_cases e1 : pos = i
    · subst e1
      rw [if_pos rfl, if_neg (by omega)]
      exact h2 c (by omega) hc (by omega) hi0
    · rw [if_neg e1]
      by_cases e2 : pos = (i - 1) / 2
      · rw [if_pos e2]
        exact hm i hi0 hi e2.symm
      · rw [if_neg e2]
        exact h1 i hi0 hi (fun h => e1 h.symm) (fun h => e2 h.symm)
  · intro i hi0 hi hpar _
    rw [List.length_set] at hi
    rw [get_set _ _ _ _ hp, get_set _ _ _ _ hp]
    rw [if_neg (show pos ≠ i by omega), if_pos (show pos = (c - 1) / 2 by omega)]
    have := h1 i hi0 hi (by omega) (by omega)
    rw [hpar] at this
    exact this

theorem sink_ok (O : Ord lt) (n : Nat) (x : α) : ∀ (f pos : Nat) (l : List α), l.length = n → pos < n → n ≤ f + pos → Open lt pos l →
    (sink lt n f pos l).1.length = n ∧ (sink lt n f pos l).2 < n ∧ ¬ 2 * (sink lt n f pos l).2 + 1 < n ∧ Open lt (sink lt n f pos l).2 (sink lt n f pos l).1 ∧ ((sink lt n f pos l).1.set (sink lt n f pos l).2 x).Perm (l.set pos x) := by
  intro f
  induction f with
  | zero => intro pos l hl hp hf H; omega
  | succ f ih =>
    intro pos l hl hp hf H
    unfold sink
    split
    · rename_i hc
      obtain ⟨c1, c2⟩ := childOf_lt lt l pos (by omega)
      obtain ⟨a1, a2, a3, a4, a5⟩ := ih (childOf lt l pos) (l.set pos l[childOf lt l pos]!) (by rw [List.length_set]; exact hl) (by omega) (by omega) (sink_step lt O l pos (by omega) H)
      exact ⟨a1, a2, a3, a4, a5.trans (swap_perm l pos (childOf lt l pos) x (by omega) (by omega) (by omega))⟩
    · rename_i hc
      exact ⟨hl, hp, hc, H, .refl _⟩

theorem siftup_ok (O : Ord lt) (l : List α) (hl : 0 < l.length) (H : Open lt 0 l) : IsHeap lt (siftup lt l) ∧ (siftup lt l).Perm l := by
  obtain ⟨a1, a2, a3, a4, a5⟩ := sink_ok lt O l.length l[0]! l.length 0 l rfl hl (by omega) H
  unfold siftup
  generalize sink lt l.length l.length 0 l = r at *
  have hp : r.2 < (r.1.set r.2 l[0]!).length := by rw [List.length_set]; omega
  have hr : r.2 < r.1.length := by omega
  refine ⟨bubble_heap lt O _ _ _ hp ⟨?_, ?_, ?_⟩, ?_⟩
  · intro i hi0 hi hne hpar
    rw [List.length_set] at hi
    rw [get_set _ _ _ _ hr, get_set _ _ _ _ hr, if_neg (fun h => hne h.symm), if_neg (fun h => hpar h.symm)]
    exact a4.1 i hi0 hi hne hpar
  · intro i hi0 hi hpar; rw [List.length_set] at hi; omega
  · intro i hi0 hi hpar; rw [List.length_set] at hi; omega
  · refine (bubble_perm lt _ _ _ hp).trans ?_
    have e : (r.1.set r.2 l[0]!).set r.2 l[0]! = r.1.set r.2 l[0]! := by simp
    rw [e]
    refine a5.trans ?_
    rw [set_get_self l 0 hl]

theorem hpush_ok (O : Ord lt) (l : List α) (x : α) (H : IsHeap lt l) : IsHeap lt (hpush lt l x) ∧ (hpush lt l x).Perm (x :: l) := by
  have hp : l.length < (l ++ [x]).length := by simp
  refine ⟨bubble_heap lt O _ _ _ hp ⟨?_, ?_, ?_⟩, ?_⟩
  · intro i hi0 hi hne hpar
    simp only [List.length_append, List.length_cons, List.length_nil] at hi
    have h1 : i < l.length := by omega
    have h2 : (i - 1) / 2 < l.length := by omega
    have := H i hi0 h1
    simpa [List.getElem!_eq_getElem?_getD, List.getElem?_append_left, h1, h2] using this
  · intro i hi0 hi hpar
    simp only [List.length_append, List.length_cons, List.length_nil] at hi
    omega
  · intro i hi0 hi hpar
    simp only [List.length_append, List.length_cons, List.length_nil] at hi
    omega
  · refine (bubble_perm lt _ _ _ hp).trans ?_
    have : (l ++ [x]).set l.length x = l ++ [x] := by
      rw [List.set_append_right _ _ (Nat.le_refl _)]
      simp
    rw [this]
    exact List.perm_append_comm

theorem heap_min (O : Ord lt) (l : List α) (H : IsHeap lt l) : ∀ i, i < l.length → lt l[i]! l[0]! = false := by
  intro i
  induction i using Nat.strongRecOn with
  | ind i ih =>
    intro hi
    by_cases h0 : i = 0
    · subst h0; exact O.irr _
    · have h1 := H i (by omega) hi
      have h2 := ih ((i - 1) / 2) (by omega) (by omega)
      exact O.neg _ _ _ h2 h1
theorem heap_min_mem (O : Ord lt) (l : List α) (H : IsHeap lt l) (a : α) (ha : a ∈ l) : lt a l[0]! = false := by
  obtain ⟨i, hi, rfl⟩ := List.getElem_of_mem ha
  have := heap_min lt O l H i hi
  simpa [hi] using this
theorem open_of_heap (l : List α) (x : α) (hl : 0 < l.length) (H : IsHeap lt l) : Open lt 0 (l.set 0 x) := by
  refine ⟨fun i hi0 hi hne hpar => ?_, fun i hi0 hi hpar h => absurd h (by omega)⟩
  rw [List.length_set] at hi
  rw [get_set _ _ _ _ hl, get_set _ _ _ _ hl, if_neg (by omega), if_neg (by omega)]
  exact H i hi0 hi
theorem hreplace_ok (O : Ord lt) (l : List α) (x : α) (hl : 0 < l.length) (H : IsHeap lt l) : IsHeap lt (hreplace lt l x) ∧ (hreplace lt l x).Perm (l.set 0 x) :=
  siftup_ok lt O _ (by rw [List.length_set]; exact hl) (open_of_heap lt l x hl H)
theorem heap_dropLast (l : List α) (H : IsHeap lt l) : IsHeap lt l.dropLast := by
  intro i hi0 hi
  rw [List.length_dropLast] at hi
  have h := H i hi0 (by omega)
  have e : ∀ j, j < l.length - 1 → l.dropLast[j]! = l[j]! := by
    intro j hj
    rw [List.getElem!_eq_getElem?_getD, List.getElem!_eq_getElem?_getD, List.getElem?_dropLast, if_pos hj]
  rw [e i hi, e _ (by omega)]
  exact h
theorem hpop_ok (O : Ord lt) (l : List α) (hl : 0 < l.length) (H : IsHeap lt l) : IsHeap lt (hpop lt l) ∧ (l[0]! :: hpop lt l).Perm l := by
  unfold hpop
  have hne : l ≠ [] := by intro h; subst h; cases hl
  by_cases h1 : l.dropLast.isEmpty = true
  · simp only [h1, if_true]
    refine ⟨fun i _ hi => absurd hi (Nat.not_lt_zero _), ?_⟩
    have : l.length = 1 := by
      have := List.isEmpty_iff.mp h1
      have e := congrArg List.length this
      rw [List.length_dropLast] at e
      simp at e; omega
    obtain ⟨a, rfl⟩ := List.length_eq_one_iff.mp this
    exact .refl _
  · have hd : 0 < l.dropLast.length := by
      cases hq : l.dropLast with
      | nil => rw [hq] at h1; exact absurd rfl h1
      | cons a b => simp
    simp only [h1, Bool.false_eq_true, if_false]
    obtain ⟨a, b⟩ := siftup_ok lt O (l.dropLast.set 0 l.getLast!) (by rw [List.length_set]; exact hd) (open_of_heap lt _ _ hd (heap_dropLast lt l H))
    refine ⟨a, (b.cons _).trans ?_⟩
    have hlast : l.getLast! = l.getLast hne := by
      cases l with
      | nil => exact absurd rfl hne
      | cons a l => rfl
    have e : l = l.dropLast ++ [l.getLast!] := by rw [hlast]; exact (List.dropLast_concat_getLast hne).symm
    generalize l.getLast! = z at *
    generalize l.dropLast = r at *
    subst e
    cases r with
    | nil => cases hd
    | cons y r =>
      show (y :: z :: r).Perm (y :: (r ++ [z]))
      exact ((List.perm_append_comm (l₁ := r) (l₂ := [z])).symm).cons y
end
end
section
noncomputable def ordZ (a b : List Nat) : Int := if a.length ≠ b.length then (b.length : Int) - a.length else (if b < a then 1 else 0) - (if a < b then 1 else 0)
noncomputable def tlt (a b : List Nat) : Bool := decide (ordZ a b < 0)
theorem tri (a b : List Nat) : a < b ∨ a = b ∨ b < a := by
  by_cases h : a < b
  · exact .inl h
  · by_cases h2 : b < a
    · exact .inr (.inr h2)
    · exact .inr (.inl (List.le_antisymm h2 h))
theorem tlt_iff (a b : List Nat) : tlt a b = true ↔ b.length < a.length ∨ (a.length = b.length ∧ a < b) := by
  unfold tlt ordZ
  rw [decide_eq_true_iff]
  by_cases h : a.length ≠ b.length
  · rw [if_pos h]; omega
  · rw [if_neg h]
    have e : a.length = b.length := by omega
    by_cases h1 : b < a <;> by_cases h2 : a < b
    · exact absurd h2 (List.lt_asymm h1)
    · rw [if_pos h1, if_neg h2]; exact ⟨fun x => by omega, fun x => by rcases x with x | ⟨_, x⟩; omega; exact absurd x h2⟩
    · rw [if_neg h1, if_pos h2]; exact ⟨fun x => .inr ⟨e, h2⟩, fun x => by omega⟩
    · rw [if_neg h1, if_neg h2]; exact ⟨fun x => by omega, fun x => by rcases x with x | ⟨_, x⟩; omega; exact absurd x h2⟩
theorem ordZ_zero (a b : List Nat) : ordZ a b = 0 ↔ a = b := by
  unfold ordZ
  by_cases h : a.length ≠ b.length
  · rw [if_pos h]
    refine ⟨fun e => by omega, fun e => by subst e; exact absurd rfl h⟩
  · rw [if_neg h]
    rcases tri a b with h1 | rfl | h1
    · have h2 : ¬ b < a := List.lt_asymm h1
      simp only [h1, h2, if_true, if_false]
      exact ⟨fun e => by omega, fun e => by subst e; exact absurd h1 (List.lt_irrefl _)⟩
    · have h2 : ¬ a < a := List.lt_irrefl a
      rw [if_neg h2]; exact ⟨fun _ => rfl, fun _ => rfl⟩
    · have h2 : ¬ a < b := List.lt_asymm h1
      simp only [h1, h2, if_true, if_false]
      exact ⟨fun e => by omega, fun e => by subst e; exact absurd h1 (List.lt_irrefl _)⟩
theorem tlt_not (a b : List Nat) : tlt a b = false ↔ a = b ∨ tlt b a = true := by
  rw [← Bool.not_eq_true, tlt_iff, tlt_iff]
  constructor
  · intro h
    by_cases e : a.length = b.length
    · rcases tri a b with h1 | h1 | h1
      · exact absurd (.inr ⟨e, h1⟩) h
      · exact .inl h1
      · exact .inr (.inr ⟨e.symm, h1⟩)
    · exact .inr (.inl (by omega))
  · rintro (rfl | h1) h2
    · rcases h2 with h2 | ⟨_, h2⟩
      · omega
      · exact List.lt_irrefl _ h2
    · rcases h1 with h1 | ⟨e1, h1⟩ <;> rcases h2 with h2 | ⟨e2, h2⟩
      · omega
      · omega
      · omega
      · exact List.lt_asymm h1 h2
theorem tlt_tr (a b c : List Nat) (h1 : tlt a b = true) (h2 : tlt b c = true) : tlt a c = true := by
  rw [tlt_iff] at *
  rcases h1 with h1 | ⟨e1, h1⟩ <;> rcases h2 with h2 | ⟨e2, h2⟩
  · exact .inl (by omega)
  · exact .inl (by omega)
  · exact .inl (by omega)
  · exact .inr ⟨by omega, List.lt_trans h1 h2⟩
theorem tlt_irr (a : List Nat) : tlt a a = false := (tlt_not a a).mpr (.inl rfl)
theorem tlt_anti {a b : List Nat} (h1 : tlt a b = false) (h2 : tlt b a = false) : a = b := by
  rcases (tlt_not a b).mp h1 with e | e
  · exact e
  · rw [e] at h2; cases h2
theorem tlt_neg (a b c : List Nat) (h1 : tlt b a = false) (h2 : tlt c b = false) : tlt c a = false := by
  rcases (tlt_not b a).mp h1 with rfl | h1
  · exact h2
  rcases (tlt_not c b).mp h2 with rfl | h2
  · exact (tlt_not _ _).mpr (.inr h1)
  · exact (tlt_not _ _).mpr (.inr (tlt_tr _ _ _ h1 h2))
section
variable {α : Type} [Inhabited α] (xs : α → List Nat)
noncomputable abbrev ltBy (i j : α) : Bool := tlt (xs i) (xs j)
theorem ord_by : Ord (ltBy xs) := ⟨fun _ => tlt_irr _, fun _ _ _ => tlt_tr _ _ _, fun _ _ _ => tlt_neg _ _ _⟩
end
/-- the least of a list -/
noncomputable def mini (r : List (List Nat)) : List Nat := match r with
  | [] => []
  | a :: t => t.foldl (fun m x => if tlt x m then x else m) a
theorem foldm (t : List (List Nat)) : ∀ a, (t.foldl (fun m x => if tlt x m then x else m) a ∈ a :: t) ∧ ∀ x ∈ a :: t, tlt x (t.foldl (fun m x => if tlt x m then x else m) a) = false := by
  induction t with
  | nil => intro a; exact ⟨.head _, fun x hx => by rcases List.mem_cons.mp hx with rfl | hx; exact tlt_irr _; exact absurd hx List.not_mem_nil⟩
  | cons b t ih =>
    intro a
    rw [List.foldl_cons]
    obtain ⟨h1, h2⟩ := ih (if tlt b a then b else a)
    generalize t.foldl (fun m x => if tlt x m then x else m) (if tlt b a then b else a) = m at *
    have hm : tlt (if tlt b a then b else a) m = false := h2 _ (.head _)
    refine ⟨?_, fun x hx => ?_⟩
    · rcases List.mem_cons.mp h1 with h1 | h1
      · rw [h1]; split
        · exact .tail _ (.head _)
        · exact .head _
      · exact .tail _ (.tail _ h1)
    · rcases List.mem_cons.mp hx with rfl | hx
      · by_cases hb : tlt b x = true
        · rw [if_pos hb] at hm
          exact tlt_neg _ _ _ hm ((tlt_not x b).mpr (.inr hb))
        · rw [if_neg hb] at hm; exact hm
      · rcases List.mem_cons.mp hx with rfl | hx
        · by_cases hb : tlt x a = true
          · rw [if_pos hb] at hm; exact hm
          · rw [if_neg hb] at hm
            exact tlt_neg _ _ _ hm (by simpa using hb)
        · exact h2 x (.tail _ hx)
theorem mini_mem {r : List (List Nat)} (h : r ≠ []) : mini r ∈ r := by
  cases r with
  | nil => exact absurd rfl h
  | cons a t => exact (foldm t a).1
theorem mini_le {r : List (List Nat)} {x : List Nat} (h : x ∈ r) : tlt x (mini r) = false := by
  cases r with
  | nil => cases h
  | cons a t => exact (foldm t a).2 x h
theorem mini_is {r : List (List Nat)} {m : List Nat} (h1 : m ∈ r) (h2 : ∀ x ∈ r, tlt x m = false) : m = mini r := by
  have h : r ≠ [] := fun e => by subst e; cases h1
  exact tlt_anti (mini_le h1) (h2 _ (mini_mem h))
section
variable {α : Type} [Inhabited α] (xs : α → List Nat)
/-- the heap holds the texts of the plain row -/
noncomputable def Holds (h : List α) (r : List (List Nat)) : Prop := IsHeap (ltBy xs) h ∧ (h.map xs).Perm r
variable {xs}
theorem Holds.len {h : List α} {r : List (List Nat)} (H : Holds xs h r) : h.length = r.length := by
  have := H.2.length_eq; rwa [List.length_map] at this
theorem Holds.nil : Holds xs [] [] := ⟨fun i _ hi => absurd hi (Nat.not_lt_zero _), .refl _⟩
theorem Holds.push {h : List α} {r : List (List Nat)} (H : Holds xs h r) (i : α) : Holds xs (hpush (ltBy xs) h i) (r ++ [xs i]) := by
  obtain ⟨a, b⟩ := hpush_ok _ (ord_by xs) h i H.1
  exact ⟨a, (b.map xs).trans (((H.2.cons (xs i))).trans (List.perm_append_comm (l₁ := [xs i]) (l₂ := r)))⟩
theorem at0 {h : List α} (h0 : 0 < h.length) : h[0]! ∈ h ∧ h = h[0]! :: h.tail := by
  cases h with
  | nil => cases h0
  | cons a t => exact ⟨.head _, rfl⟩
theorem Holds.top {h : List α} {r : List (List Nat)} (H : Holds xs h r) (h0 : 0 < h.length) : xs h[0]! = mini r :=
  mini_is (H.2.subset (List.mem_map_of_mem (at0 h0).1)) fun x hx => by
    obtain ⟨a, ha, rfl⟩ := List.mem_map.mp (H.2.symm.subset hx)
    exact heap_min_mem _ (ord_by xs) h H.1 a ha
theorem Holds.pop {h : List α} {r : List (List Nat)} (H : Holds xs h r) (h0 : 0 < h.length) : Holds xs (hpop (ltBy xs) h) (r.erase (mini r)) := by
  obtain ⟨a, b⟩ := hpop_ok _ (ord_by xs) h h0 H.1
  refine ⟨a, ?_⟩
  have c := ((b.map xs).trans H.2).erase (xs h[0]!)
  rw [List.map_cons, List.erase_cons_head, H.top h0] at c
  exact c
theorem Holds.replace {h : List α} {r : List (List Nat)} (H : Holds xs h r) (h0 : 0 < h.length) (i : α) : Holds xs (hreplace (ltBy xs) h i) (r.erase (mini r) ++ [xs i]) := by
  obtain ⟨a, b⟩ := hreplace_ok _ (ord_by xs) h i h0 H.1
  refine ⟨a, (b.map xs).trans ?_⟩
  have ht := H.top h0
  obtain ⟨_, e⟩ := at0 h0
  have c := H.2.erase (xs h[0]!)
  rw [ht] at c
  generalize h[0]! = z at *
  rw [e] at c ⊢
  rw [List.map_cons, ht, List.erase_cons_head] at c
  show (xs i :: h.tail.map xs).Perm _
  exact (c.cons (xs i)).trans (List.perm_append_comm (l₁ := [xs i]))
theorem erase_snoc {r : List (List Nat)} {t m : List Nat} (h : m ∈ r) : (r ++ [t]).erase m = r.erase m ++ [t] := List.erase_append_left _ h
theorem Holds.pp {h : List α} {r : List (List Nat)} (H : Holds xs h r) (h0 : 0 < h.length) (i : α) (hlt : ltBy xs h[0]! i = true) : xs h[0]! = mini (r ++ [xs i]) ∧ Holds xs (hreplace (ltBy xs) h i) ((r ++ [xs i]).erase (mini (r ++ [xs i]))) := by
  have ht := H.top h0
  have hr : r ≠ [] := fun e => by have := H.len; rw [e] at this; simp at this; subst this; cases h0
  have e : mini r = mini (r ++ [xs i]) := mini_is (List.mem_append_left _ (mini_mem hr)) fun x hx => by
    rcases List.mem_append.mp hx with hx | hx
    · exact mini_le hx
    · rw [List.mem_singleton.mp hx]
      rw [← ht]
      exact (tlt_not _ _).mpr (.inr hlt)
  refine ⟨ht.trans e, ?_⟩
  rw [← e, erase_snoc (mini_mem hr)]
  exact H.replace h0 i
theorem Holds.pp_not {h : List α} {r : List (List Nat)} (H : Holds xs h r) (i : α) (hlt : 0 < h.length → ltBy xs h[0]! i = false) : xs i = mini (r ++ [xs i]) ∧ Holds xs h ((r ++ [xs i]).erase (mini (r ++ [xs i]))) := by
  have e : xs i = mini (r ++ [xs i]) := mini_is (List.mem_append_right _ (.head _)) fun x hx => by
    rcases List.mem_append.mp hx with hx | hx
    · obtain ⟨a, ha, rfl⟩ := List.mem_map.mp (H.2.symm.subset hx)
      have h0 : 0 < h.length := List.length_pos_of_mem ha
      exact tlt_neg _ _ _ (hlt h0) (heap_min_mem _ (ord_by xs) h H.1 a ha)
    · rw [List.mem_singleton.mp hx]; exact tlt_irr _
  refine ⟨e, H.1, ?_⟩
  rw [← e]
  have p := ((List.perm_append_comm (l₁ := [xs i]) (l₂ := r)).erase (xs i))
  rw [List.cons_append, List.nil_append, List.erase_cons_head] at p
  exact H.2.trans p
end
/-- the plain row: what is left and what went out, behind one more command -/
noncomputable def dueStep (s : List (List Nat) × List (List Nat)) (c : List Nat) : List (List Nat) × List (List Nat) :=
  let sg := c.headD 0
  let t := c.tail
  let s1 := if (sg = 45 ∨ sg = 62) ∧ s.1 ≠ [] then (s.1.erase (mini s.1), s.2 ++ [mini s.1]) else s
  let r2 := if sg ≠ 45 then s1.1 ++ [t] else s1.1
  if sg = 60 then (r2.erase (mini r2), s1.2 ++ [mini r2]) else (r2, s1.2)
noncomputable def drain : Nat → List (List Nat) → List (List Nat)
  | 0, _ => []
  | n + 1, r => mini r :: drain n (r.erase (mini r))
end
section
theorem neW : Nonempty World := ⟨⟨fun _ _ => 0, { strHash := fun _ => 0, shareClass := id, mergeTok := id, idOf := fun _ => 0, idOfShared := fun _ _ => 0, followText := fun _ => true, idOfImm := fun _ => 0 }⟩⟩
theorem neA : Nonempty Around := ⟨{}⟩
theorem neS : Nonempty Shared := ⟨{}⟩
theorem neP {α β : Type} (a : Nonempty α) (b : Nonempty β) : Nonempty (α × β) := a.elim fun x => b.elim fun y => ⟨(x, y)⟩
noncomputable def Ep {α : Type} (hn : Nonempty α) (P : α → Prop) : α := @Classical.epsilon α hn fun x => ¬ P x
theorem ep_all {α : Type} (hn : Nonempty α) {P : α → Prop} (h : P (Ep hn P)) : ∀ x, P x := fun x =>
  Classical.byContradiction fun k => (@Classical.epsilon_spec α (fun x => ¬ P x) ⟨x, k⟩) h

end
section
/-- a heap item: the tuple's address and the text in it -/
structure It where
  a : Addr
  x : Str
deriving Inhabited
noncomputable abbrev It.v (i : It) : Value := .ref i.a
noncomputable abbrev vals (l : List It) : List Value := l.map It.v



/-- what a call of the def at f does, from any frame of a def, within the numbers dp and un -/
noncomputable def Sat (w : World) (dp un : Nat) (f : Addr) (vs : List Value) (news : List (Addr × Obj)) (Post : Value → List (Addr × Obj) → Prop) : Prop :=
  ∀ (pp : Program) (ll : List Str) (mean : ExcName → Option Value) (mg mb : Str → Option Value) (gd : Option (List Code)) (cn : Str) (cs : Scope) (a : Addr) (ccd : Value) (cl : List (Str × Addr)) (outer : List Env) (A₀ : Around) (base h₀ : Heap) (L : Addr) (m : Str → Option Value) (s : Shared)
    (Q E : Value → Shared → Prop),
    Below A₀ base outer h₀ → Fr h₀ L s.heap m → (hd.heap_1 w.params).In h₀ → News h₀ L s.heap news → Top pp ll mean mg mb h₀ → cs.kind = .function →
    (∀ v news' h' tk', Post v news' → Fr h₀ L h' m → News h₀ L h' news' → Q v { s with heap := h', toks := tk' }) →
    wpAny (model PySem.Challenge.pw_ij0186_01 w) (ktrTop dp un gd cn cs L a ccd cl outer) (call (.ref f) vs) Q E s

theorem weaken {prog : Program} {w : World} {α : Type} {A A' : Around} {t : Sem α} {Q : α → Shared → Prop} {E : Value → Shared → Prop} {s : Shared} (hh : A.handled = A'.handled) (hd : A.depth ≤ A'.depth) (hu : A.units ≤ A'.units)
    (hf : A'.frames = A.frames) (hg : A'.guards = A.guards) (h : wpAny (model prog w) A' t Q E s) : wpAny (model prog w) A t Q E s :=
  fun Γ p hΓ => h Γ p ⟨hΓ.1.trans hh, Nat.le_trans hΓ.2.1 hd, fun l hl => hΓ.2.2.1 l (hf ▸ hl), fun g hl => hΓ.2.2.2.1 g (hg ▸ hl), Nat.le_trans hΓ.2.2.2.2 hu⟩

theorem Sat.use {w : World} {dp un : Nat} {f : Addr} {vs : List Value} {news : List (Addr × Obj)} {Post : Value → List (Addr × Obj) → Prop} (S : Sat w dp un f vs news Post)
    {pp : Program} {ll : List Str} {mean : ExcName → Option Value} {mg mb : Str → Option Value} {gd : Option (List Code)} {cn : Str} {cs : Scope} {a : Addr} {ccd : Value} {cl : List (Str × Addr)} {outer : List Env} {A₀ A : Around} {base h₀ : Heap} {L : Addr} {m : Str → Option Value} {s : Shared}
    {Q E : Value → Shared → Prop} (hh : A.handled = none) (hdp : A.depth ≤ dp) (hu : A.units ≤ un) (hf : A.frames = some (envX cn cs L a ccd cl :: outer)) (hg : A.guards = gd)
    (B : Below A₀ base outer h₀) (F : Fr h₀ L s.heap m) (X : (hd.heap_1 w.params).In h₀) (N : News h₀ L s.heap news) (T : Top pp ll mean mg mb h₀) (K : cs.kind = .function)
    (ret : ∀ v news' h' tk', Post v news' → Fr h₀ L h' m → News h₀ L h' news' → Q v { s with heap := h', toks := tk' }) :
    wpAny (model PySem.Challenge.pw_ij0186_01 w) A (call (.ref f) vs) Q E s :=
  weaken (A' := ktrTop dp un gd cn cs L a ccd cl outer) hh hdp hu hf.symm hg.symm (S _ _ _ _ _ _ _ _ _ _ _ _ _ _ _ _ _ _ _ _ B F X N T K ret)
theorem Sat.use0 {w : World} {dp un : Nat} {f : Addr} {vs : List Value} {news : List (Addr × Obj)} {V : Value} {n' : List (Addr × Obj)} (S : Sat w dp un f vs news (fun v n => v = V ∧ n = n'))
    {pp : Program} {ll : List Str} {mean : ExcName → Option Value} {mg mb : Str → Option Value} {gd : Option (List Code)} {cn : Str} {cs : Scope} {a : Addr} {ccd : Value} {cl : List (Str × Addr)} {outer : List Env} {A₀ A : Around} {base h₀ : Heap} {L : Addr} {m : Str → Option Value} {s : Shared}
    {Q E : Value → Shared → Prop} (hh : A.handled = none) (hdp : A.depth ≤ dp) (hu : A.units ≤ un) (hf : A.frames = some (envX cn cs L a ccd cl :: outer)) (hg : A.guards = gd)
    (B : Below A₀ base outer h₀) (F : Fr h₀ L s.heap m) (X : (hd.heap_1 w.params).In h₀) (N : News h₀ L s.heap news) (T : Top pp ll mean mg mb h₀) (K : cs.kind = .function)
    (ret : ∀ h' tk', Fr h₀ L h' m → News h₀ L h' n' → Q V { s with heap := h', toks := tk' }) :
    wpAny (model PySem.Challenge.pw_ij0186_01 w) A (call (.ref f) vs) Q E s :=
  Sat.use S hh hdp hu hf hg B F X N T K fun _ _ h' tk' p F' N' => by obtain ⟨rfl, rfl⟩ := p; exact ret h' tk' F' N'
theorem Sat.useP {w : World} {dp un : Nat} {f : Addr} {vs : List Value} {news : List (Addr × Obj)} {V : Value} {P : List (Addr × Obj) → Prop} (S : Sat w dp un f vs news (fun v n => v = V ∧ P n))
    {pp : Program} {ll : List Str} {mean : ExcName → Option Value} {mg mb : Str → Option Value} {gd : Option (List Code)} {cn : Str} {cs : Scope} {a : Addr} {ccd : Value} {cl : List (Str × Addr)} {outer : List Env} {A₀ A : Around} {base h₀ : Heap} {L : Addr} {m : Str → Option Value} {s : Shared}
    {Q E : Value → Shared → Prop} (hh : A.handled = none) (hdp : A.depth ≤ dp) (hu : A.units ≤ un) (hf : A.frames = some (envX cn cs L a ccd cl :: outer)) (hg : A.guards = gd)
    (B : Below A₀ base outer h₀) (F : Fr h₀ L s.heap m) (X : (hd.heap_1 w.params).In h₀) (N : News h₀ L s.heap news) (T : Top pp ll mean mg mb h₀) (K : cs.kind = .function)
    (ret : ∀ n h' tk', P n → Fr h₀ L h' m → News h₀ L h' n → Q V { s with heap := h', toks := tk' }) :
    wpAny (model PySem.Challenge.pw_ij0186_01 w) A (call (.ref f) vs) Q E s :=
  Sat.use S hh hdp hu hf hg B F X N T K fun _ n h' tk' p F' N' => by obtain ⟨rfl, p⟩ := p; exact ret n h' tk' p F' N'
theorem Sat.use1 {w : World} {dp un : Nat} {f : Addr} {vs : List Value} {news : List (Addr × Obj)} {α : Type} {V : α → Value} {n' : α → List (Addr × Obj)} (S : Sat w dp un f vs news (fun v n => ∃ t, v = V t ∧ n = n' t))
    {pp : Program} {ll : List Str} {mean : ExcName → Option Value} {mg mb : Str → Option Value} {gd : Option (List Code)} {cn : Str} {cs : Scope} {a : Addr} {ccd : Value} {cl : List (Str × Addr)} {outer : List Env} {A₀ A : Around} {base h₀ : Heap} {L : Addr} {m : Str → Option Value} {s : Shared}
    {Q E : Value → Shared → Prop} (hh : A.handled = none) (hdp : A.depth ≤ dp) (hu : A.units ≤ un) (hf : A.frames = some (envX cn cs L a ccd cl :: outer)) (hg : A.guards = gd)
    (B : Below A₀ base outer h₀) (F : Fr h₀ L s.heap m) (X : (hd.heap_1 w.params).In h₀) (N : News h₀ L s.heap news) (T : Top pp ll mean mg mb h₀) (K : cs.kind = .function)
    (ret : ∀ t h' tk', Fr h₀ L h' m → News h₀ L h' (n' t) → Q (V t) { s with heap := h', toks := tk' }) :
    wpAny (model PySem.Challenge.pw_ij0186_01 w) A (call (.ref f) vs) Q E s :=
  Sat.use S hh hdp hu hf hg B F X N T K fun _ _ h' tk' p F' N' => by obtain ⟨t, rfl, rfl⟩ := p; exact ret t h' tk' F' N'
theorem Sat.use2 {w : World} {dp un : Nat} {f : Addr} {vs : List Value} {news : List (Addr × Obj)} {α β : Type} {V : α → β → Value} {n' : α → β → List (Addr × Obj)} (S : Sat w dp un f vs news (fun v n => ∃ t u, v = V t u ∧ n = n' t u))
    {pp : Program} {ll : List Str} {mean : ExcName → Option Value} {mg mb : Str → Option Value} {gd : Option (List Code)} {cn : Str} {cs : Scope} {a : Addr} {ccd : Value} {cl : List (Str × Addr)} {outer : List Env} {A₀ A : Around} {base h₀ : Heap} {L : Addr} {m : Str → Option Value} {s : Shared}
    {Q E : Value → Shared → Prop} (hh : A.handled = none) (hdp : A.depth ≤ dp) (hu : A.units ≤ un) (hf : A.frames = some (envX cn cs L a ccd cl :: outer)) (hg : A.guards = gd)
    (B : Below A₀ base outer h₀) (F : Fr h₀ L s.heap m) (X : (hd.heap_1 w.params).In h₀) (N : News h₀ L s.heap news) (T : Top pp ll mean mg mb h₀) (K : cs.kind = .function)
    (ret : ∀ t u h' tk', Fr h₀ L h' m → News h₀ L h' (n' t u) → Q (V t u) { s with heap := h', toks := tk' }) :
    wpAny (model PySem.Challenge.pw_ij0186_01 w) A (call (.ref f) vs) Q E s :=
  Sat.use S hh hdp hu hf hg B F X N T K fun _ _ h' tk' p F' N' => by obtain ⟨t, u, rfl, rfl⟩ := p; exact ret t u h' tk' F' N'
theorem Sat.useT {w : World} {dp un : Nat} {f : Addr} {vs : List Value} {news : List (Addr × Obj)} {α : Type} {V : α → Value} {n' : List (Addr × Obj)} (S : Sat w dp un f vs news (fun v n => (∃ t, v = V t) ∧ n = n'))
    {pp : Program} {ll : List Str} {mean : ExcName → Option Value} {mg mb : Str → Option Value} {gd : Option (List Code)} {cn : Str} {cs : Scope} {a : Addr} {ccd : Value} {cl : List (Str × Addr)} {outer : List Env} {A₀ A : Around} {base h₀ : Heap} {L : Addr} {m : Str → Option Value} {s : Shared}
    {Q E : Value → Shared → Prop} (hh : A.handled = none) (hdp : A.depth ≤ dp) (hu : A.units ≤ un) (hf : A.frames = some (envX cn cs L a ccd cl :: outer)) (hg : A.guards = gd)
    (B : Below A₀ base outer h₀) (F : Fr h₀ L s.heap m) (X : (hd.heap_1 w.params).In h₀) (N : News h₀ L s.heap news) (T : Top pp ll mean mg mb h₀) (K : cs.kind = .function)
    (ret : ∀ t h' tk', Fr h₀ L h' m → News h₀ L h' n' → Q (V t) { s with heap := h', toks := tk' }) :
    wpAny (model PySem.Challenge.pw_ij0186_01 w) A (call (.ref f) vs) Q E s :=
  Sat.use S hh hdp hu hf hg B F X N T K fun _ _ h' tk' p F' N' => by obtain ⟨⟨t, rfl⟩, rfl⟩ := p; exact ret t h' tk' F' N'
theorem ws_next {h₀ : Heap} {L : Addr} {s s₃ : Shared} {J : Nat → (Str → Option Value) → List (Addr × Obj) → Prop} {n n' : Nat} {h' : Heap} {tk : Tok} {m₂ : Str → Option Value} {news₂ : List (Addr × Obj)} (F : Fr h₀ L h' m₂) (N : News h₀ L h' news₂) (lt : n' < n) (j : J n' m₂ news₂) (e : s₃ = { s with heap := h', toks := tk } := by rfl) : ∃ h' tk m₂ news₂ n', s₃ = { s with heap := h', toks := tk } ∧ Fr h₀ L h' m₂ ∧ News h₀ L h' news₂ ∧ n' < n ∧ J n' m₂ news₂ := ⟨_, _, _, _, _, e, F, N, lt, j⟩
section
variable {prog : Program} {w : World} {A : Around} {E : Value → Shared → Prop} {s : Shared} {h₀ : Heap} {L D : Addr} {m : Str → Option Value} {news news' rest : List (Addr × Obj)} {vs : List Value} {n : Nat} {k : Int} {t u : Tok} {v : Value}
theorem set_any {Q : Unit → Shared → Prop} (F : Fr h₀ L s.heap m) (N : News h₀ L s.heap news) (U : Upd D (listOf vs.toArray n) (listOf (vs.set k.toNat v).toArray n) news news') (h0 : 0 ≤ k) (h1 : k < vs.length) (hfit : k < 2 ^ 63)
    (h : ∀ h', Fr h₀ L h' m → News h₀ L h' news' → Q () { s with heap := h' }) :
    wpAny (model prog w) A (setItem (.ref D) (.int k t) v) Q E s := by
  obtain ⟨pre, post, rfl, rfl, a, b⟩ := U.split
  have z := N (D, listOf vs.toArray n) (List.mem_append.mpr (.inr (.head _)))
  have hs : vs.toArray.size = vs.length := List.size_toArray
  have hj : k.toNat < vs.length := by omega
  refine ki_setAt z.1 h0 hfit (by omega) (h _ (F.change (Heap.SameBut.update ..) z.2.1 z.2.2) (ki_turn _ N a b ?_ ?_))
  · show vs.toArray.setIfInBounds k.toNat v = (vs.set k.toNat v).toArray
    apply Array.toList_inj.mp
    simp
  · simp
theorem sub_any {value slice : PySem.Expr} {Q : Value → Shared → Prop} (N : News h₀ L s.heap news) (hm : (D, listOf vs.toArray n) ∈ news) (h0 : 0 ≤ k) (hx : vs[k.toNat]? = some v) (hfit : k < 2 ^ 63) (h : Q v s)
    (hs : subscripted slice false (.ref D) (.int k u) = operate [.ref D, .int k u] (getItem (.ref D) (.int k u)) := by with_unfolding_all rfl) :
    wpAny (model prog w) A (subscriptTail value slice (.ref D) (.int k u)) Q E s :=
  have hl := PySem.IsL.isList (n := n) (N _ hm).1
  tail_any hl.typeIs slot_list_getitem.lookup (wpAny_getItem_list hl h0 hfit (by simpa using hx) h) hs
end
theorem vals_get {l : List It} {k : Int} (h0 : 0 ≤ k) (h1 : k < l.length) : (vals l)[k.toNat]? = some (.ref (l[k.toNat]!).a) := by
  have : k.toNat < l.length := by omega
  simp [this]
theorem vals_set {l : List It} {i : It} {j : Nat} : (vals l).set j (.ref i.a) = vals (l.set j i) := by
  simp [List.map_set]
theorem vals_len {l : List It} : (vals l).length = l.length := List.length_map ..

theorem set_it {prog : Program} {w : World} {A : Around} {E : Value → Shared → Prop} {s : Shared} {h₀ : Heap} {L D : Addr} {m : Str → Option Value} {news news' : List (Addr × Obj)} {l : List It} {i : It} {n k : Nat} {t : Tok}
    {Q : Unit → Shared → Prop} (F : Fr h₀ L s.heap m) (N : News h₀ L s.heap news) (U : Upd D (listOf (vals l).toArray n) (listOf (vals (l.set k i)).toArray n) news news') (h1 : k < l.length) (hfit : k < 1000)
    (h : ∀ h', Fr h₀ L h' m → News h₀ L h' news' → Q () { s with heap := h' }) :
    wpAny (model prog w) A (setItem (.ref D) (.int (k : Int) t) (.ref i.a)) Q E s :=
  set_any F N (by rw [← vals_set] at U; exact U) (by omega) (by rw [vals_len]; omega) (by omega) h
theorem len_it {prog : Program} {w : World} {A : Around} {E : Value → Shared → Prop} {s : Shared} {h₀ : Heap} {L D : Addr} {news : List (Addr × Obj)} {l : List It} {n : Nat}
    {Q : Value → Shared → Prop} (N : News h₀ L s.heap news) (hm : (D, listOf (vals l).toArray n) ∈ news) (hf : l.length < 1000) (h : Q (.int (l.length : Int) (s.toks + 1)) { s with toks := s.toks + 1 + 1 }) :
    wpAny (model prog w) A (call (.builtin "len") [.ref D]) Q E s := by
  have hl := PySem.IsL.isList (n := n) (N _ hm).1
  have e : (vals l).toArray.size = l.length := by rw [List.size_toArray, vals_len]
  refine len_list hl (by rw [e]; omega) ?_
  rw [e]; exact h
theorem ok_at {ok : It → Prop} {l : List It} {j : Nat} (h : ∀ i ∈ l, ok i) (hj : j < l.length) : ok l[j]! := by
  rw [getElem!_pos l j hj]
  exact h _ (List.getElem_mem hj)
theorem par_eq {k : Nat} (h : 0 < k) : ((k : Int) - 1).fdiv (2 ^ Int.toNat 1) = (((k - 1) / 2 : Nat) : Int) := by
  have e : (2 : Int) ^ Int.toNat 1 = 2 := rfl
  rw [e, Int.fdiv_eq_ediv_of_nonneg _ (by decide)]
  omega
theorem shr_half {prog : Program} {w : World} {A : Around} {E : Value → Shared → Prop} {s : Shared} {k : Nat} {t u : Tok} {Q : Value → Shared → Prop} (h : 0 < k) (hQ : Q (.int (((k - 1) / 2 : Nat) : Int) s.toks) { s with toks := s.toks + 1 }) :
    wpAny (model prog w) A (binaryOp .RShift (.int ((k : Int) - 1) t) (.int 1 u)) Q E s := by
  refine rshift_int (by decide) ?_
  rw [par_eq h]
  exact hQ
/-- the comparison of two items -/
noncomputable def CmpOk (w : World) (R : List (Addr × Obj)) (lt : It → It → Bool) (ok : It → Prop) : Prop :=
  ∀ (i j : It), ok i → ok j → ∀ (pp : Program) (ll : List Str) (mean : ExcName → Option Value) (mg mb : Str → Option Value) (cn : Str) (cs : Scope) (a : Addr) (ccd : Value) (cl : List (Str × Addr)) (outer : List Env) (A₀ : Around) (base : Heap)
    (A : Around) (h₀ : Heap) (L : Addr) (m : Str → Option Value) (s : Shared) (Q E : Value → Shared → Prop) (news : List (Addr × Obj)),
    A.handled = none → A.depth ≤ 760 → A.units ≤ 7000 → A.frames = some (envX cn cs L a ccd cl :: outer) → Below A₀ base outer h₀ → Fr h₀ L s.heap m → News h₀ L s.heap news → (∀ p ∈ R, p ∈ news) → (hd.heap_1 w.params).In h₀ → Top pp ll mean mg mb h₀ → cs.kind = .function →
    (∀ h' tk', Fr h₀ L h' m → News h₀ L h' news → Q (.bool (lt i j)) { s with heap := h', toks := tk' }) →
    wpAny (model PySem.Challenge.pw_ij0186_01 w) A (compareOp .Lt (.ref i.a) (.ref j.a)) Q E s
theorem execs_one {M : Model} {A : Around} {env : Env} {st : Stmt} {Q : Flow → Shared → Prop} {E : Value → Shared → Prop} {s : Shared} (h : wpAny M A (exec st env) Q E s) : wpAny M A (execs [st] env) Q E s :=
  wpAny_execs_cons (wpAny_mono h (fun f s' q => by cases f <;> first | exact wpAny_execs_nil q | exact q) fun _ _ x => x)

end
section
theorem look_step (a y : Str) (v : Value) (r : List (Str × Value)) : ((a, v) :: r).lookup y = if y = a then some v else r.lookup y := by
  rw [List.lookup_cons]
  by_cases h : y = a
  · rw [if_pos h, beq_iff_eq.mpr h]
  · rw [if_neg h, beq_eq_false_iff_ne.mpr h]
theorem look_one {a y : Str} {v : Value} : ([(a, v)] : List (Str × Value)).lookup y = if y = a then some v else none := look_step _ _ _ _
section
variable {prog : Program} {w : World} {A A₀ : Around} {s : Shared} {K : Frag} {L : Addr} {h₀ base : Heap} {m mg mb : Str → Option Value} {news : List (Addr × Obj)} {p : Program} {loose : List Str} {mean : ExcName → Option Value}
theorem code_def1 {env : Env} {outer : List Env} {R : Result → Shared → Prop} {name qual : Str} {params : Arguments} {body : List Stmt} {scope : Scope} {dV kV doc pm cdv ct oc : Value} {an od : Option Addr} {osl : Array (Option Value)} {f : Addr} {args : Args} {a1 : Str} {v1 : Value}
    (B : Below A₀ base outer h₀) (F : Fr h₀ L s.heap m) (X₀ : K.In h₀) (N : News h₀ L s.heap news) (T : Top p loose mean mg mb h₀) (hA : A.frames = some (env :: outer)) (hf : env.frame = some L) (hke : env.scope.kind = .function)
    (ho : K.lookup f = some ⟨oc, od, .func (fnOf name qual params body scope dV kV doc pm an cdv ct), osl⟩) (hcd : codeIn K cdv qual = true) (hroom : A.depth < recursionLimit)
    (hbind : BindsTo s (fnOf name qual params body scope dV kV doc pm an cdv ct) args [(a1, v1)]) (hloc : ∀ y ∈ [(a1, v1)], scope.names.lookup y.1 = some .local)
    (h : ∀ g L' h₁, Fr h₀ L g m → Fr g L' h₁ (fun y => if y = a1 then some v1 else none) → News g L' h₁ news → Below A base (env :: outer) g → K.In g → Top p loose mean mg mb g →
      wpAny (model prog w) (A.deeper (envOf qual scope L' f cdv)) (execs body (envOf qual scope L' f cdv))
        (fun fl s' => LeaveK h₀ L m g R (match fl with | .ret v => v | _ => .none) s')
        (fun e s' => wpAny (model prog w) (A.deeper (envOf qual scope L' f cdv)) (leaving (envOf qual scope L' f cdv) e) (fun _ s'' => R (.error e) s'') (fun e' s'' => R (.error e') s'') s')
        { s with heap := h₁, toks := s.toks + 1 })
    (hco : scope.isCoroutine = false) (hgen : scope.isGenerator = false) (hk : scope.kind = .function)
    (hcell : ∀ x ∈ scope.names, x.2 ≠ .cell) : codeAny (model prog w) A (.call (.ref f) args) R s :=
  code_def B F X₀ N T hA hf hke ho hcd hroom hbind hloc (fun g L' h₁ FG F' N' B' X' T' => h g L' h₁ FG (by
    have e : (fun y => ([(a1, v1)] : List (Str × Value)).reverse.lookup y) = fun y => if y = a1 then some v1 else none := by
      funext y
      exact look_one
    rw [e] at F'; exact F') N' B' X' T') hco hgen hk hcell
theorem look2_eq {a1 a2 : Str} {v1 v2 : Value} : (fun y => ([(a1, v1), (a2, v2)] : List (Str × Value)).reverse.lookup y) = fun y => if y = a2 then some v2 else if y = a1 then some v1 else none := by
  funext y
  exact (look_step _ _ _ _).trans (ite_congr rfl (fun _ => rfl) fun _ => look_one)
theorem look3_eq {a1 a2 a3 : Str} {v1 v2 v3 : Value} : (fun y => ([(a1, v1), (a2, v2), (a3, v3)] : List (Str × Value)).reverse.lookup y) = fun y => if y = a3 then some v3 else if y = a2 then some v2 else if y = a1 then some v1 else none := by
  funext y
  exact (look_step _ _ _ _).trans (ite_congr rfl (fun _ => rfl) fun _ => (look_step _ _ _ _).trans (ite_congr rfl (fun _ => rfl) fun _ => look_one))
theorem code_def2 {env : Env} {outer : List Env} {R : Result → Shared → Prop} {name qual : Str} {params : Arguments} {body : List Stmt} {scope : Scope} {dV kV doc pm cdv ct oc : Value} {an od : Option Addr} {osl : Array (Option Value)} {f : Addr} {args : Args} {a1 a2 : Str} {v1 v2 : Value}
    (B : Below A₀ base outer h₀) (F : Fr h₀ L s.heap m) (X₀ : K.In h₀) (N : News h₀ L s.heap news) (T : Top p loose mean mg mb h₀) (hA : A.frames = some (env :: outer)) (hf : env.frame = some L) (hke : env.scope.kind = .function)
    (ho : K.lookup f = some ⟨oc, od, .func (fnOf name qual params body scope dV kV doc pm an cdv ct), osl⟩) (hcd : codeIn K cdv qual = true) (hroom : A.depth < recursionLimit)
    (hbind : BindsTo s (fnOf name qual params body scope dV kV doc pm an cdv ct) args [(a1, v1), (a2, v2)]) (hloc : ∀ y ∈ [(a1, v1), (a2, v2)], scope.names.lookup y.1 = some .local)
    (h : ∀ g L' h₁, Fr h₀ L g m → Fr g L' h₁ (fun y => if y = a2 then some v2 else if y = a1 then some v1 else none) → News g L' h₁ news → Below A base (env :: outer) g → K.In g → Top p loose mean mg mb g →
      wpAny (model prog w) (A.deeper (envOf qual scope L' f cdv)) (execs body (envOf qual scope L' f cdv))
        (fun fl s' => LeaveK h₀ L m g R (match fl with | .ret v => v | _ => .none) s')
        (fun e s' => wpAny (model prog w) (A.deeper (envOf qual scope L' f cdv)) (leaving (envOf qual scope L' f cdv) e) (fun _ s'' => R (.error e) s'') (fun e' s'' => R (.error e') s'') s')
        { s with heap := h₁, toks := s.toks + 2 })
    (hco : scope.isCoroutine = false) (hgen : scope.isGenerator = false) (hk : scope.kind = .function)
    (hcell : ∀ x ∈ scope.names, x.2 ≠ .cell) : codeAny (model prog w) A (.call (.ref f) args) R s :=
  code_def B F X₀ N T hA hf hke ho hcd hroom hbind hloc (fun g L' h₁ FG F' N' B' X' T' => h g L' h₁ FG (by rw [look2_eq] at F'; exact F') N' B' X' T') hco hgen hk hcell
theorem code_def3 {env : Env} {outer : List Env} {R : Result → Shared → Prop} {name qual : Str} {params : Arguments} {body : List Stmt} {scope : Scope} {dV kV doc pm cdv ct oc : Value} {an od : Option Addr} {osl : Array (Option Value)} {f : Addr} {args : Args} {a1 a2 a3 : Str} {v1 v2 v3 : Value}
    (B : Below A₀ base outer h₀) (F : Fr h₀ L s.heap m) (X₀ : K.In h₀) (N : News h₀ L s.heap news) (T : Top p loose mean mg mb h₀) (hA : A.frames = some (env :: outer)) (hf : env.frame = some L) (hke : env.scope.kind = .function)
    (ho : K.lookup f = some ⟨oc, od, .func (fnOf name qual params body scope dV kV doc pm an cdv ct), osl⟩) (hcd : codeIn K cdv qual = true) (hroom : A.depth < recursionLimit)
    (hbind : BindsTo s (fnOf name qual params body scope dV kV doc pm an cdv ct) args [(a1, v1), (a2, v2), (a3, v3)]) (hloc : ∀ y ∈ [(a1, v1), (a2, v2), (a3, v3)], scope.names.lookup y.1 = some .local)
    (h : ∀ g L' h₁, Fr h₀ L g m → Fr g L' h₁ (fun y => if y = a3 then some v3 else if y = a2 then some v2 else if y = a1 then some v1 else none) → News g L' h₁ news → Below A base (env :: outer) g → K.In g → Top p loose mean mg mb g →
      wpAny (model prog w) (A.deeper (envOf qual scope L' f cdv)) (execs body (envOf qual scope L' f cdv))
        (fun fl s' => LeaveK h₀ L m g R (match fl with | .ret v => v | _ => .none) s')
        (fun e s' => wpAny (model prog w) (A.deeper (envOf qual scope L' f cdv)) (leaving (envOf qual scope L' f cdv) e) (fun _ s'' => R (.error e) s'') (fun e' s'' => R (.error e') s'') s')
        { s with heap := h₁, toks := s.toks + 3 })
    (hco : scope.isCoroutine = false) (hgen : scope.isGenerator = false) (hk : scope.kind = .function)
    (hcell : ∀ x ∈ scope.names, x.2 ≠ .cell) : codeAny (model prog w) A (.call (.ref f) args) R s :=
  code_def B F X₀ N T hA hf hke ho hcd hroom hbind hloc (fun g L' h₁ FG F' N' B' X' T' => h g L' h₁ FG (by rw [look3_eq] at F'; exact F') N' B' X' T') hco hgen hk hcell
theorem look5_eq {a1 a2 a3 a4 a5 : Str} {v1 v2 v3 v4 v5 : Value} : (fun y => ([(a1, v1), (a2, v2), (a3, v3), (a4, v4), (a5, v5)] : List (Str × Value)).reverse.lookup y) = fun y => if y = a5 then some v5 else if y = a4 then some v4 else if y = a3 then some v3 else if y = a2 then some v2 else if y = a1 then some v1 else none := by
  funext y
  exact (look_step _ _ _ _).trans (ite_congr rfl (fun _ => rfl) fun _ => (look_step _ _ _ _).trans (ite_congr rfl (fun _ => rfl) fun _ => (look_step _ _ _ _).trans (ite_congr rfl (fun _ => rfl) fun _ => (look_step _ _ _ _).trans (ite_congr rfl (fun _ => rfl) fun _ => look_one))))
theorem code_def5 {env : Env} {outer : List Env} {R : Result → Shared → Prop} {name qual : Str} {params : Arguments} {body : List Stmt} {scope : Scope} {dV kV doc pm cdv ct oc : Value} {an od : Option Addr} {osl : Array (Option Value)} {f : Addr} {args : Args} {a1 a2 a3 a4 a5 : Str} {v1 v2 v3 v4 v5 : Value}
    (B : Below A₀ base outer h₀) (F : Fr h₀ L s.heap m) (X₀ : K.In h₀) (N : News h₀ L s.heap news) (T : Top p loose mean mg mb h₀) (hA : A.frames = some (env :: outer)) (hf : env.frame = some L) (hke : env.scope.kind = .function)
    (ho : K.lookup f = some ⟨oc, od, .func (fnOf name qual params body scope dV kV doc pm an cdv ct), osl⟩) (hcd : codeIn K cdv qual = true) (hroom : A.depth < recursionLimit)
    (hbind : BindsTo s (fnOf name qual params body scope dV kV doc pm an cdv ct) args [(a1, v1), (a2, v2), (a3, v3), (a4, v4), (a5, v5)]) (hloc : ∀ y ∈ [(a1, v1), (a2, v2), (a3, v3), (a4, v4), (a5, v5)], scope.names.lookup y.1 = some .local)
    (h : ∀ g L' h₁, Fr h₀ L g m → Fr g L' h₁ (fun y => if y = a5 then some v5 else if y = a4 then some v4 else if y = a3 then some v3 else if y = a2 then some v2 else if y = a1 then some v1 else none) → News g L' h₁ news → Below A base (env :: outer) g → K.In g → Top p loose mean mg mb g →
      wpAny (model prog w) (A.deeper (envOf qual scope L' f cdv)) (execs body (envOf qual scope L' f cdv))
        (fun fl s' => LeaveK h₀ L m g R (match fl with | .ret v => v | _ => .none) s')
        (fun e s' => wpAny (model prog w) (A.deeper (envOf qual scope L' f cdv)) (leaving (envOf qual scope L' f cdv) e) (fun _ s'' => R (.error e) s'') (fun e' s'' => R (.error e') s'') s')
        { s with heap := h₁, toks := s.toks + 5 })
    (hco : scope.isCoroutine = false) (hgen : scope.isGenerator = false) (hk : scope.kind = .function)
    (hcell : ∀ x ∈ scope.names, x.2 ≠ .cell) : codeAny (model prog w) A (.call (.ref f) args) R s :=
  code_def B F X₀ N T hA hf hke ho hcd hroom hbind hloc (fun g L' h₁ FG F' N' B' X' T' => h g L' h₁ FG (by rw [look5_eq] at F'; exact F') N' B' X' T') hco hgen hk hcell
end
theorem lt_name (o r : Value) : letTemporaryGo (PySem.Expr.Name (Str.ofString "_") ⟨0, 0, 0, 0⟩) o r = pure () := rfl
section
variable {prog : Program} {w : World} {A : Around} {E : Value → Shared → Prop} {h h₀ : Heap} {L : Addr} {m : Str → Option Value} {news : List (Addr × Obj)} {g : Array GenState} {d : Drawn} {tk : Nat} {os : OsState} {Q : Value → Shared → Prop} {x : Str} {t : Tok} {value e1 e2 : PySem.Expr} {pos : Pos}
theorem cut_ss {i j : Int} {ui uj : Tok} (hF : Fr h₀ L h m) (hN : News h₀ L h news) (hsz : x.length ≤ 100000) (k : ∀ h' t' k, Fr h₀ L h' m → News h₀ L h' news → Q (.str (Txt.slice x (some i) (some j)) t') ⟨h', g, d, k, os⟩) :
    wpAny (model prog w) A (subscriptTail value (.Slice (some e1) (some e2) none pos) (.str x t) (.ref h.objs.size)) Q E ⟨h.push { cls := .type "slice", data := .fields #[.int i ui, .int j uj, .none] }, g, d, tk, os⟩ :=
  kba_turn (value' := PySem.Expr.Name (Str.ofString "_") ⟨0, 0, 0, 0⟩) (lt_name _) (slice_strN_ss (s := ⟨h, g, d, tk, os⟩) hF hN k (by with_unfolding_all rfl) (by intro _; with_unfolding_all rfl) (by rw [sizeLine_eq]; omega))
theorem cut_ns {j : Int} {uj : Tok} (hF : Fr h₀ L h m) (hN : News h₀ L h news) (hsz : x.length ≤ 100000) (k : ∀ h' t' k, Fr h₀ L h' m → News h₀ L h' news → Q (.str (Txt.slice x none (some j)) t') ⟨h', g, d, k, os⟩) :
    wpAny (model prog w) A (subscriptTail value (.Slice none (some e2) none pos) (.str x t) (.ref h.objs.size)) Q E ⟨h.push { cls := .type "slice", data := .fields #[.none, .int j uj, .none] }, g, d, tk, os⟩ :=
  kba_turn (value' := PySem.Expr.Name (Str.ofString "_") ⟨0, 0, 0, 0⟩) (lt_name _) (slice_strN_ns (s := ⟨h, g, d, tk, os⟩) hF hN k (by with_unfolding_all rfl) (by intro _; with_unfolding_all rfl) (by rw [sizeLine_eq]; omega))
theorem cut_sn {i : Int} {ui : Tok} (hF : Fr h₀ L h m) (hN : News h₀ L h news) (hsz : x.length ≤ 100000) (k : ∀ h' t' k, Fr h₀ L h' m → News h₀ L h' news → Q (.str (Txt.slice x (some i) none) t') ⟨h', g, d, k, os⟩) :
    wpAny (model prog w) A (subscriptTail value (.Slice (some e1) none none pos) (.str x t) (.ref h.objs.size)) Q E ⟨h.push { cls := .type "slice", data := .fields #[.int i ui, .none, .none] }, g, d, tk, os⟩ :=
  kba_turn (value' := PySem.Expr.Name (Str.ofString "_") ⟨0, 0, 0, 0⟩) (lt_name _) (slice_strN_sn (s := ⟨h, g, d, tk, os⟩) hF hN k (by with_unfolding_all rfl) (by intro _; with_unfolding_all rfl) (by rw [sizeLine_eq]; omega))
end
theorem ex2_6 {α0 α1 : Type} {P0 P1 P2 P3 P4 P5 : α0 → α1 → Prop} {G : Prop} (h : ∃ a0 a1, P0 a0 a1 ∧ P1 a0 a1 ∧ P2 a0 a1 ∧ P3 a0 a1 ∧ P4 a0 a1 ∧ P5 a0 a1) (k : ∀ a0 a1, P0 a0 a1 → P1 a0 a1 → P2 a0 a1 → P3 a0 a1 → P4 a0 a1 → P5 a0 a1 → G) : G := by
  obtain ⟨a0, a1, p0, p1, p2, p3, p4, p5⟩ := h
  exact k a0 a1 p0 p1 p2 p3 p4 p5
theorem ex1_8 {α0 : Type} {P0 P1 P2 P3 P4 P5 P6 P7 : α0 → Prop} {G : Prop} (h : ∃ a0, P0 a0 ∧ P1 a0 ∧ P2 a0 ∧ P3 a0 ∧ P4 a0 ∧ P5 a0 ∧ P6 a0 ∧ P7 a0) (k : ∀ a0, P0 a0 → P1 a0 → P2 a0 → P3 a0 → P4 a0 → P5 a0 → P6 a0 → P7 a0 → G) : G := by
  obtain ⟨a0, p0, p1, p2, p3, p4, p5, p6, p7⟩ := h
  exact k a0 p0 p1 p2 p3 p4 p5 p6 p7
theorem ex1_13 {α0 : Type} {P0 P1 P2 P3 P4 P5 P6 P7 P8 P9 P10 P11 P12 : α0 → Prop} {G : Prop} (h : ∃ a0, P0 a0 ∧ P1 a0 ∧ P2 a0 ∧ P3 a0 ∧ P4 a0 ∧ P5 a0 ∧ P6 a0 ∧ P7 a0 ∧ P8 a0 ∧ P9 a0 ∧ P10 a0 ∧ P11 a0 ∧ P12 a0) (k : ∀ a0, P0 a0 → P1 a0 → P2 a0 → P3 a0 → P4 a0 → P5 a0 → P6 a0 → P7 a0 → P8 a0 → P9 a0 → P10 a0 → P11 a0 → P12 a0 → G) : G := by
  obtain ⟨a0, p0, p1, p2, p3, p4, p5, p6, p7, p8, p9, p10, p11, p12⟩ := h
  exact k a0 p0 p1 p2 p3 p4 p5 p6 p7 p8 p9 p10 p11 p12
theorem ex3_8 {α0 α1 α2 : Type} {P0 P1 P2 P3 P4 P5 P6 P7 : α0 → α1 → α2 → Prop} {G : Prop} (h : ∃ a0 a1 a2, P0 a0 a1 a2 ∧ P1 a0 a1 a2 ∧ P2 a0 a1 a2 ∧ P3 a0 a1 a2 ∧ P4 a0 a1 a2 ∧ P5 a0 a1 a2 ∧ P6 a0 a1 a2 ∧ P7 a0 a1 a2) (k : ∀ a0 a1 a2, P0 a0 a1 a2 → P1 a0 a1 a2 → P2 a0 a1 a2 → P3 a0 a1 a2 → P4 a0 a1 a2 → P5 a0 a1 a2 → P6 a0 a1 a2 → P7 a0 a1 a2 → G) : G := by
  obtain ⟨a0, a1, a2, p0, p1, p2, p3, p4, p5, p6, p7⟩ := h
  exact k a0 a1 a2 p0 p1 p2 p3 p4 p5 p6 p7

end
section
open StrLaws Builtin Builtin.Str in
theorem slice_plain (x : Str) {a b : Nat} (hab : a ≤ b) (hb : b ≤ x.length) : Txt.slice x (some (a : Int)) (some (b : Int)) = ⟨((x.cps.toList.drop a).take (b - a)).toArray⟩ := by
  have hp := sliced_plain x hab hb
  unfold Txt.slice
  split
  · rename_i h
    have hl : (strSliceIndices (some (a : Int)) (some (b : Int)) 1 x.length).length = x.length := by simpa using h
    rw [strSliceIndices_plain hab hb, List.length_map, List.length_range] at hl
    have ha : a = 0 := by omega
    have hbx : b = x.length := by omega
    subst ha hbx
    obtain ⟨arr⟩ := x
    have e : List.take arr.size arr.toList = arr.toList := List.take_of_length_le (by simp)
    simp [Str.length, e]
  · rw [hp]
theorem add_cps (x y : Str) : (x ++ y).cps = x.cps ++ y.cps := rfl
open StrLaws Builtin Builtin.Str in
theorem slice_neg (x : Str) (k : Nat) (hk : 0 < k) (h : k ≤ x.length) : Txt.slice x none (some (-(k : Int))) = ⟨(x.cps.toList.take (x.length - k)).toArray⟩ := by
  have e : strSliceIndices none (some (-(k : Int))) 1 x.length = strSliceIndices (some ((0 : Nat) : Int)) (some ((x.length - k : Nat) : Int)) 1 x.length := by
    rw [strSliceIndices_plain (by omega) (by omega)]
    have h2 : (-(k : Int)) < 0 := by omega
    simp only [strSliceIndices, sliceRange, show ((1 : Int) > 0) = True from by simp, if_true, h2]
    have z : ∀ M : Int, M = ((x.length - k : Nat) : Int) → (if (0 : Int) < M then (M - 0 + 1 - 1) / 1 else 0).toNat = x.length - k - 0 := fun M hM => by
      split <;> omega
    rw [z (max 0 (min (-(k : Int) + (x.length : Int)) (x.length : Int))) (by omega)]
    refine List.map_congr_left fun j _ => ?_
    omega
  have q := slice_plain x (a := 0) (b := x.length - k) (by omega) (by omega)
  unfold Txt.slice at q ⊢
  rw [e, q]
  simp
theorem chomp (x : Str) : Txt.slice (x ++ Str.ofString " ") none (some (-1)) = x := by
  have hl : (x ++ Str.ofString " ").length = x.length + 1 := by
    show (x.cps ++ (Str.ofString " ").cps).size = x.cps.size + 1
    rw [Array.size_append]; rfl
  have q := slice_neg (x ++ Str.ofString " ") 1 (by omega) (by omega)
  rw [show (-((1 : Nat) : Int)) = (-1 : Int) from rfl] at q
  rw [q, hl]
  obtain ⟨arr⟩ := x
  have : (({ cps := arr } : Str) ++ Str.ofString " ").cps.toList = arr.toList ++ (Str.ofString " ").cps.toList := by rw [add_cps]; simp
  rw [this]
  simp [Str.length]
/-- the text of these signs -/
noncomputable abbrev tx (l : List Nat) : Str := ⟨l.toArray⟩
theorem read_one (l : List Nat) (p : Nat) (h : p < l.length) : Txt.slice (Txt.slice (tx l) (some (p : Int)) (some ((p + 1 : Nat) : Int)) ++ Str.ofString " ") none (some (-1)) = tx [l[p]] := by
  rw [chomp, slice_plain _ (by omega) (by show p + 1 ≤ l.toArray.size; rw [List.size_toArray]; omega)]
  have : p + 1 - p = 1 := by omega
  rw [this]
  show (⟨((l.drop p).take 1).toArray⟩ : Str) = _
  rw [List.drop_eq_getElem_cons h]
  rfl
theorem one_ne {c d : Nat} {x : Str} (hx : x = tx [d] := by decide +kernel) (h : ¬ c = d) : (tx [c] == x) = false := by
  subst hx
  rw [beq_eq_false_iff_ne]
  intro e
  injection e with e
  have := congrArg Array.toList e
  simp at this
  exact h this
theorem not_esc : ∀ c : Fin 128, ¬ c.val = 92 → Txt.contains (Str.ofString "\\") (tx [c.val]) = false := by decide +kernel
theorem one_not {c : Nat} (h : ¬ (c = 92 ∨ c = 10 ∨ 128 ≤ c)) : Txt.contains (Str.ofString "\\") (tx [c]) = false := by
  have h2 : c < 128 := by omega
  exact not_esc ⟨c, h2⟩ (fun e => h (.inl e))

end
section
inductive LS | sp | wd | sq | dq | fin
deriving DecidableEq
noncomputable def LS.v : LS → Tok → Value
  | .sp, t => .str (Str.ofString " ") t
  | .wd, t => .str (Str.ofString "a") t
  | .sq, t => .str (Str.ofString "'") t
  | .dq, t => .str (Str.ofString "\"") t
  | .fin, _ => .none
noncomputable abbrev LS.go (e : Bool) : LS := if e then .fin else .sp
/-- the next token: (the token, or none at the end), whether the end was met, the rest -/
noncomputable def scan : LS → Bool → List Nat → List Nat → Option (Option (List Nat) × Bool × List Nat)
  | .sp, _, _, [] => some (none, true, [])
  | .sp, q, t, c :: r => if c = 32 then scan .sp q t r else if c = 39 then scan .sq q t r else if c = 97 ∨ c = 98 ∨ c = 43 ∨ c = 45 then scan .wd q [c] r else none
  | .wd, _, t, [] => some (some t, true, [])
  | .wd, q, t, c :: r => if c = 32 then some (some t, false, r) else if c = 39 then scan .sq q t r else if c = 34 then scan .dq q t r else if c = 97 ∨ c = 98 then scan .wd q (t ++ [c]) r else none
  | .sq, _, _, [] => none
  | .sq, _, t, c :: r => if c = 39 then scan .wd true t r else if c = 92 ∨ c = 10 ∨ 128 ≤ c then none else scan .sq true (t ++ [c]) r
  | .dq, _, _, [] => none
  | .dq, _, t, c :: r => if c = 34 then scan .wd true t r else if c = 92 ∨ c = 10 ∨ 128 ≤ c then none else scan .dq true (t ++ [c]) r
  | .fin, _, _, [] => some (none, true, [])
  | .fin, _, _, _ :: _ => none
noncomputable def okst : LS → Bool → List Nat → Prop
  | .sp, q, t => q = false ∧ t = []
  | .fin, q, t => q = false ∧ t = []
  | .wd, q, t => q = true ∨ t ≠ []
  | _, _, _ => True
theorem go_ok (e : Bool) : okst (LS.go e) false [] := by cases e <;> exact ⟨rfl, rfl⟩
/-- all the tokens of a rest (behind an end or not) -/
inductive Lexes : Bool → List Nat → List (List Nat) → Prop
  | done {e e' : Bool} {r r' : List Nat} : scan (LS.go e) false [] r = some (none, e', r') → Lexes e r []
  | tok {e e' : Bool} {r r' t : List Nat} {ts : List (List Nat)} : scan (LS.go e) false [] r = some (some t, e', r') → Lexes e' r' ts → Lexes e r (t :: ts)

end
section
open PySem.W.X
noncomputable def enterTail (own : Nat) (st : List (Code × Pos)) : Sem Unit := do
  let limit ← PySem.W.XFast.xw2211186353215096513
  let jp2 : Unit → Sem Unit := fun _ => cond (warmF st own limit) (unsupported "recursion.limit:hangs-on-warm-call-sites") (pure ())
  let jp1 : Unit → Sem Unit := fun _ => cond (overF st own limit) (do
      rule "recursion.limit"
      let r ← @PySem.W.XFast.xw15343874381740019533 Unit "RecursionError" "maximum recursion depth exceeded"
      jp2 r) (jp2 ())
  cond (nearF st own limit) (do
    let r ← unsupported "recursion.limit:a-claim-comes-within-the-margin-of-the-limit"
    jp1 r) (jp1 ())
inductive Put (a : Addr) (o o' : Obj) : List (Addr × Obj) → List (Addr × Obj) → Prop
  | head {l : List (Addr × Obj)} : Put a o o' ((a, o) :: l) ((a, o') :: l)
  | tail {p : Addr × Obj} {l l' : List (Addr × Obj)} : Put a o o' l l' → Put a o o' (p :: l) (p :: l')
theorem Put.is {a : Addr} {o o' : Obj} {l l' : List (Addr × Obj)} (P : Put a o o' l l') : ∃ i, l[i]? = some (a, o) ∧ l' = l.set i (a, o') := by
  induction P with
  | head => exact ⟨0, rfl, rfl⟩
  | tail _ ih => obtain ⟨i, h1, h2⟩ := ih; exact ⟨i + 1, h1, by rw [h2]; rfl⟩
section
variable {α β : Type} {prog : Program} {w : World} {A : Around} {c : Code} {Q : α → Shared → Prop} {E : Value → Shared → Prop} {s : Shared} {h₀ h : Heap} {chg chg' news news' : List (Addr × Obj)} {g : Array GenState} {d : Drawn} {t : Nat} {os : OsState}
theorem room_f {st : List (Code × Pos)} (l : Lies A st) (hu : Nat.blt A.units cLine = true) : roomF st = false := Lies.room l (by simpa using hu)
theorem near_f {st : List (Code × Pos)} (l : Lies A st) (hd : Nat.blt A.depth recursionLimit = true) (own : Nat) : nearF st own recursionLimit = false := Lies.near' l (by simpa using hd) own
theorem over_f {st : List (Code × Pos)} (l : Lies A st) (hd : Nat.blt A.depth recursionLimit = true) (own : Nat) : overF st own recursionLimit = false := Lies.over l (by simpa using hd) own
theorem warm_f {st : List (Code × Pos)} (l : Lies A st) (hd : Nat.blt A.depth recursionLimit = true) (own : Nat) : warmF st own recursionLimit = false := Lies.warm l (by simpa using hd) own
theorem envs_f {st : List (Code × Pos)} (l : Lies A st) {es : List Env} (h : A.frames = some es) : envsF st = es := Lies.envs l h
theorem noLimit (D : Mem h₀ h chg news) (hl : h₀.NoLimit) (hc : away chg cStatics = true) : h.NoLimit := hl.at (fun o e => D.keep _ _ e (by rw [hc, Bool.or_true]))
theorem sb_top {K : Frag} {a : Addr} {o : Obj} (X : K.In h₀) (D : Mem h₀ h chg news) (e : K.lookup a = some o) (q : (hasCls o || away chg a) = true) : h.get? a = some o := D.old a o (X a o e) q
theorem sb_rule {tag : String} {k : Unit → Sem α} (x : wpAny (model prog w) A (k ()) Q E s) : wpAny (model prog w) A (.rule tag k) Q E s := fun Γ p hΓ => x Γ p hΓ
theorem sb_at {q : Pos} {k : Unit → Sem α} (x : wpAny (model prog w) A (k ()) Q E s) : wpAny (model prog w) A (.at q k) Q E s := fun Γ _ hΓ => x Γ q hΓ
theorem sb_point {l : List Value} {k : Unit → Sem α} (x : wpAny (model prog w) A (k ()) Q E s) : wpAny (model prog w) A (.point l k) Q E s := fun Γ p hΓ => x Γ p hΓ
theorem sb_ask {k : Setting → Sem α} (x : wpAny (model prog w) A (k ⟨prog, w.params⟩) Q E s) : wpAny (model prog w) A (.ask k) Q E s := fun Γ p hΓ => x Γ p hΓ
theorem sb_fresh {k : Tok → Sem α} (x : wpAny (model prog w) A (k t) Q E ⟨h, g, d, t + 1, os⟩) : wpAny (model prog w) A (.fresh k) Q E ⟨h, g, d, t, os⟩ := fun Γ p hΓ => x Γ p hΓ
theorem sb_handled {k : Option Value → Sem α} (x : wpAny (model prog w) A (k A.handled) Q E s) : wpAny (model prog w) A (.handled false k) Q E s := x_handled x
theorem sb_stack {k : List (Code × Pos) → Sem α} (x : ∀ st : List (Code × Pos), Lies A st → wpAny (model prog w) A (k st) Q E s) : wpAny (model prog w) A (.stack k) Q E s :=
  fun Γ p hΓ => x _ (lies_of hΓ) Γ p hΓ
theorem sb_load {a : Addr} {q : Option Value} {k : Obj → Sem α} {o : Obj} (ho : h.get? a = some o) (x : wpAny (model prog w) A (k o) Q E ⟨h, g, d, t, os⟩) : wpAny (model prog w) A (.load a q k) Q E ⟨h, g, d, t, os⟩ := x_load ho x
theorem sb_alloc {o : Obj} {k : Addr → Sem α} (D : Mem h₀ h chg news) (hf : o.isFreed = false) (x : ∀ a h', Mem h₀ h' chg ((a, o) :: news) → wpAny (model prog w) A (k a) Q E ⟨h', g, d, t, os⟩) :
    wpAny (model prog w) A (.alloc o k) Q E ⟨h, g, d, t, os⟩ := wpAny_bind (m := alloc o) (f := k) (wpAny_alloc (x _ _ (D.alloc hf)))
theorem sb_put {a : Addr} {q : Option Value} {f : Obj → Obj} {k : Unit → Sem α} {o : Obj} (P : Put a o (f o) news news') (D : Mem h₀ h chg news) (hf : (f o).isFreed = false)
    (x : ∀ h', Mem h₀ h' chg news' → wpAny (model prog w) A (k ()) Q E ⟨h', g, d, t, os⟩) : wpAny (model prog w) A (.update a q f k) Q E ⟨h, g, d, t, os⟩ := by
  obtain ⟨i, h1, h2⟩ := P.is
  subst h2
  exact wpAny_bind (m := updatePart a q f) (f := k) (wpAny_updatePart (D.at i _ _ h1) (x _ (D.update h1 hf)))
theorem sb_grow {a : Addr} {q : Option Value} {f : Obj → Obj} {k : Unit → Sem α} {c₀ : Addr} {ps more : Array Value} (D : Mem h₀ h chg news) (ht : h₀.TableAt c₀ a ps) (hw : away chg a = true) (ho : h.get? a = some (tableObj ps)) (hn : f (tableObj ps) = tableObj (ps ++ more))
    (x : ∀ h', Mem h₀ h' ((a, tableObj (ps ++ more)) :: chg) news → wpAny (model prog w) A (k ()) Q E ⟨h', g, d, t, os⟩) : wpAny (model prog w) A (.update a q f k) Q E ⟨h, g, d, t, os⟩ :=
  wpAny_bind (m := updatePart a q f) (f := k) (wpAny_updatePart ho (x _ (D.grow ht hw hn)))
theorem sb_grow1 {K : Frag} {a : Addr} {q : Option Value} {f : Obj → Obj} {k : Unit → Sem α} {c₀ : Addr} {more vs : Array Value} {oc oP : Obj} (X : K.In h₀) (D : Mem h₀ h chg news) (hw : away chg a = true) (e1 : K.lookup c₀ = some oc) (e2 : oc = { oc with cls := .type "code", data := .fields vs }) (e3 : vs[11]? = some (.ref a)) (e4 : K.lookup a = some oP) (e5 : oP = tableObj #[]) (hn : f (tableObj #[]) = tableObj more)
    (x : ∀ h', Mem h₀ h' ((a, tableObj more) :: chg) news → wpAny (model prog w) A (k ()) Q E ⟨h', g, d, t, os⟩) : wpAny (model prog w) A (.update a q f k) Q E ⟨h, g, d, t, os⟩ := by
  have e : (#[] : Array Value) ++ more = more := by simp
  refine sb_grow (ps := #[]) (more := more) D (table_at (X _ _ e1) e2 e3 (X _ _ e4) e5) hw ?_ (by rw [e]; exact hn) (by rw [e]; exact x)
  rw [← e5]
  exact D.old _ _ (X _ _ e4) (by rw [hw, Bool.or_true])
theorem sb_code {R : Result → Shared → Prop} (x : wpAny (model prog w) (A.under c) (PySem.W.XFast.xw11892475500146522536 PySem.W.XFast.tableX c) (postC prog w A R) (postE R) s) : codeAny (model prog w) A c R s := by
  refine y_code _ _ _ _ _ _ (wpOwn_of_wpAny ?_)
  rw [PySem.W.XFast.xe11892475500146522536, PySem.W.XFast.tableX_eq]
  exact x
theorem sb_call {c' : Code} {hd : Option Value} {gd : Bool} {l : List Value} {k : Result → Sem α} (hnb : hd ≠ some byPass) (x : codeAny (model prog w) (A.mark hd) c' (postA prog w A Q E k) s) : wpAny (model prog w) A (.call c' hd gd l k) Q E s := y_start _ _ _ _ _ _ _ _ _ _ _ _ hnb x
theorem sb_callB {n : String} (n' : String) {v : Value} {as : Args} {c' : Code} {hd : Option Value} {gd : Bool} {l : List Value} {k : Result → Sem α} (e1 : c' = Code.call v as) (e2 : v = .builtin n) (e : n = n') (hnb : hd ≠ some byPass) (x : codeAny (model prog w) (A.mark hd) (.call (.builtin n') as) (postA prog w A Q E k) s) : wpAny (model prog w) A (.call c' hd gd l k) Q E s := by
  subst e1; subst e2; subst e
  exact sb_call hnb x
theorem sb_callD {n : String} (n' : String) {as : Args} {c' : Code} {hd : Option Value} {gd : Bool} {l : List Value} {k : Result → Sem α} (e1 : c' = Code.builtin n as) (e : n = n') (hnb : hd ≠ some byPass) (x : codeAny (model prog w) (A.mark hd) (.builtin n' as) (postA prog w A Q E k) s) : wpAny (model prog w) A (.call c' hd gd l k) Q E s := by
  subst e1; subst e
  exact sb_call hnb x
theorem sb_again {A' : Around} {R : Result → Shared → Prop} {c' : Code} (hq : c'.quiet = true) (x : codeAny (model prog w) A c' R s) : wpAny (model prog w) A' (.pure (.again c')) (postC prog w A R) E s := fun _ _ _ => y_again _ _ _ _ _ _ hq x
theorem sb_againB {A' : Around} {R : Result → Shared → Prop} {n : String} (n' : String) {v : Value} {as : Args} {c' : Code} (e1 : c' = Code.call v as) (e2 : v = .builtin n) (e : n = n') (x : codeAny (model prog w) A (.call (.builtin n') as) R s) : wpAny (model prog w) A' (.pure (.again c')) (postC prog w A R) E s := by
  subst e1; subst e2; subst e
  exact sb_again rfl x
theorem sb_againD {A' : Around} {R : Result → Shared → Prop} {n : String} (n' : String) {as : Args} {c' : Code} (e1 : c' = Code.builtin n as) (e : n = n') (hq : n'.startsWith "lifetime." = false) (x : codeAny (model prog w) A (.builtin n' as) R s) : wpAny (model prog w) A' (.pure (.again c')) (postC prog w A R) E s := by
  subst e1; subst e
  exact sb_again (Code.quiet_builtin _ hq) x
theorem sb_done {A' : Around} {R : Result → Shared → Prop} {f : Flow} (x : R (.ok f) s) : wpAny (model prog w) A' (.pure (.done f)) (postC prog w A R) E s := fun _ _ _ => x
theorem sb_err {A' : Around} {R : Result → Shared → Prop} {e : Value} {Q' : Fin → Shared → Prop} (x : R (.error e) s) : wpAny (model prog w) A' (.raise e : Sem PySem.Fin) Q' (postE R) s := fun _ _ _ => x
theorem sb_ret {k : Result → Sem α} {r : Result} (x : wpAny (model prog w) A (k r) Q E s) : postA prog w A Q E k r s := x
theorem sb_bind {m : Sem β} {f : β → Sem α} (x : wpAny (model prog w) A m (fun a s' => wpAny (model prog w) A (f a) Q E s') E s) : wpAny (model prog w) A (Sem.bind m f) Q E s := wpAny_bind (m := m) (f := f) x
theorem sb_pure {A' : Around} {v : β} {f : β → Sem α} {E' : Value → Shared → Prop} (x : wpAny (model prog w) A (f v) Q E s) : wpAny (model prog w) A' (Sem.pure v) (fun a s' => wpAny (model prog w) A (f a) Q E s') E' s := fun _ _ _ => x
theorem sb_keep {refs : List Value} {m : Sem α} (x : wpAny (model prog w) A m Q E s) : wpAny (model prog w) A (Sem.keep refs m) Q E s := fun Γ p hΓ => by rw [Sem.wp_keep]; exact x Γ p hΓ
theorem sb_onRaise {m : Sem α} {k : Value → Sem Unit} (x : wpAny (model prog w) A m Q (fun e s' => wpAny (model prog w) A (k e) (fun _ s'' => E e s'') E s') s) : wpAny (model prog w) A (Sem.onRaise m k) Q E s := wpAny_onRaise x
theorem sb_enter {own : Nat} {K : Unit → Sem α} {B : Sem Unit} {st : List (Code × Pos)} (l : Lies A st) (D : Mem h₀ h chg news) (hl : h₀.NoLimit) (hc : away chg cStatics = true) (hd : Nat.blt A.depth recursionLimit = true)
    (e : B = enterTail own st)
    (x : wpAny (model prog w) A (K ()) Q E ⟨h, g, d, t, os⟩) : wpAny (model prog w) A (Sem.bind B K) Q E ⟨h, g, d, t, os⟩ := by
  subst e
  refine wpAny_bind (m := enterTail own st) (f := K) ?_
  unfold enterTail
  rw [show PySem.W.XFast.xw2211186353215096513 = currentRecursionLimit from PySem.W.XFast.xe2211186353215096513.symm]
  refine wpAny_bind (wpAny_currentRecursionLimit (noLimit D hl hc) ?_)
  dsimp only
  rw [near_f l hd, over_f l hd, warm_f l hd]
  exact wpAny_pure x
theorem sb_room {what : String} {K : Unit → Sem α} {B : Sem Unit} {st : List (Code × Pos)} (l : Lies A st) (hu : Nat.blt A.units cLine = true)
    (e : B = cond (roomF st) (unsupported s!"recursion.c-limit:near:{what}") (pure ())) (x : wpAny (model prog w) A (K ()) Q E s) : wpAny (model prog w) A (Sem.bind B K) Q E s := by
  subst e
  rw [room_f l hu]
  exact x
theorem sb_envs {K : List Env → Sem α} {B : Sem (List Env)} {st : List (Code × Pos)} {es : List Env} (l : Lies A st) (hA : A.frames = some es)
    (e : B = Sem.pure (envsF st)) (x : wpAny (model prog w) A (K es) Q E s) : wpAny (model prog w) A (Sem.bind B K) Q E s := by
  subst e
  rw [envs_f l hA]
  exact x
theorem sb_condF {b : Bool} {X Y : Sem α} (hb : b = false) (x : wpAny (model prog w) A Y Q E s) : wpAny (model prog w) A (condFn _ b X Y) Q E s := by subst hb; exact x
theorem sb_condT {b : Bool} {X Y : Sem α} (hb : b = true) (x : wpAny (model prog w) A X Q E s) : wpAny (model prog w) A (condFn _ b X Y) Q E s := by subst hb; exact x
theorem sb_cndF {b : Bool} {X Y : Sem α} (hb : b = false) (x : wpAny (model prog w) A X Q E s) : wpAny (model prog w) A (cnndFn _ b X Y) Q E s := by subst hb; exact x
theorem sb_cndT {b : Bool} {X Y : Sem α} (hb : b = true) (x : wpAny (model prog w) A Y Q E s) : wpAny (model prog w) A (cnndFn _ b X Y) Q E s := by subst hb; exact x
theorem sb_iteT {p : Prop} {i : Decidable p} {X Y : Sem α} (hb : p) (x : wpAny (model prog w) A X Q E s) : wpAny (model prog w) A (@ite _ p i X Y) Q E s := by rw [if_pos hb]; exact x
theorem sb_iteF {p : Prop} {i : Decidable p} {X Y : Sem α} (hb : ¬ p) (x : wpAny (model prog w) A Y Q E s) : wpAny (model prog w) A (@ite _ p i X Y) Q E s := by rw [if_neg hb]; exact x
theorem ne_top {K : Frag} {a b : Addr} {o o' : Obj} (X : K.In h₀) (D : Mem h₀ h chg news) (i : Nat) (hi : news[i]? = some (a, o)) (e : K.lookup b = some o') : a ≠ b := D.ne_old i a o hi b o' (X b o' e)
theorem sb_putT {a : Addr} {q : Option Value} {f : Obj → Obj} {k : Unit → Sem α} {o : Obj} (o' : Obj) (P : Put a o o' news news') (D : Mem h₀ h chg news) (hn : f o = o') (hf : o'.isFreed = false)
    (x : ∀ h', Mem h₀ h' chg news' → wpAny (model prog w) A (k ()) Q E ⟨h', g, d, t, os⟩) : wpAny (model prog w) A (.update a q f k) Q E ⟨h, g, d, t, os⟩ := by
  subst hn
  exact sb_put P D hf x
theorem am_eq : PySem.W.XFast.xw7104952167334194321 = codeAmong := PySem.W.XFast.xe7104952167334194321.symm
theorem mt_object : (Fast.findQ "object").elim "type" (fun x => x.metatype) = "type" := by decide +kernel
end
theorem sb_endv {α : Type} {prog : Program} {w : World} {A : Around} {Q : α → Shared → Prop} {E : Value → Shared → Prop} {s : Shared} {v : α} (x : Q v s) : wpAny (model prog w) A (Sem.pure v) Q E s := fun _ _ _ => x
noncomputable def againOf : Sem PySem.Fin → Option Code
  | .pure (.again c) => some c
  | _ => none
theorem againOf_eq {t : Sem PySem.Fin} {c : Code} (h : againOf t = some c) : t = .pure (.again c) := by
  unfold againOf at h
  split at h
  · cases h; rfl
  · cases h
theorem sb_againP {prog : Program} {w : World} {A A' : Around} {E : Value → Shared → Prop} {s : Shared} {R : Result → Shared → Prop} {t : Sem PySem.Fin} (n' : String) (as : Args) (h : againOf t = some (.builtin n' as)) (hq : n'.startsWith "lifetime." = false) (x : codeAny (model prog w) A (.builtin n' as) R s) : wpAny (model prog w) A' t (postC prog w A R) E s := by
  rw [againOf_eq h]
  exact sb_again (Code.quiet_builtin _ hq) x
noncomputable def callOf {α : Type} : Sem α → Option (Code × Option Value)
  | .call c hd _ _ _ => some (c, hd)
  | _ => none
noncomputable def contOf {α : Type} (d : Result → Sem α) : Sem α → Result → Sem α
  | .call _ _ _ _ k => k
  | _ => d
theorem callOf_eq {α : Type} {t : Sem α} {c : Code} {hd : Option Value} (h : callOf t = some (c, hd)) (d : Result → Sem α) : ∃ g l, t = .call c hd g l (contOf d t) := by
  cases t with
  | call c' hd' g l k => cases h; exact ⟨g, l, rfl⟩
  | _ => cases h
theorem sb_callP {α : Type} {prog : Program} {w : World} {A : Around} {Q : α → Shared → Prop} {E : Value → Shared → Prop} {s : Shared} {t : Sem α} (c : Code) (h : callOf t = some (c, none)) (x : codeAny (model prog w) (A.mark none) c (postA prog w A Q E (contOf (fun _ => .unsupported "") t)) s) : wpAny (model prog w) A t Q E s := by
  obtain ⟨g, l, e⟩ := callOf_eq h (fun _ => .unsupported "")
  rw [e] at x ⊢
  exact sb_call (by intro q; cases q) x

end
end
section
example : True := by
  k_with_none
  trivial

example : True := by
  (k_with "my_enter" => (refine wpAny_call ?_; refine' code_def ?k1_h ?k2_h ?k3_h ?k4_h ?k5_h ?kA_h ?kF_h ?kK_h ?k6_h ?k7_h ?k8_h ?k9_h ?kB_h ?_ ?c2_h ?c3_h ?c4_h ?c5_h; (case kA_h => exact rfl); (case kF_h => exact rfl); (case kK_h => assumption); (case k1_h => k_asm); (case k2_h => k_asm); (case k3_h => k_asm); (case k4_h => k_asm); (case k5_h => k_asm); (case k6_h => k_is); (case k7_h => k_is); (case k8_h => k_room); (case k9_h => first | exact BindsTo.of_eq rfl | exact binds_K (by k_in) rfl (by k_is) rfl rfl rfl | fail "k_enter: no rule for these arguments"); (case c5_h => decide); (case kB_h => exact locs rfl); (case c2_h => exact rfl); (case c3_h => exact rfl); (case c4_h => exact rfl); k_whole; intro g'_q L'_q h'_q FG'_q F'_q N'_q B'_q X'_q T'_q; (try dsimp only); (try k_fold)))
  (k_with "my_var" => first | assumption | exact if_pos rfl | (refine (if_neg (by decide)).trans ?_; walk_at "my_var") | rfl)
  (k_with "eval Name" => (k_here; k_dflt (refine' ld ?F_h ?v_h ?_; (case F_h => k_asm); (case v_h => walk_at "my_var"); k_whole)))
  (k_with "my_idx" => ((try simp only [vals_len, List.length_set, List.length_map]); omega))
  (k_with "subscriptTail" => (k_here; (with_reducible show wpAny _ _ (subscriptTail _ _ (Value.ref _) (Value.int _ _)) _ _ _); k_dflt (refine' sub_any ?N_h ?hm_h ?h0_h ?hx_h ?hf_h ?_ ?hs_h; (case N_h => k_asm); (case hm_h => k_mem); (case h0_h => walk_at "my_idx"); (case hx_h => exact vals_get (by walk_at "my_idx") (by walk_at "my_idx")); (case hf_h => walk_at "my_idx"); (case hs_h => with_unfolding_all rfl); k_whole)))
  (k_with "setItem ref int" => (k_here; k_dflt (refine' set_it ?F_h ?N_h ?U_h ?h1_h ?hf_h ?_; (case F_h => k_asm); (case N_h => k_asm); (case U_h => exact Upd.head (by assumption)); (case h1_h => walk_at "my_idx"); (case hf_h => walk_at "my_idx"); k_whole; intro h'_q F'_q N'_q; (try k_sweep))))
  (k_with "my_step" => ((fail_if_success (with_reducible show wpAny _ _ (exec (Stmt.While _ _ _ _) _) _ _ _)); first | (k_unfold; (try dsimp only)) | walk1 | (dsimp only; walk1) | (leave1; walk_say "STEP leave1"; try dsimp only)))
  (k_with "my_ok" => first | assumption | (refine' ok_at ?oh_h ?oj_h; (case oh_h => assumption); (case oj_h => walk_at "my_idx")))
  (k_with "compareOp Lt ref ref" => (k_here; k_dflt (refine' (show CmpOk _ _ _ _ by assumption) _ _ ?o1_h ?o2_h _ _ _ _ _ _ _ _ _ _ _ _ _ _ _ _ _ _ _ _ _ ?a1_h ?a2_h ?a3_h ?a4_h ?B_h ?F_h ?N_h ?hR_h ?X_h ?T_h ?K_h ?_; (case a1_h => rfl); (case a2_h => exact Nat.le_of_ble_eq_true rfl); (case a3_h => exact Nat.le_of_ble_eq_true rfl); (case a4_h => rfl); (case B_h => k_asm); (case T_h => k_asm); (case K_h => first | assumption | exact rfl); (case F_h => k_asm); (case N_h => k_asm); (case hR_h => exact fun p hp => .tail _ hp); (case X_h => k_asm); (case o1_h => walk_at "my_ok"); (case o2_h => walk_at "my_ok"); k_whole; intro h'_q tk'_q F'_q N'_q; (try k_sweep))))
  (k_with "binaryOp RShift int int" => (k_here; k_dflt (refine' shr_half ?h_h ?_; (case h_h => omega))))
  (k_with "call builtin:len" => (k_here; (with_reducible show wpAny _ _ (call (Value.builtin "len") [Value.ref _]) _ _ _); k_dflt (refine' len_it ?N_h ?hm_h ?hf_h ?_; (case N_h => k_asm); (case hm_h => k_mem); (case hf_h => walk_at "my_idx"); k_whole)))
  (k_with "my_use" => ((case hh => rfl); (case hf => rfl); (case hg => rfl); (case hd => exact Nat.le_of_ble_eq_true rfl); (case hu => exact Nat.le_of_ble_eq_true rfl); (case B => k_asm); (case F => k_asm); (case X => k_asm); (case N => k_asm); (case T => k_asm); (case K => rfl)))
  (k_with "execs cons" => (k_here; (with_reducible show wpAny _ _ (execs [_] _) _ _ _); with_reducible refine execs_one ?_))
  trivial
section
section
variable {prog : Program} {w : World} {A : Around} {E : Value → Shared → Prop} {s : Shared} {h₀ : Heap} {L D : Addr} {m : Str → Option Value} {news news' : List (Addr × Obj)} {l : List It} {i : It} {n : Nat}
theorem append_it {Q : Value → Shared → Prop} (F : Fr h₀ L s.heap m) (N : News h₀ L s.heap news) (U : Upd D (listOf (vals l).toArray n) (listOf (vals (l ++ [i])).toArray (n + 1)) news news') (hl : l.length < 1000)
    (h : ∀ h', Fr h₀ L h' m → News h₀ L h' news' → Q .none { s with heap := h' }) : wpAny (model prog w) A (call (.builtin "list.append") [.ref D, .ref i.a]) Q E s := by
  have e : (vals l).toArray.push (.ref i.a) = (vals (l ++ [i])).toArray := by simp
  refine append_K F N (its := (vals l).toArray) (n := n) (news' := news') (by rw [e]; exact U) h (hsz := ?_)
  rw [List.size_toArray, vals_len, sizeLine_eq]
  omega
theorem last_split {l : List It} (h : 0 < l.length) : l.dropLast ++ [l.getLast!] = l := by
  cases l with
  | nil => cases h
  | cons a l => exact List.dropLast_concat_getLast (List.cons_ne_nil a l)
theorem kl_last_it : ∀ (p : List Value) (y : Value), kl_last (p ++ [y]) = some (p, y)
  | [], y => rfl
  | x :: p, y => by
    show kl_last (x :: (p ++ [y])) = _
    unfold kl_last
    rw [kl_last_it p y]
theorem pop_it {Q : Value → Shared → Prop} (F : Fr h₀ L s.heap m) (N : News h₀ L s.heap news) (U : Upd D (listOf (vals l).toArray n) (listOf (vals l.dropLast).toArray (n + 1)) news news') (h0 : 0 < l.length) (hl : l.length < 1000)
    (h : ∀ h', Fr h₀ L h' m → News h₀ L h' news' → Q (.ref l.getLast!.a) { s with heap := h' }) : wpAny (model prog w) A (call (.builtin "list.pop") [.ref D]) Q E s := by
  refine kl_pop (its := (vals l).toArray) (n := n) F N (p := vals l.dropLast) (y := .ref l.getLast!.a) ?_ U ?_ h
  · have e : vals l = vals l.dropLast ++ [.ref l.getLast!.a] := by
      have := congrArg vals (last_split h0)
      rw [← this]; simp
    show kl_last (vals l) = _
    rw [e]
    exact kl_last_it _ _
  · show (vals l).length ≤ _
    rw [vals_len, sizeLine_eq]
    omega
theorem truthy_it {Q : Bool → Shared → Prop} (N : News h₀ L s.heap news) (hm : (D, listOf (vals l).toArray n) ∈ news) (hf : l.length < 1000) (b : Bool) (hb : b = decide (l.length ≠ 0)) (h : ∀ tk', Q b { s with toks := tk' }) :
    wpAny (model prog w) A (truthy (.ref D)) Q E s := by
  have hl := PySem.IsL.isList (n := n) (N _ hm).1
  have e : (vals l).toArray.size = l.length := by rw [List.size_toArray, vals_len]
  refine wpAny_truthy_list hl (by rw [e]; omega) ?_
  have e2 : (!(vals l).toArray.isEmpty) = b := by
    rw [hb]
    cases l <;> simp
  rw [e2]; exact h _
end
theorem push_last {l : List It} {i : It} : (l ++ [i])[l.length]! = i := by simp
theorem drop_len {l : List It} : l.dropLast.length = l.length - 1 := List.length_dropLast ..
theorem last_mem {l : List It} (h : 0 < l.length) : l.getLast! ∈ l := by
  have := last_split h
  rw [← this]
  simp

end
section
theorem walk_mem {l : List It} {i : Nat} (h : i < l.length) : l[i]! ∈ l := by
  rw [getElem!_pos l i h]
  exact List.getElem_mem h
theorem bubble_step {lt : It → It → Bool} {x : It} {k : Nat} {l : List It} (h : 0 < k) (hlt : lt x l[(k - 1) / 2]! = true) : bubble lt x k l = bubble lt x ((k - 1) / 2) (l.set k l[(k - 1) / 2]!) := by
  obtain ⟨q, rfl⟩ : ∃ q, k = q + 1 := ⟨k - 1, by omega⟩
  rw [bubble_succ]
  simp only [Nat.add_sub_cancel] at hlt ⊢
  rw [if_pos hlt]
theorem bubble_stop {lt : It → It → Bool} {x : It} {k : Nat} {l : List It} (h : 0 < k) (hlt : lt x l[(k - 1) / 2]! = false) : bubble lt x k l = l.set k x := by
  obtain ⟨q, rfl⟩ : ∃ q, k = q + 1 := ⟨k - 1, by omega⟩
  rw [bubble_succ]
  simp only [Nat.add_sub_cancel] at hlt ⊢
  rw [if_neg (by rw [hlt]; decide)]
inductive SdJ (R : List (Addr × Obj)) (lt : It → It → Bool) (ok : It → Prop) (hp : Addr) (e : Nat) (its : List It) (pos : Nat) : Nat → (Str → Option Value) → List (Addr × Obj) → Prop
  | mk {m : Str → Option Value} (l : List It) (n : Nat) (tp ts : Tok) (v1 : m "heap" = some (.ref hp)) (v2 : m "startpos" = some (.int 0 ts)) (v3 : m "pos" = some (.int n tp)) (v4 : m "newitem" = some (.ref (its[pos]!).a)) (hn : n < l.length) (hl : l.length = its.length) (hok : ∀ i ∈ l, ok i) (hb : bubble lt its[pos]! n l = bubble lt its[pos]! pos its) : SdJ R lt ok hp e its pos n m ((hp, listOf (vals l).toArray e) :: R)
theorem siftdown_ctr (w : World) (R : List (Addr × Obj)) (lt : It → It → Bool) (ok : It → Prop) (hc : CmpOk w R lt ok) (hp : Addr) (hR : ∀ p ∈ R, p.1 ≠ hp) (e : Nat) (its : List It) (hok : ∀ i ∈ its, ok i) (pos : Nat) (hpos : pos < its.length) (hlen : its.length ≤ 30) (t1 t2 : Tok) :
    Sat w 600 4000 79 [.ref hp, .int 0 t1, .int pos t2] ((hp, listOf (vals its).toArray e) :: R)
      (fun v news' => v = .none ∧ news' = (hp, listOf (vals (bubble lt its[pos]! pos its)).toArray e) :: R) := by
  intro pp ll mean mg mb gd cn cs a ccd cl outer A₀ base h₀ L m s Q E B F X N T hk hret
  k_dflt (walk_at "my_enter")
  repeat walk_at "my_step"
  refine' While_inv2 (SdJ R lt ok hp e its pos) (n₀ := pos) ?F ?N ?J ?turn ?E
  case F => k_asm
  case N => k_asm
  case E => passes_own
  case J =>
    refine' SdJ.mk its pos _ _ ?a1 ?a2 ?a3 ?a4 hpos rfl hok rfl
    case a1 => walk_at "my_var"
    case a2 => walk_at "my_var"
    case a3 => walk_at "my_var"
    case a4 => walk_at "my_var"
  case turn =>
    rintro k m₁ news₁ h₁ tk₁ F₁ N₁ ⟨l, _, tp, ts, v1, v2, v3, v4, hn, hl, hok', hb⟩
    have hkp : (k - 1) / 2 < l.length := by omega
    have o1 : ok its[pos]! := hok _ (walk_mem hpos)
    have o2 : ok l[(k - 1) / 2]! := hok' _ (walk_mem hkp)
    repeat' walk_at "my_step"
    · refine' ws_next (n' := (k - 1) / 2) ?F ?N ?lt (SdJ.mk (l.set k l[(k - 1) / 2]!) ((k - 1) / 2) _ _ ?a1 ?a2 ?a3 ?a4 ?a6 ?a7 ?a8 ?a9)
      case F => k_asm
      case N => k_asm
      case lt => omega
      case a1 => walk_at "my_var"
      case a2 => walk_at "my_var"
      case a3 => walk_at "my_var"
      case a4 => walk_at "my_var"
      case a6 => rw [List.length_set]; omega
      case a7 => rw [List.length_set]; exact hl
      case a8 => exact fun i hi => (List.mem_or_eq_of_mem_set hi).elim (hok' i) fun h => h ▸ o2
      case a9 => rw [← hb]; exact (bubble_step (by omega) (by assumption)).symm
    · unfold WhileStep2; dsimp only
      repeat' walk_at "my_step"
      refine hret _ _ _ _ ⟨rfl, ?_⟩ (by k_asm) (by k_asm)
      rw [← hb, bubble_stop (by omega) (by assumption)]
    · refine hret _ _ _ _ ⟨rfl, ?_⟩ (by k_asm) (by k_asm)
      have hk0 : k = 0 := by omega
      subst hk0
      rw [← hb, bubble_zero]

end
section
example : True := by
  (k_with "call ref" => (k_here; k_dflt ((show wpAny _ _ (call (Value.ref 79) _) _ _ _); refine' Sat.use0 (siftdown_ctr _ _ _ _ ?hc_h _ ?hR_h _ _ ?ok_h _ ?p1_h ?p2_h _ _) ?hh ?hd ?hu ?hf ?hg ?B ?F ?X ?N ?T ?K ?_; walk_at "my_use"; (case hc_h => assumption); (case hR_h => assumption); (case ok_h => walk_at "my_oks"); (case p1_h => walk_at "my_idx"); (case p2_h => walk_at "my_idx"); k_whole; intro h'_q tk'_q F'_q N'_q; (try k_sweep))))
  trivial
theorem oks_set {ok : It → Prop} {l : List It} {i : It} {k : Nat} (h : ∀ i ∈ l, ok i) (hi : ok i) : ∀ j ∈ l.set k i, ok j := fun j hj => (List.mem_or_eq_of_mem_set hj).elim (h j) fun e => e ▸ hi
example : True := by
  (k_with "my_oks" => first | assumption | (refine oks_set ?_ ?_ <;> assumption))
  trivial
theorem child_l1 {lt : It → It → Bool} {l : List It} {pos : Nat} (h : 2 * pos + 2 < l.length) (hl : lt l[2 * pos + 1]! l[2 * pos + 2]! = true) : childOf lt l pos = 2 * pos + 1 := if_neg fun x => by rw [hl] at x; cases x.2
theorem child_l2 {lt : It → It → Bool} {l : List It} {pos : Nat} (h : ¬ 2 * pos + 2 < l.length) : childOf lt l pos = 2 * pos + 1 := if_neg fun x => h x.1
theorem child_r {lt : It → It → Bool} {l : List It} {pos : Nat} (h : 2 * pos + 2 < l.length) (hl : lt l[2 * pos + 1]! l[2 * pos + 2]! = false) : childOf lt l pos = 2 * pos + 2 := if_pos ⟨h, hl⟩
theorem sink_go {lt : It → It → Bool} {n f pos c : Nat} {l : List It} {r : List It × Nat} (hb : sink lt n f pos l = r) (hc : childOf lt l pos = c) (h : 2 * pos + 1 < n) (hf : n ≤ f + pos) : sink lt n (f - 1) c (l.set pos l[c]!) = r := by
  obtain ⟨g, rfl⟩ : ∃ g, f = g + 1 := ⟨f - 1, by omega⟩
  rw [← hb, sink, if_pos h, hc]
  rfl
theorem sink_end {lt : It → It → Bool} {n f pos : Nat} {l : List It} (h : ¬ 2 * pos + 1 < n) (hf : n ≤ f + pos) : sink lt n f pos l = (l, pos) := by
  cases f with
  | zero => rfl
  | succ g => rw [sink, if_neg h]
theorem siftup_is {lt : It → It → Bool} {l its : List It} {pos : Nat} (hb : (l, pos) = sink lt its.length its.length 0 its) (hn : pos < l.length) : siftup lt its = bubble lt (l.set pos its[0]!)[pos]! pos (l.set pos its[0]!) := by
  unfold siftup
  rw [← hb]
  show bubble lt its[0]! pos (l.set pos its[0]!) = _
  rw [get_set _ _ _ _ hn, if_pos rfl]
inductive SuJ (R : List (Addr × Obj)) (lt : It → It → Bool) (ok : It → Prop) (hp : Addr) (e : Nat) (its : List It) : Nat → (Str → Option Value) → List (Addr × Obj) → Prop
  | mk {m : Str → Option Value} (l : List It) (f pos : Nat) (tp ts tc te : Tok) (v1 : m "heap" = some (.ref hp)) (v2 : m "startpos" = some (.int 0 ts)) (v3 : m "pos" = some (.int pos tp)) (v4 : m "newitem" = some (.ref (its[0]!).a)) (v5 : m "childpos" = some (.int (2 * pos + 1 : Nat) tc)) (v6 : m "endpos" = some (.int its.length te)) (hn : pos < l.length) (hl : l.length = its.length) (hok : ∀ i ∈ l, ok i) (hf : its.length ≤ f + pos) (hb : sink lt its.length f pos l = sink lt its.length its.length 0 its) : SuJ R lt ok hp e its (its.length - pos) m ((hp, listOf (vals l).toArray e) :: R)
noncomputable def SU1_s : {P : World → (List (Addr × Obj)) → (It → It → Bool) → (It → Prop) → Addr → Nat → (List It) → Program → (List Str) → (ExcName → Option Value) → (Str → Option Value) → (Str → Option Value) → (Option (List Code)) → Str → Scope → Addr → Value → (List (Str × Addr)) → (List Env) → Around → Heap → Heap → Addr → (Str → Option Value) → Shared → (Value → Shared → Prop) → (Value → Shared → Prop) → Heap → Addr → Nat → Heap → (Str → Option Value) → Heap → Nat → (List It) → Nat → Nat → Tok → Tok → Tok → Tok → Prop // (∀ w R lt ok hp e its pp ll mean mg mb gd cn cs a ccd cl outer A₀ base h₀ L m s Q E g'_q L'_q tk h9 m₁ h₁ tk₁ l f pos tp ts tc te, P w R lt ok hp e its pp ll mean mg mb gd cn cs a ccd cl outer A₀ base h₀ L m s Q E g'_q L'_q tk h9 m₁ h₁ tk₁ l f pos tp ts tc te) → (∀ (w : World) (R : List (Addr × Obj)) (lt : It → It → Bool) (ok : It → Prop) (hc : CmpOk w R lt ok) (hp : Addr) (hR : ∀ p ∈ R, p.1 ≠ hp) (e : Nat) (its : List It) (hok : ∀ i ∈ its, ok i) (hpos : 0 < its.length) (hlen : its.length ≤ 30) (t1 : Tok), Sat w 550 3500 86 [.ref hp, .int 0 t1] ((hp, listOf (vals its).toArray e) :: R)
      (fun v news' => v = .none ∧ news' = (hp, listOf (vals (siftup lt its)).toArray e) :: R))} := by
  refine' ⟨_, fun HC1 => ?hcut⟩
  case hcut =>
    intro w R lt ok hc hp hR e its hok hpos hlen t1
    intro pp ll mean mg mb gd cn cs a ccd cl outer A₀ base h₀ L m s Q E B F X N T hk hret
    k_dflt (walk_at "my_enter")
    repeat walk_at "my_step"
    rename Heap => h9
    refine' While_inv2 (SuJ R lt ok hp e its) (n₀ := its.length) ?F ?N ?J ?turn ?E
    case F => k_asm
    case N => k_asm
    case E => passes_own
    case J =>
      refine' SuJ.mk its its.length 0 _ _ _ _ ?a1 ?a2 ?a3 ?a4 ?a5 ?a6 hpos rfl hok (Nat.le_refl _) rfl
      case a1 => walk_at "my_var"
      case a2 => walk_at "my_var"
      case a3 => walk_at "my_var"
      case a4 => walk_at "my_var"
      case a5 => walk_at "my_var"
      case a6 => walk_at "my_var"
    case turn =>
      rintro k m₁ news₁ h₁ tk₁ F₁ N₁ ⟨l, f, pos, tp, ts, tc, te, v1, v2, v3, v4, v5, v6, hn, hl, hok', hf, hb⟩
      revert hc hR hok hpos hlen B F X N T hk hret FG'_q B'_q X'_q T'_q F₁ hn hl hok' hf hb v1 v2 v3 v4 v5 v6 N₁
      exact HC1 w R lt ok hp e its pp ll mean mg mb gd cn cs a ccd cl outer A₀ base h₀ L m s Q E g'_q L'_q tk h9 m₁ h₁ tk₁ l f pos tp ts tc te
@[irreducible] noncomputable def SU1_e : (World × (List (Addr × Obj)) × (It → It → Bool) × (It → Prop) × Addr × Nat × (List It) × Program) × ((List Str) × (ExcName → Option Value) × (Str → Option Value) × (Str → Option Value) × (Option (List Code)) × Str × Scope × Addr) × (Value × (List (Str × Addr)) × (List Env) × Around × Heap × Heap × Addr × (Str → Option Value)) × (Shared × (Value → Shared → Prop) × (Value → Shared → Prop) × Heap × Addr × Nat × Heap × (Str → Option Value)) × (Heap × Nat × (List It) × Nat × Nat × Tok × Tok × Tok) × Tok := Ep (by first | infer_instance | (repeat' (first | exact neW | exact neA | exact neS | infer_instance | refine neP ?_ ?_ | (refine ⟨?_⟩; constructor <;> exact default) | (refine ⟨?_⟩; constructor)))) fun x => SU1_s.1 x.1.1 x.1.2.1 x.1.2.2.1 x.1.2.2.2.1 x.1.2.2.2.2.1 x.1.2.2.2.2.2.1 x.1.2.2.2.2.2.2.1 x.1.2.2.2.2.2.2.2 x.2.1.1 x.2.1.2.1 x.2.1.2.2.1 x.2.1.2.2.2.1 x.2.1.2.2.2.2.1 x.2.1.2.2.2.2.2.1 x.2.1.2.2.2.2.2.2.1 x.2.1.2.2.2.2.2.2.2 x.2.2.1.1 x.2.2.1.2.1 x.2.2.1.2.2.1 x.2.2.1.2.2.2.1 x.2.2.1.2.2.2.2.1 x.2.2.1.2.2.2.2.2.1 x.2.2.1.2.2.2.2.2.2.1 x.2.2.1.2.2.2.2.2.2.2 x.2.2.2.1.1 x.2.2.2.1.2.1 x.2.2.2.1.2.2.1 x.2.2.2.1.2.2.2.1 x.2.2.2.1.2.2.2.2.1 x.2.2.2.1.2.2.2.2.2.1 x.2.2.2.1.2.2.2.2.2.2.1 x.2.2.2.1.2.2.2.2.2.2.2 x.2.2.2.2.1.1 x.2.2.2.2.1.2.1 x.2.2.2.2.1.2.2.1 x.2.2.2.2.1.2.2.2.1 x.2.2.2.2.1.2.2.2.2.1 x.2.2.2.2.1.2.2.2.2.2.1 x.2.2.2.2.1.2.2.2.2.2.2.1 x.2.2.2.2.1.2.2.2.2.2.2.2 x.2.2.2.2.2
namespace SU1
noncomputable section
 @[irreducible] def w := SU1_e.1.1
 @[irreducible] def R := SU1_e.1.2.1
 @[irreducible] def lt := SU1_e.1.2.2.1
 @[irreducible] def ok := SU1_e.1.2.2.2.1
 @[irreducible] def hp := SU1_e.1.2.2.2.2.1
 @[irreducible] def e := SU1_e.1.2.2.2.2.2.1
 @[irreducible] def its := SU1_e.1.2.2.2.2.2.2.1
 @[irreducible] def pp := SU1_e.1.2.2.2.2.2.2.2
 @[irreducible] def ll := SU1_e.2.1.1
 @[irreducible] def mean := SU1_e.2.1.2.1
 @[irreducible] def mg := SU1_e.2.1.2.2.1
 @[irreducible] def mb := SU1_e.2.1.2.2.2.1
 @[irreducible] def gd := SU1_e.2.1.2.2.2.2.1
 @[irreducible] def cn := SU1_e.2.1.2.2.2.2.2.1
 @[irreducible] def cs := SU1_e.2.1.2.2.2.2.2.2.1
 @[irreducible] def a := SU1_e.2.1.2.2.2.2.2.2.2
 @[irreducible] def ccd := SU1_e.2.2.1.1
 @[irreducible] def cl := SU1_e.2.2.1.2.1
 @[irreducible] def outer := SU1_e.2.2.1.2.2.1
 @[irreducible] def A₀ := SU1_e.2.2.1.2.2.2.1
 @[irreducible] def base := SU1_e.2.2.1.2.2.2.2.1
 @[irreducible] def h₀ := SU1_e.2.2.1.2.2.2.2.2.1
 @[irreducible] def L := SU1_e.2.2.1.2.2.2.2.2.2.1
 @[irreducible] def m := SU1_e.2.2.1.2.2.2.2.2.2.2
 @[irreducible] def s := SU1_e.2.2.2.1.1
 @[irreducible] def Q := SU1_e.2.2.2.1.2.1
 @[irreducible] def E := SU1_e.2.2.2.1.2.2.1
 @[irreducible] def g'_q := SU1_e.2.2.2.1.2.2.2.1
 @[irreducible] def L'_q := SU1_e.2.2.2.1.2.2.2.2.1
 @[irreducible] def tk := SU1_e.2.2.2.1.2.2.2.2.2.1
 @[irreducible] def h9 := SU1_e.2.2.2.1.2.2.2.2.2.2.1
 @[irreducible] def m₁ := SU1_e.2.2.2.1.2.2.2.2.2.2.2
 @[irreducible] def h₁ := SU1_e.2.2.2.2.1.1
 @[irreducible] def tk₁ := SU1_e.2.2.2.2.1.2.1
 @[irreducible] def l := SU1_e.2.2.2.2.1.2.2.1
 @[irreducible] def f := SU1_e.2.2.2.2.1.2.2.2.1
 @[irreducible] def pos := SU1_e.2.2.2.2.1.2.2.2.2.1
 @[irreducible] def tp := SU1_e.2.2.2.2.1.2.2.2.2.2.1
 @[irreducible] def ts := SU1_e.2.2.2.2.1.2.2.2.2.2.2.1
 @[irreducible] def tc := SU1_e.2.2.2.2.1.2.2.2.2.2.2.2
 @[irreducible] def te := SU1_e.2.2.2.2.2
end
end SU1
section
open SU1
theorem SU1_b : SU1_s.1 SU1.w SU1.R SU1.lt SU1.ok SU1.hp SU1.e SU1.its SU1.pp SU1.ll SU1.mean SU1.mg SU1.mb SU1.gd SU1.cn SU1.cs SU1.a SU1.ccd SU1.cl SU1.outer SU1.A₀ SU1.base SU1.h₀ SU1.L SU1.m SU1.s SU1.Q SU1.E SU1.g'_q SU1.L'_q SU1.tk SU1.h9 SU1.m₁ SU1.h₁ SU1.tk₁ SU1.l SU1.f SU1.pos SU1.tp SU1.ts SU1.tc SU1.te := by
  intro hc hR hok hpos hlen B F X N T hk hret FG'_q B'_q X'_q T'_q F₁ hn hl hok' hf hb v1 v2 v3 v4 v5 v6 N₁
  have o0 : ok its[0]! := hok _ (walk_mem hpos)
  repeat' walk_at "my_step"
  all_goals try rename (lt _ _ = _) => hlt9
  · have hc9 : childOf lt l pos = 2 * pos + 1 := child_l1 (by omega) hlt9
    refine' ws_next (n' := its.length - (2 * pos + 1)) ?F ?N ?lt (SuJ.mk (l.set pos l[2 * pos + 1]!) (f - 1) (2 * pos + 1) _ _ _ _ ?a1 ?a2 ?a3 ?a4 ?a5 ?a6 ?a8 ?a9 ?aA ?aB (sink_go hb hc9 (by omega) hf))
    case F => k_asm
    case N => k_asm
    case lt => omega
    case a1 => walk_at "my_var"
    case a2 => walk_at "my_var"
    case a3 => walk_at "my_var"
    case a4 => walk_at "my_var"
    case a5 => walk_at "my_var"
    case a6 => walk_at "my_var"
    case a8 => rw [List.length_set]; omega
    case a9 => rw [List.length_set]; exact hl
    case aA => exact oks_set hok' (ok_at hok' (by omega))
    case aB => omega
  · have hc9 : childOf lt l pos = 2 * pos + 2 := child_r (by omega) hlt9
    refine' ws_next (n' := its.length - (2 * pos + 2)) ?F ?N ?lt (SuJ.mk (l.set pos l[2 * pos + 2]!) (f - 1) (2 * pos + 2) _ _ _ _ ?a1 ?a2 ?a3 ?a4 ?a5 ?a6 ?a8 ?a9 ?aA ?aB (sink_go hb hc9 (by omega) hf))
    case F => k_asm
    case N => k_asm
    case lt => omega
    case a1 => walk_at "my_var"
    case a2 => walk_at "my_var"
    case a3 => walk_at "my_var"
    case a4 => walk_at "my_var"
    case a5 => walk_at "my_var"
    case a6 => walk_at "my_var"
    case a8 => rw [List.length_set]; omega
    case a9 => rw [List.length_set]; exact hl
    case aA => exact oks_set hok' (ok_at hok' (by omega))
    case aB => omega
  · have hc9 : childOf lt l pos = 2 * pos + 1 := child_l2 (by omega)
    refine' ws_next (n' := its.length - (2 * pos + 1)) ?F ?N ?lt (SuJ.mk (l.set pos l[2 * pos + 1]!) (f - 1) (2 * pos + 1) _ _ _ _ ?a1 ?a2 ?a3 ?a4 ?a5 ?a6 ?a8 ?a9 ?aA ?aB (sink_go hb hc9 (by omega) hf))
    case F => k_asm
    case N => k_asm
    case lt => omega
    case a1 => walk_at "my_var"
    case a2 => walk_at "my_var"
    case a3 => walk_at "my_var"
    case a4 => walk_at "my_var"
    case a5 => walk_at "my_var"
    case a6 => walk_at "my_var"
    case a8 => rw [List.length_set]; omega
    case a9 => rw [List.length_set]; exact hl
    case aA => exact oks_set hok' (ok_at hok' (by omega))
    case aB => omega
  · refine hret _ _ _ _ ⟨rfl, ?_⟩ (by k_asm) (by k_asm)
    rw [sink_end (by omega) hf] at hb
    exact (congrArg (fun z => (hp, listOf (vals z).toArray e) :: R) (siftup_is hb hn)).symm

end
theorem siftup_ctr (w : World) (R : List (Addr × Obj)) (lt : It → It → Bool) (ok : It → Prop) (hc : CmpOk w R lt ok) (hp : Addr) (hR : ∀ p ∈ R, p.1 ≠ hp) (e : Nat) (its : List It) (hok : ∀ i ∈ its, ok i) (hpos : 0 < its.length) (hlen : its.length ≤ 30) (t1 : Tok) :
    Sat w 550 3500 86 [.ref hp, .int 0 t1] ((hp, listOf (vals its).toArray e) :: R)
      (fun v news' => v = .none ∧ news' = (hp, listOf (vals (siftup lt its)).toArray e) :: R) := by
  exact SU1_s.2 (fun w R lt ok hp e its pp ll mean mg mb gd cn cs a ccd cl outer A₀ base h₀ L m s Q E g'_q L'_q tk h9 m₁ h₁ tk₁ l f pos tp ts tc te => ep_all _ (P := fun x => SU1_s.1 x.1.1 x.1.2.1 x.1.2.2.1 x.1.2.2.2.1 x.1.2.2.2.2.1 x.1.2.2.2.2.2.1 x.1.2.2.2.2.2.2.1 x.1.2.2.2.2.2.2.2 x.2.1.1 x.2.1.2.1 x.2.1.2.2.1 x.2.1.2.2.2.1 x.2.1.2.2.2.2.1 x.2.1.2.2.2.2.2.1 x.2.1.2.2.2.2.2.2.1 x.2.1.2.2.2.2.2.2.2 x.2.2.1.1 x.2.2.1.2.1 x.2.2.1.2.2.1 x.2.2.1.2.2.2.1 x.2.2.1.2.2.2.2.1 x.2.2.1.2.2.2.2.2.1 x.2.2.1.2.2.2.2.2.2.1 x.2.2.1.2.2.2.2.2.2.2 x.2.2.2.1.1 x.2.2.2.1.2.1 x.2.2.2.1.2.2.1 x.2.2.2.1.2.2.2.1 x.2.2.2.1.2.2.2.2.1 x.2.2.2.1.2.2.2.2.2.1 x.2.2.2.1.2.2.2.2.2.2.1 x.2.2.2.1.2.2.2.2.2.2.2 x.2.2.2.2.1.1 x.2.2.2.2.1.2.1 x.2.2.2.2.1.2.2.1 x.2.2.2.2.1.2.2.2.1 x.2.2.2.2.1.2.2.2.2.1 x.2.2.2.2.1.2.2.2.2.2.1 x.2.2.2.2.1.2.2.2.2.2.2.1 x.2.2.2.2.1.2.2.2.2.2.2.2 x.2.2.2.2.2) (by with_unfolding_all exact SU1_b) ((w, R, lt, ok, hp, e, its, pp), (ll, mean, mg, mb, gd, cn, cs, a), (ccd, cl, outer, A₀, base, h₀, L, m), (s, Q, E, g'_q, L'_q, tk, h9, m₁), (h₁, tk₁, l, f, pos, tp, ts, tc), te)) w R lt ok hc hp hR e its hok hpos hlen t1

end

example : True := by
  (k_with "my_idx" => ((try simp only [vals_len, List.length_set, List.length_map, List.length_append, List.length_cons, List.length_nil, drop_len] at *); omega))
  (k_with "call builtin:list.append" => (k_here; k_dflt ((show wpAny _ _ (call (Value.builtin "list.append") [Value.ref _, Value.ref _]) _ _ _); refine' append_it ?F_h ?N_h ?U_h ?hl_h ?_; (case F_h => k_asm); (case N_h => k_asm); (case U_h => exact Upd.head (by assumption)); (case hl_h => walk_at "my_idx"); k_whole; intro h'_q F'_q N'_q; (try k_sweep))))
  (k_with "call builtin:list.pop" => (k_here; k_dflt ((show wpAny _ _ (call (Value.builtin "list.pop") [Value.ref _]) _ _ _); refine' pop_it ?F_h ?N_h ?U_h ?h0_h ?hl_h ?_; (case F_h => k_asm); (case N_h => k_asm); (case U_h => exact Upd.head (by assumption)); (case h0_h => walk_at "my_idx"); (case hl_h => walk_at "my_idx"); k_whole; intro h'_q F'_q N'_q; (try k_sweep))))
  trivial
section
theorem sd_push (w : World) (R : List (Addr × Obj)) (lt : It → It → Bool) (ok : It → Prop) (hc : CmpOk w R lt ok) (hp : Addr) (hR : ∀ p ∈ R, p.1 ≠ hp) (e : Nat) (its : List It) (i : It) (hok : ∀ j ∈ its ++ [i], ok j) (hlen : its.length ≤ 29) (t1 t2 : Tok) (z : Int) (hz : z = (its.length : Int)) :
    Sat w 600 4000 79 [.ref hp, .int 0 t1, .int z t2] ((hp, listOf (vals (its ++ [i])).toArray e) :: R)
      (fun v news' => v = .none ∧ news' = (hp, listOf (vals (hpush lt its i)).toArray e) :: R) := by
  subst hz
  have h := siftdown_ctr w R lt ok hc hp hR e (its ++ [i]) hok its.length (by simp) (by simp; omega) t1 t2
  rw [push_last] at h
  exact h
example : True := by
  (k_with "call ref" => (k_here; k_dflt ((show wpAny _ _ (call (Value.ref 79) _) _ _ _); refine' Sat.use0 (sd_push _ _ _ _ ?hc_h _ ?hR_h _ _ _ ?ok_h ?p1_h _ _ _ ?hz_h) ?hh ?hd ?hu ?hf ?hg ?B ?F ?X ?N ?T ?K ?_; walk_at "my_use"; (case hc_h => assumption); (case hR_h => assumption); (case ok_h => assumption); (case p1_h => walk_at "my_idx"); (case hz_h => walk_at "my_idx"); k_whole; intro h'_q tk'_q F'_q N'_q; (try k_sweep))))
  trivial
theorem heappush_ctr (w : World) (R : List (Addr × Obj)) (lt : It → It → Bool) (ok : It → Prop) (hc : CmpOk w R lt ok) (hp : Addr) (hR : ∀ p ∈ R, p.1 ≠ hp) (e : Nat) (its : List It) (i : It) (hok : ∀ j ∈ its ++ [i], ok j) (hlen : its.length ≤ 29) :
    Sat w 500 3000 51 [.ref hp, .ref i.a] ((hp, listOf (vals its).toArray e) :: R)
      (fun v news' => v = .none ∧ news' = (hp, listOf (vals (hpush lt its i)).toArray (e + 1)) :: R) := by
  intro pp ll mean mg mb gd cn cs a ccd cl outer A₀ base h₀ L m s Q E B F X N T hk hret
  k_dflt (walk_at "my_enter")
  repeat' walk_at "my_step"
  exact hret _ _ _ _ ⟨rfl, rfl⟩ (by k_asm) (by k_asm)

end
section
theorem tr_no {n : Nat} (h : n = 0) : false = decide (n ≠ 0) := by subst h; rfl
theorem tr_yes {n : Nat} (h : 0 < n) : true = decide (n ≠ 0) := (decide_eq_true (by omega)).symm
example : True := by
  (k_with "call ref" => (k_here; k_dflt ((show wpAny _ _ (call (Value.ref 86) _) _ _ _); refine' Sat.use0 (siftup_ctr _ _ _ _ ?hc_h _ ?hR_h _ _ ?ok_h ?p0_h ?p1_h _) ?hh ?hd ?hu ?hf ?hg ?B ?F ?X ?N ?T ?K ?_; walk_at "my_use"; (case hc_h => assumption); (case hR_h => assumption); (case ok_h => assumption); (case p0_h => walk_at "my_idx"); (case p1_h => walk_at "my_idx"); k_whole; intro h'_q tk'_q F'_q N'_q; (try k_sweep))))
  (k_with "truthy ref" => (k_here; k_dflt (first | (refine' truthy_it ?N_h ?hm_h ?hf_h false ?hb_h ?_; (case N_h => k_asm); (case hm_h => k_mem); (case hf_h => walk_at "my_idx"); (case hb_h => exact tr_no (by walk_at "my_idx")); k_whole; intro tk'_q) | (refine' truthy_it ?N_h ?hm_h ?hf_h true ?hb_h ?_; (case N_h => k_asm); (case hm_h => k_mem); (case hf_h => walk_at "my_idx"); (case hb_h => exact tr_yes (by walk_at "my_idx")); k_whole; intro tk'_q))))
  trivial
theorem one_pop {lt : It → It → Bool} {l : List It} (h : l.length = 1) : l.getLast! = l[0]! ∧ hpop lt l = l.dropLast := by
  match l, h with
  | [a], _ => exact ⟨rfl, rfl⟩
theorem more_pop {lt : It → It → Bool} {l : List It} (h : 1 < l.length) : l.dropLast[0]! = l[0]! ∧ hpop lt l = siftup lt (l.dropLast.set 0 l.getLast!) := by
  match l, h with
  | a :: b :: r, _ => exact ⟨rfl, rfl⟩
theorem oks_pop {ok : It → Prop} {l : List It} (h : ∀ j ∈ l, ok j) (h0 : 0 < l.length) : ∀ j ∈ l.dropLast.set 0 l.getLast!, ok j :=
  oks_set (fun j hj => h j (List.dropLast_subset l hj)) (h _ (last_mem h0))
theorem heappop_ctr (w : World) (R : List (Addr × Obj)) (lt : It → It → Bool) (ok : It → Prop) (hc : CmpOk w R lt ok) (hp : Addr) (hR : ∀ p ∈ R, p.1 ≠ hp) (e : Nat) (its : List It) (hok : ∀ j ∈ its, ok j) (h0 : 0 < its.length) (hlen : its.length ≤ 30) :
    Sat w 500 3000 58 [.ref hp] ((hp, listOf (vals its).toArray e) :: R)
      (fun v news' => v = .ref (its[0]!).a ∧ news' = (hp, listOf (vals (hpop lt its)).toArray (e + 1)) :: R) := by
  intro pp ll mean mg mb gd cn cs a ccd cl outer A₀ base h₀ L m s Q E B F X N T hk hret
  k_dflt (walk_at "my_enter")
  by_cases h1 : its.length = 1
  · repeat' walk_at "my_step"
    rw [(one_pop (lt := lt) h1).1]
    exact hret _ _ _ _ ⟨rfl, by rw [(one_pop (lt := lt) h1).2]⟩ (by k_asm) (by k_asm)
  · have hl1 : 1 < its.length := by omega
    have hdl := drop_len (l := its)
    have hok' : ∀ j ∈ its.dropLast.set 0 its.getLast!, ok j := oks_pop hok h0
    repeat' walk_at "my_step"
    refine hret _ _ _ _ ⟨?_, ?_⟩ (by k_asm) (by k_asm)
    · exact congrArg (fun z : It => Value.ref z.a) (more_pop (lt := lt) hl1).1
    · rw [(more_pop (lt := lt) hl1).2]

theorem heapreplace_ctr (w : World) (R : List (Addr × Obj)) (lt : It → It → Bool) (ok : It → Prop) (hc : CmpOk w R lt ok) (hp : Addr) (hR : ∀ p ∈ R, p.1 ≠ hp) (e : Nat) (its : List It) (i : It) (hok : ∀ j ∈ its, ok j) (hi : ok i) (h0 : 0 < its.length) (hlen : its.length ≤ 30) :
    Sat w 500 3000 65 [.ref hp, .ref i.a] ((hp, listOf (vals its).toArray e) :: R)
      (fun v news' => v = .ref (its[0]!).a ∧ news' = (hp, listOf (vals (hreplace lt its i)).toArray e) :: R) := by
  intro pp ll mean mg mb gd cn cs a ccd cl outer A₀ base h₀ L m s Q E B F X N T hk hret
  k_dflt (walk_at "my_enter")
  have hok' : ∀ j ∈ its.set 0 i, ok j := oks_set hok hi
  repeat' walk_at "my_step"
  exact hret _ _ _ _ ⟨rfl, rfl⟩ (by k_asm) (by k_asm)

end
section
example : True := by
  (k_with "call ref" => (k_here; k_dflt ((show wpAny _ _ (call (Value.ref 86) _) _ _ _); refine' Sat.use0 (siftup_ctr _ _ _ _ ?hc_h _ ?hR_h _ _ ?ok_h ?p0_h ?p1_h _) ?hh ?hd ?hu ?hf ?hg ?B ?F ?X ?N ?T ?K ?_; walk_at "my_use"; (case hc_h => assumption); (case hR_h => assumption); (case ok_h => assumption); (case p0_h => walk_at "my_idx"); (case p1_h => walk_at "my_idx"); k_whole; intro h'_q tk'_q F'_q N'_q; (try k_sweep))))
  trivial
theorem tr_no' {n : Nat} (h : n = 0) : false = decide (n ≠ 0) := by subst h; rfl
theorem tr_yes' {n : Nat} (h : 0 < n) : true = decide (n ≠ 0) := (decide_eq_true (by omega)).symm
example : True := by
  (k_with "truthy ref" => (k_here; k_dflt (first | (refine' truthy_it ?N_h ?hm_h ?hf_h false ?hb_h ?_; (case N_h => k_asm); (case hm_h => k_mem); (case hf_h => walk_at "my_idx"); (case hb_h => exact tr_no' (by walk_at "my_idx")); k_whole; intro tk'_q) | (refine' truthy_it ?N_h ?hm_h ?hf_h true ?hb_h ?_; (case N_h => k_asm); (case hm_h => k_mem); (case hf_h => walk_at "my_idx"); (case hb_h => exact tr_yes' (by walk_at "my_idx")); k_whole; intro tk'_q))))
  trivial
noncomputable def hpushpop (lt : It → It → Bool) (l : List It) (i : It) : It × List It :=
  if l.length = 0 then (i, l) else if lt l[0]! i then (l[0]!, hreplace lt l i) else (i, l)
theorem cmp_is {w : World} {R : List (Addr × Obj)} {lt : It → It → Bool} {ok : It → Prop} (hc : CmpOk w R lt ok) {i j : It} {b : Bool} (hi : ok i) (hj : ok j) {pp : Program} {ll : List Str} {mean : ExcName → Option Value} {mg mb : Str → Option Value} {cn : Str} {cs : Scope} {a : Addr} {ccd : Value} {cl : List (Str × Addr)} {outer : List Env} {A₀ : Around} {base : Heap} {A : Around} {h₀ : Heap} {L : Addr} {m : Str → Option Value} {s : Shared} {Q E : Value → Shared → Prop} {news : List (Addr × Obj)}
    (a1 : A.handled = none) (a2 : A.depth ≤ 760) (a3 : A.units ≤ 7000) (a4 : A.frames = some (envX cn cs L a ccd cl :: outer)) (B : Below A₀ base outer h₀) (F : Fr h₀ L s.heap m) (N : News h₀ L s.heap news) (hR : ∀ p ∈ R, p ∈ news) (X : (hd.heap_1 w.params).In h₀) (T : Top pp ll mean mg mb h₀) (K : cs.kind = .function) (hb : lt i j = b)
    (h : ∀ h' tk', Fr h₀ L h' m → News h₀ L h' news → Q (.bool b) { s with heap := h', toks := tk' }) : wpAny (model PySem.Challenge.pw_ij0186_01 w) A (compareOp .Lt (.ref i.a) (.ref j.a)) Q E s :=
  hc i j hi hj _ _ _ _ _ _ _ _ _ _ _ _ _ A h₀ L m s Q E news a1 a2 a3 a4 B F N hR X T K (fun h' tk' F' N' => hb ▸ h h' tk' F' N')
example : True := by
  (k_with "compareOp Lt ref ref" => (k_here; k_dflt (refine' cmp_is (show CmpOk _ _ _ _ by assumption) ?o1_h ?o2_h ?a1_h ?a2_h ?a3_h ?a4_h ?B_h ?F_h ?N_h ?hR_h ?X_h ?T_h ?K_h ?hb_h ?_; (case a1_h => rfl); (case a2_h => exact Nat.le_of_ble_eq_true rfl); (case a3_h => exact Nat.le_of_ble_eq_true rfl); (case a4_h => rfl); (case F_h => k_asm); (case B_h => k_asm); (case T_h => k_asm); (case K_h => first | assumption | exact rfl); (case N_h => k_asm); (case hR_h => exact fun p hp => .tail _ hp); (case X_h => k_asm); (case o1_h => walk_at "my_ok"); (case o2_h => walk_at "my_ok"); (case hb_h => assumption); k_whole; intro h'_q tk'_q F'_q N'_q; (try k_sweep))))
  trivial
theorem news_drop {h h' : Heap} {L : Addr} {p : Addr × Obj} {l : List (Addr × Obj)} (N : News h L h' (p :: l)) : News h L h' l := fun q hq => N q (.tail _ hq)
example : True := by
  (k_with "setItem ref int" => (k_here; k_dflt (refine' set_it ?F_h ?N_h ?U_h ?h1_h ?hf_h ?_; (case F_h => k_asm); (case U_h => exact Upd.head (by assumption)); (case N_h => exact news_drop (by k_asm)); (case h1_h => walk_at "my_idx"); (case hf_h => walk_at "my_idx"); k_whole; intro h'_q F'_q N'_q; (try k_sweep))))
  trivial
theorem pp_ff {lt : It → It → Bool} {l : List It} {i : It} (h : ¬ l.length = 0) (hb : lt l[0]! i = false) : hpushpop lt l i = (i, l) := by
  unfold hpushpop; rw [if_neg h, hb]; rfl
theorem pp_tt {lt : It → It → Bool} {l : List It} {i : It} (h : ¬ l.length = 0) (hb : lt l[0]! i = true) : hpushpop lt l i = (l[0]!, siftup lt (l.set 0 i)) := by
  unfold hpushpop; rw [if_neg h, hb]; rfl
theorem heappushpop_ctr (w : World) (R : List (Addr × Obj)) (lt : It → It → Bool) (ok : It → Prop) (hc : CmpOk w R lt ok) (hp : Addr) (hR : ∀ p ∈ R, p.1 ≠ hp) (e : Nat) (its : List It) (i : It) (hok : ∀ j ∈ its, ok j) (hi : ok i) (hlen : its.length ≤ 30) :
    Sat w 500 3000 72 [.ref hp, .ref i.a] ((hp, listOf (vals its).toArray e) :: R)
      (fun v news' => v = .ref (hpushpop lt its i).1.a ∧ news' = (hp, listOf (vals (hpushpop lt its i).2).toArray e) :: R) := by
  intro pp ll mean mg mb gd cn cs a ccd cl outer A₀ base h₀ L m s Q E B F X N T hk hret
  k_dflt (walk_at "my_enter")
  by_cases h1 : its.length = 0
  · repeat' walk_at "my_step"
    exact hret _ _ _ _ ⟨by unfold hpushpop; rw [if_pos h1], by unfold hpushpop; rw [if_pos h1]⟩ (by k_asm) (by k_asm)
  · have hl1 : 0 < its.length := by omega
    have hok' : ∀ j ∈ its.set 0 i, ok j := oks_set hok hi
    cases hb : lt its[0]! i
    · repeat' walk_at "my_step"
      exact hret _ _ _ _ ⟨by rw [pp_ff h1 hb], by rw [pp_ff h1 hb]⟩ (by k_asm) (by k_asm)
    · repeat' walk_at "my_step"
      exact hret _ _ _ _ ⟨by rw [pp_tt h1 hb]; rfl, by rw [pp_tt h1 hb]⟩ (by k_asm) (by k_asm)

end
end
section
example : True := by
  k_with_none
  trivial

example : True := by
  (k_with "my_binds" => first | exact BindsTo.of_eq rfl | exact binds_K (by k_in) rfl (by k_is) rfl rfl rfl | fail "k_enter: no rule for these arguments")
  (k_with "my_entered" => ((case kA => exact rfl); (case kF => exact rfl); (case kK => first | assumption | exact rfl); (case k1 => k_asm); (case k2 => k_asm); (case k3 => k_asm); (case k4 => k_asm); (case k5 => k_asm); (case k6 => k_is); (case k7 => k_is); (case k8 => k_room); (case k9 => walk_at "my_binds"); (case c5 => decide); (case kB => exact locs rfl); (case c2 => exact rfl); (case c3 => exact rfl); (case c4 => exact rfl); k_whole))
  (k_with "my_in" => (intro g'_q L'_q h'_q FG'_q F'_q N'_q B'_q X'_q T'_q; (dsimp only at F'_q ⊢); (try k_fold)))
  (k_with "my_enter1" => (refine wpAny_call ?_; refine' code_def1 ?k1 ?k2 ?k3 ?k4 ?k5 ?kA ?kF ?kK ?k6 ?k7 ?k8 ?k9 ?kB ?_ ?c2 ?c3 ?c4 ?c5; walk_at "my_entered"))
  (k_with "my_enter2" => (refine wpAny_call ?_; refine' code_def2 ?k1 ?k2 ?k3 ?k4 ?k5 ?kA ?kF ?kK ?k6 ?k7 ?k8 ?k9 ?kB ?_ ?c2 ?c3 ?c4 ?c5; walk_at "my_entered"))
  (k_with "my_enter3" => (refine wpAny_call ?_; refine' code_def3 ?k1 ?k2 ?k3 ?k4 ?k5 ?kA ?kF ?kK ?k6 ?k7 ?k8 ?k9 ?kB ?_ ?c2 ?c3 ?c4 ?c5; walk_at "my_entered"))
  (k_with "call ref" => (k_here; (with_reducible show wpAny _ _ (call (Value.ref _) [_]) _ _ _); k_dflt (walk_at "my_enter1"); walk_at "my_in"))
  (k_with "call ref" => (k_here; (with_reducible show wpAny _ _ (call (Value.ref _) [_, _]) _ _ _); k_dflt (walk_at "my_enter2"); walk_at "my_in"))
  (k_with "call ref" => (k_here; (with_reducible show wpAny _ _ (call (Value.ref _) [_, _, _]) _ _ _); k_dflt (walk_at "my_enter3"); walk_at "my_in"))
  (k_with "my_use" => ((case hh => rfl); (case hf => rfl); (case hg => rfl); (case hd => exact Nat.le_of_ble_eq_true rfl); (case hu => exact Nat.le_of_ble_eq_true rfl); (case B => k_asm); (case F => k_asm); (case X => k_asm); (case N => k_asm); (case T => k_asm); (case K => first | assumption | exact rfl)))
  (k_with "my_var" => first | assumption | exact if_pos rfl | (refine (if_neg (by decide)).trans ?_; walk_at "my_var") | rfl)
  (k_with "eval Name" => (k_here; k_dflt (refine' ld ?F_h ?v_h ?_; (case F_h => k_asm); (case v_h => walk_at "my_var"); k_whole)))
  (k_with "subscriptTail" => (k_here; (with_reducible show wpAny _ _ (subscriptTail _ (PySem.Expr.Slice (some _) (some _) none _) (Value.str _ _) (Value.ref _)) _ _ _); k_dflt (refine' cut_ss ?F_h ?N_h ?hsz_h ?_; (case F_h => k_asm); (case N_h => k_asm); (case hsz_h => walk_at "my_len"); k_whole; intro h'_q t'_q tk'_q F'_q N'_q)))
  (k_with "subscriptTail" => (k_here; (with_reducible show wpAny _ _ (subscriptTail _ (PySem.Expr.Slice none (some _) none _) (Value.str _ _) (Value.ref _)) _ _ _); k_dflt (refine' cut_ns ?F_h ?N_h ?hsz_h ?_; (case F_h => k_asm); (case N_h => k_asm); (case hsz_h => walk_at "my_len"); k_whole; intro h'_q t'_q tk'_q F'_q N'_q)))
  (k_with "subscriptTail" => (k_here; (with_reducible show wpAny _ _ (subscriptTail _ (PySem.Expr.Slice (some _) none none _) (Value.str _ _) (Value.ref _)) _ _ _); k_dflt (refine' cut_sn ?F_h ?N_h ?hsz_h ?_; (case F_h => k_asm); (case N_h => k_asm); (case hsz_h => walk_at "my_len"); k_whole; intro h'_q t'_q tk'_q F'_q N'_q)))
  (k_with "my_len" => first | omega | ((try simp only [Txt.len_slice_le]); size_fits))
  (k_with "execs cons" => (k_here; (with_reducible show wpAny _ _ (execs [_] _) _ _ _); with_reducible refine execs_one ?_))
  trivial
section
noncomputable abbrev ioObj (dx : Addr) : Obj := ⟨.ref 655, some dx, .plain, #[]⟩
noncomputable abbrev ioDict (g1 g2 g3 : Int) (k1 k2 k3 v1 v3 : Tok) (nl : Value) (B : Str) (p : Int) : Obj := dictOf [⟨g1, .str "_StringIO__newline" k1, nl⟩, ⟨g2, .str "_StringIO__buf" k2, .str B v1⟩, ⟨g3, .str "_StringIO__pos" k3, .int p v3⟩] 3
theorem index_ctr (w : World) (R : List (Addr × Obj)) (v : Value) (t1 : Tok) :
    Sat w 710 5100 121 [.int 1 t1, v] R (fun v news' => (∃ t, v = .int 1 t) ∧ news' = R) := by
  intro pp ll mean mg mb gd cn cs a ccd cl outer A₀ base h₀ L m s Q E B' F X N T hk hret
  k_dflt (walk_at "my_enter2"); walk_at "my_in"
  k_steps
  exact hret _ _ _ _ ⟨⟨_, rfl⟩, rfl⟩ (by k_asm) (by k_asm)
example : True := by
  (k_with "k_inst" => (refine' InstAt.of_news ?N_h ?h1_h ?h2_h; (case N_h => k_asm); (case h1_h => k_mem); (case h2_h => k_mem)))
  (k_with "call ref" => (k_here; k_dflt ((show wpAny _ _ (call (Value.ref 121) _) _ _ _); refine' Sat.useT (index_ctr _ _ _ _) ?hh ?hd ?hu ?hf ?hg ?B ?F ?X ?N ?T ?K ?_; walk_at "my_use"; k_whole; intro t'_q h'_q tk'_q F'_q N'_q; (try k_sweep))))
  (k_with "setAttr ref" => (k_here; k_dflt (refine' set_dict ?k1_h ?k2_h ?k3_h ?k4_h ?k5_h ?k6_h ?k7_h ?k8_h ?k9_h ?k10_h ?k11_h ?k12_h ?k13_h ?_; (case k1_h => k_asm); (case k2_h => k_asm); (case k3_h => k_asm); (case k4_h => k_inst); (case k5_h => exact rfl); (case k6_h => k_is); (case k7_h => k_is); (case k8_h => k_is); (case k9_h => k_is); (case k10_h => k_get); (case k11_h => k_put); (case k12_h => exact Upd.head (by assumption)); (case k13_h => exact Nat.le_of_ble_eq_true rfl); k_whole); intro h'_q F'_q N'_q; (try k_sweep)))
  trivial
theorem tx_len (l : List Nat) : (tx l).length = l.length := List.size_toArray
theorem read_val (l : List Nat) (p : Nat) (j : Int) (h : p < l.length) (hj : j = (p : Int) + 1) : Txt.slice (Txt.slice (tx l) (some (p : Int)) (some j) ++ Str.ofString " ") none (some (-1)) = tx [l[p]] := by
  subst hj
  exact read_one l p h
theorem read_ctr (w : World) (R : List (Addr × Obj)) (l : List Nat) (p : Nat) (hp : p < l.length) (hl : l.length ≤ 1000) (so dx : Addr) (g1 g2 g3 : Int) (k1 k2 k3 v1 v3: Tok) (nl : Value) (t1 : Tok)
    (hR : ∀ q ∈ (so, ioObj dx) :: R, q.1 ≠ dx) :
    Sat w 700 5000 601 [.ref so, .int 1 t1] ((dx, ioDict g1 g2 g3 k1 k2 k3 v1 v3 nl (tx l) p) :: (so, ioObj dx) :: R)
      (fun v news' => ∃ t t', v = .str (tx [l[p]]) t ∧ news' = (dx, ioDict g1 g2 g3 k1 k2 k3 v1 t' nl (tx l) (p + 1)) :: (so, ioObj dx) :: R) := by
  have hp1 : p < (tx l).length := (tx_len l).symm ▸ hp
  have hl1 : (tx l).length ≤ 1000 := (tx_len l).symm ▸ hl
  by_cases hlt : p + 1 < (tx l).length
  · intro pp ll mean mg mb gd cn cs a ccd cl outer A₀ base h₀ L m s Q E B' F X N T hk hret
    k_dflt (walk_at "my_enter2"); walk_at "my_in"
    k_steps
    rw [read_val l p _ hp rfl]
    exact hret _ _ _ _ ⟨_, _, rfl, rfl⟩ (by k_asm) (by k_asm)
  · have e : (p : Int) + 1 = ((tx l).length : Int) := by omega
    rw [e]
    intro pp ll mean mg mb gd cn cs a ccd cl outer A₀ base h₀ L m s Q E B' F X N T hk hret
    k_dflt (walk_at "my_enter2"); walk_at "my_in"
    k_steps
    rw [read_val l p _ hp e.symm]
    exact hret _ _ _ _ ⟨_, _, rfl, rfl⟩ (by k_asm) (by k_asm)
theorem read_eof (w : World) (R : List (Addr × Obj)) (l : List Nat) (p : Nat) (hp : p = l.length) (hl : l.length ≤ 1000) (so dx : Addr) (g1 g2 g3 : Int) (k1 k2 k3 v1 v3: Tok) (nl : Value) (t1 : Tok)
    (hR : ∀ q ∈ (so, ioObj dx) :: R, q.1 ≠ dx) :
    Sat w 700 5000 601 [.ref so, .int 1 t1] ((dx, ioDict g1 g2 g3 k1 k2 k3 v1 v3 nl (tx l) p) :: (so, ioObj dx) :: R)
      (fun v news' => ∃ t, v = .str (Str.ofString "") t ∧ news' = (dx, ioDict g1 g2 g3 k1 k2 k3 v1 v3 nl (tx l) p) :: (so, ioObj dx) :: R) := by
  have hp1 : p = (tx l).length := (tx_len l).symm ▸ hp
  have hl1 : (tx l).length ≤ 1000 := (tx_len l).symm ▸ hl
  intro pp ll mean mg mb gd cn cs a ccd cl outer A₀ base h₀ L m s Q E B' F X N T hk hret
  k_dflt (walk_at "my_enter2"); walk_at "my_in"
  k_steps
  exact hret _ _ _ _ ⟨_, rfl, rfl⟩ (by k_asm) (by k_asm)
theorem read_is (w : World) (R : List (Addr × Obj)) (l : List Nat) (p : Nat) (hp : p < l.length) (hl : l.length ≤ 1000) (so dx : Addr) (g1 g2 g3 : Int) (k1 k2 k3 v1 v3: Tok) (nl : Value) (t1 : Tok)
    (hR : ∀ q ∈ (so, ioObj dx) :: R, q.1 ≠ dx) (c : Str) (hc : tx [l[p]] = c) :
    Sat w 700 5000 601 [.ref so, .int 1 t1] ((dx, ioDict g1 g2 g3 k1 k2 k3 v1 v3 nl (tx l) p) :: (so, ioObj dx) :: R)
      (fun v news' => ∃ t t', v = .str c t ∧ news' = (dx, ioDict g1 g2 g3 k1 k2 k3 v1 t' nl (tx l) (p + 1 : Nat)) :: (so, ioObj dx) :: R) := by
  subst hc
  exact read_ctr w R l p hp hl so dx g1 g2 g3 k1 k2 k3 v1 v3 nl t1 hR

end
section
open PySem.Builtin
theorem noBool_deque : typeLookup (.type "collections.deque") "__bool__" = pure none := by rw [typeLookup_type, builtinLookup_eq_fast]; kernel_rfl
theorem slot_deque_len : Slot "collections.deque" "__len__" "collections.deque.__len__" :=
  .of (owner := "collections.deque") (n := "__len__") (by rw [typeLookup_type, builtinLookup_eq_fast]; kernel_rfl) (by decide +kernel) (by decide +kernel) (by decide +kernel)
    (by first | exact .inl (by decide +kernel) | exact .inr (by decide +kernel)) (by rw [isSubtype_type]; kernel_rfl)
theorem entry_deque_len : entryFor table "collections.deque.__len__" = some Builtin.«collections.deque.__len__» := by first | exact entryFor_of_fast (by kernel_rfl) | exact entryFor_of_tree (by kernel_rfl)
theorem args_deque_len (a : Value) : argsOk "collections.deque.__len__" ⟨[a], []⟩ := by unfold argsOk; kernel_rfl
noncomputable abbrev dqObj : Obj := { cls := .type "collections.deque", data := .fields #[.none, rawInt 0] }
section
variable {prog : Program} {w : World} {A : Around} {E : Value → Shared → Prop} {s : Shared}
theorem truthy_dq {l : Addr} {Q : Bool → Shared → Prop} (hl : s.heap.get? l = some dqObj) (h : ∀ k, Q false { s with toks := k }) : wpAny (model prog w) A (truthy (.ref l)) Q E s := by
  have ht : s.TypeIs (.ref l) "collections.deque" := ⟨_, hl, rfl⟩
  have body : wpAny (model prog w) A.in1 (Builtin.«len» ⟨[.ref l], []⟩) (fun fin s' => ∃ r, fin = .done (.ret r) ∧ ((∃ t, r = .int 0 t) ∧ Q false s')) E s := by
    unfold Builtin.«len»
    refine wpAny_bind (m := oneArg "len" _) (wpAny_pure ?_)
    refine wpAny_bind (m := callSpecial? (.ref l) (Str.ofString "__len__")) (wpAny_callSpecial?_slot (name := Str.ofString "__len__") ht slot_deque_len
      (wpAny_call_entry slot_deque_len ht entry_deque_len ?_ (args_deque_len _)))
    show wpAny _ _ (do retInt (← Deque.size (Value.ref l))) _ _ s
    unfold Deque.size fieldsOf
    refine wpAny_bind (wpAny_bind (wpAny_bind (wpAny_load hl ?_)))
    refine wpAny_pure (wpAny_pure ?_)
    refine wpAny_bind (wpAny_mkInt (wpAny_pure ⟨_, rfl, ?_⟩))
    refine wpAny_bind (wpAny_holding (wpAny_pure ?_))
    refine wpAny_bind (wpAny_letGo ?_)
    show wpAny _ _ (if (((0 : Nat) : Nat) : Int) < 0 then _ else _) _ _ _
    rw [if_neg (by omega)]
    show wpAny _ _ (if (((0 : Nat) : Nat) : Int) ≥ 2 ^ 63 then _ else _) _ _ _
    rw [if_neg (by omega)]
    exact wpAny_bind (wpAny_mkInt (wpAny_pure ⟨_, rfl, ⟨_, rfl⟩, h _⟩))
  have key : wpAny (model prog w) A (runValue (.builtin "len" ⟨[.ref l], []⟩)) (fun r s' => (∃ t, r = .int 0 t) ∧ Q false s') E s := by
    refine wpAny_runValue (codeAny_builtin entry_len ?_)
    rw [Around.under_plainId plain_len _]
    exact wpAny_mono body (fun fin s' h' => by obtain ⟨r, rfl, hq⟩ := h'; exact hq) fun _ _ e => e
  unfold truthy
  first
    | refine wpAny_bind (wpAny_callSpecial?_none (name := Str.ofString "__bool__") ht noBool_deque ?_)
    | refine wpAny_bind (wpAny_pure (wpAny_bind (wpAny_callSpecial?_none (name := Str.ofString "__bool__") ht noBool_deque ?_)))
  first
    | refine wpAny_bind (wpAny_specialOf (name := Str.ofString "__len__") ht slot_deque_len.lookup ?_)
    | refine wpAny_bind (wpAny_pure (wpAny_bind (wpAny_specialOf (name := Str.ofString "__len__") ht slot_deque_len.lookup ?_)))
  first
    | exact wpAny_bind (wpAny_mono key (fun r s' h' => by obtain ⟨⟨t, rfl⟩, hq⟩ := h'; exact wpAny_pure hq) fun _ _ e => e)
    | exact wpAny_bind (wpAny_pure (wpAny_bind (wpAny_mono key (fun r s' h' => by obtain ⟨⟨t, rfl⟩, hq⟩ := h'; exact wpAny_pure hq) fun _ _ e => e)))
end

end
end
section
example : True := by
  k_with_none
  trivial
section
open PySem.W.X
section
variable {α β : Type} {prog : Program} {w : World} {A : Around} {c : Code} {Q : α → Shared → Prop} {E : Value → Shared → Prop} {s : Shared} {h₀ h : Heap} {chg chg' news news' : List (Addr × Obj)} {g : Array GenState} {d : Drawn} {t : Nat} {os : OsState}
theorem sb_grow2 {K : Frag} {a : Addr} {q : Option Value} {f : Obj → Obj} {k : Unit → Sem α} {c₀ : Addr} {more vs : Array Value} {oc : Obj} (X : K.In h₀) (D : Mem h₀ h chg news) (hw : away chg a = true) (e1 : K.lookup c₀ = some oc) (e2 : oc = { oc with cls := .type "code", data := .fields vs }) (e3 : vs[11]? = some (.ref a)) (e4 : h₀.get? a = some (tableObj #[])) (hn : f (tableObj #[]) = tableObj more)
    (x : ∀ h', Mem h₀ h' ((a, tableObj more) :: chg) news → wpAny (model prog w) A (k ()) Q E ⟨h', g, d, t, os⟩) : wpAny (model prog w) A (.update a q f k) Q E ⟨h, g, d, t, os⟩ := by
  have e : (#[] : Array Value) ++ more = more := by simp
  refine sb_grow (ps := #[]) (more := more) D (table_at (X _ _ e1) e2 e3 e4 rfl) hw ?_ (by rw [e]; exact hn) (by rw [e]; exact x)
  exact D.old _ _ e4 (by rw [hw, Bool.or_true])
theorem sb_to {t t' : Sem α} (e : t = t') (h : wpAny (model prog w) A t' Q E s) : wpAny (model prog w) A t Q E s := e ▸ h
end
theorem or_lr {x y z : Bool} (h : y = true) : ((x || y) || z) = true := by subst h; cases x <;> rfl
theorem fq_object : Fast.findQ "object" = some Manifest.ty_object := by kernel_rfl
theorem id_obj : PySem.W.XFast.xw10133417225327028743 (Str.ofString "obj") = some true := by decide +kernel
theorem filt_self {d : (a b : Value) → Decidable (a = b)} (v : Value) (l : List Value) : List.filter (fun x => @bne Value (@instBEqOfDecidableEq Value d) x v) (v :: l) = List.filter (fun x => @bne Value (@instBEqOfDecidableEq Value d) x v) l := by simp
theorem sb_allocT {α : Type} {prog : Program} {w : World} {A : Around} {Q : α → Shared → Prop} {E : Value → Shared → Prop} {h₀ h : Heap} {chg news : List (Addr × Obj)} {g : Array GenState} {d : Drawn} {t : Nat} {os : OsState} {o : Obj} {k : Addr → Sem α} (o' : Obj) (ho : o = o') (D : Mem h₀ h chg news) (hf : o'.isFreed = false)
    (x : ∀ a h', Mem h₀ h' chg ((a, o') :: news) → wpAny (model prog w) A (k a) Q E ⟨h', g, d, t, os⟩) : wpAny (model prog w) A (.alloc o k) Q E ⟨h, g, d, t, os⟩ := by
  subst ho
  exact sb_alloc D hf x
theorem mb_object : PySem.W.XFast.xw6838149247815620303 (Value.type "object") = pure (some "object.__new__") := by
  rw [← PySem.W.XFast.xe6838149247815620303]
  exact madeBy_type (c := .type "object") (tl := []) (by kernel_rfl) (by kernel_rfl) (by decide +kernel)
theorem mb_objH {v : Value} (h : v = Value.type "object") : PySem.W.XFast.xw6838149247815620303 v = pure (some "object.__new__") := by
  subst h; exact mb_object
noncomputable abbrev hashX (w : World) (s : String) : Int := PySem.W.XFast.xw12210062019545310541 (w.params.strHash (Str.ofString s).cps)
theorem cont_self {d : (a b : Value) → Decidable (a = b)} (v : Value) (l : List Value) : @List.contains Value (@instBEqOfDecidableEq Value d) (v :: l) v = true := by simp
theorem beq_self {d : (a b : Value) → Decidable (a = b)} (v : Value) : (@BEq.beq Value (@instBEqOfDecidableEq Value d) v v) = true := by simp
theorem bne_self {d : (a b : Value) → Decidable (a = b)} (v : Value) : (@bne Value (@instBEqOfDecidableEq Value d) v v) = false := by simp
theorem drop_self {d : (a b : Value) → Decidable (a = b)} (v : Value) (l : List Value) : List.drop 1 (List.dropWhile (fun x => @bne Value (@instBEqOfDecidableEq Value d) x v) (v :: l)) = l := by simp
theorem sb_forL {α β : Type} {prog : Program} {w : World} {A : Around} {Q : α → Shared → Prop} {E : Value → Shared → Prop} {s : Shared} {xs ys : List β} {b : α} {f : β → α → Sem (ForInStep α)} (e : xs = ys) (x : wpAny (model prog w) A (forIn ys b f) Q E s) : wpAny (model prog w) A (forIn xs b f) Q E s := by subst e; exact x
theorem own_obj {s : String} {c : Char} (h : s = "object.__init_subclass__") (hc : c = '.') : ".".intercalate (PySem.W.XFast.xw8572300776623958308 s c).dropLast = "object" := by
  subst h; subst hc; decide +kernel
theorem beqH {d : (a b : Value) → Decidable (a = b)} {x y : Value} (h : x = y) : (@BEq.beq Value (@instBEqOfDecidableEq Value d) x y) = true := by subst h; simp
theorem ncont_two {d : (a b : Value) → Decidable (a = b)} (u v : Value) : (!@List.contains Value (@instBEqOfDecidableEq Value d) [u, v] v) = false := by simp
theorem sis {z : String} (h : z = "__init_subclass__") : toString "object" ++ toString "." ++ toString z = "object.__init_subclass__" := by
  subst h; decide +kernel
theorem sb_codeE {prog : Program} {w : World} {A : Around} {s : Shared} {R : Result → Shared → Prop} {id : String} {args : Args} {b b' : Builtin} (hb : entryFor table id = some b) (e : b = b')
    (x : wpAny (model prog w) (A.under (.builtin id args)) (b' args) (postC prog w A R) (postE R) s) : codeAny (model prog w) A (.builtin id args) R s := by
  subst e
  refine codeAny_builtin hb (wpAny_mono x (fun fin s' z => ?_) fun _ _ z => z)
  cases fin <;> exact z
theorem mem_comp {h₀ h h' : Heap} {chg news nw : List (Addr × Obj)} (D : Mem h₀ h chg news) (E : Mem h h' [] nw) : Mem h₀ h' chg news :=
  have k : ∀ b o, h.get? b = some o → h'.get? b = some o := fun b o e => E.keep b o e (by rw [show away [] b = true from rfl, Bool.or_true])
  ⟨fun b o e q => k _ _ (D.keep b o e q), fun p hp => ⟨k _ _ (D.ch p hp).1, (D.ch p hp).2⟩, D.cd, fun p hp => ⟨k _ _ (D.nw p hp).1, (D.nw p hp).2⟩, D.ord⟩
theorem sb_callE {α : Type} {prog : Program} {w : World} {A : Around} {Q : α → Shared → Prop} {E : Value → Shared → Prop} {s : Shared} {c' : Code} (c'' : Code) {hd : Option Value} {gd : Bool} {l : List Value} {k : Result → Sem α} (e : c' = c'') (hnb : hd ≠ some byPass)
    (x : codeAny (model prog w) (A.mark hd) c'' (postA prog w A Q E k) s) : wpAny (model prog w) A (.call c' hd gd l k) Q E s := by
  subst e; exact sb_call hnb x
theorem in_of_mem {K : Frag} {h h' : Heap} {P : Addr} {o' : Obj} {ps : Array Value} {nw : List (Addr × Obj)} (X : K.In h) (hK : noTabs K = true) (hT : h.get? P = some (tabObj ps)) (D : Mem h h' [(P, o')] nw) : K.In h' := fun a o e => by
  refine D.keep a o (X a o e) ?_
  by_cases q : a = P
  · subst q
    have z := X a o e
    rw [hT] at z
    cases z
    have h2 := List.all_eq_true.mp hK (a, tabObj ps) (mem_of_lookupK e)
    exact absurd (show false = true from h2) Bool.false_ne_true
  · have hb : Nat.beq P a = false := by
      cases hb : Nat.beq P a with
      | false => rfl
      | true => exact absurd (Nat.eq_of_beq_eq_true hb).symm q
    have : away [(P, o')] a = true := by
      show (!(Nat.beq P a) && true) = true
      rw [hb]; rfl
    rw [this, Bool.or_true]
theorem ncont_self {d : (a b : Value) → Decidable (a = b)} (v : Value) (l : List Value) : (!@List.contains Value (@instBEqOfDecidableEq Value d) (v :: l) v) = false := by simp

end
section
open PySem.W.X
noncomputable def bad {α : Type} : Sem α := .unsupported ""
/-- what a step meets in the tree, beside what it was said to meet -/
inductive Cl | no | ad (a : Addr) | ob (a : Addr) (o : Obj)
/-- a single step: a mark, a fresh token, the setting, a load of the ledger's row i, of the fact j, an object made, the ledger's row i changed -/
inductive Ev | u | tk | st | l (i : Nat) | f (j : Nat) | a (o : Obj) | p (i : Nat) (o : Obj)
section
variable {α : Type}
noncomputable abbrev VT (α : Type) : Type := Option (Unit → Sem α) × Option (Tok → Sem α) × Option (Setting → Sem α) × Option (Addr × (Obj → Sem α)) × Option (Obj × (Addr → Sem α)) × Option (Addr × (Obj → Obj) × (Unit → Sem α)) × Option α
/-- what stands at the tree's top -/
noncomputable def vw : Sem α → VT α
  | .rule _ c => ⟨some c, none, none, none, none, none, none⟩
  | .at _ c => ⟨some c, none, none, none, none, none, none⟩
  | .point _ c => ⟨some c, none, none, none, none, none, none⟩
  | .fresh c => ⟨none, some c, none, none, none, none, none⟩
  | .ask c => ⟨none, none, some c, none, none, none, none⟩
  | .load b _ c => ⟨none, none, none, some (b, c), none, none, none⟩
  | .alloc o c => ⟨none, none, none, none, some (o, c), none, none⟩
  | .update b _ f c => ⟨none, none, none, none, none, some (b, f, c), none⟩
  | .pure v => ⟨none, none, none, none, none, none, some v⟩
  | _ => ⟨none, none, none, none, none, none, none⟩
noncomputable abbrev uO (t : Sem α) : Option (Unit → Sem α) := (vw t).1
noncomputable abbrev tkO (t : Sem α) : Option (Tok → Sem α) := (vw t).2.1
noncomputable abbrev stO (t : Sem α) : Option (Setting → Sem α) := (vw t).2.2.1
noncomputable abbrev ldO (t : Sem α) : Option (Addr × (Obj → Sem α)) := (vw t).2.2.2.1
noncomputable abbrev alO (t : Sem α) : Option (Obj × (Addr → Sem α)) := (vw t).2.2.2.2.1
noncomputable abbrev upO (t : Sem α) : Option (Addr × (Obj → Obj) × (Unit → Sem α)) := (vw t).2.2.2.2.2.1
noncomputable abbrev pO (t : Sem α) : Option α := (vw t).2.2.2.2.2.2
theorem no_is {β : Type} {P : β → Prop} : ∀ c, (none : Option β) = some c → P c := fun c e => absurd e.symm (Option.some_ne_none c)
theorem so_is {β : Type} {P : β → Prop} {b : β} (h : P b) : ∀ c, some b = some c → P c := fun _ e => Option.some.inj e ▸ h
noncomputable def exS (st : Setting) (as : Nat → Addr) (fs : List (Addr × Obj)) (e : Ev) (k : Nat) (n : Tok) (t : Sem α) (led : List (Addr × Obj)) : Option ((Cl × Cl) × Nat × Tok × Sem α × List (Addr × Obj)) := match e with
  | .u => (uO t).map fun c => ((.no, .no), k, n, c (), led)
  | .tk => (tkO t).map fun c => ((.no, .no), k, n + 1, c n, led)
  | .st => (stO t).map fun c => ((.no, .no), k, n, c st, led)
  | .l i => (ldO t).bind fun p => (led[i]?).map fun r => ((.ad p.1, .ad r.1), k, n, p.2 r.2, led)
  | .f j => (ldO t).bind fun p => (fs[j]?).map fun r => ((.ad p.1, .ad r.1), k, n, p.2 r.2, led)
  | .a o' => (alO t).bind fun p => bif o'.isFreed then none else some ((.ob 0 p.1, .ob 0 o'), k + 1, n, p.2 (as k), (as k, o') :: led)
  | .p i o' => (upO t).bind fun p => (led[i]?).bind fun r => bif o'.isFreed then none else some ((.ob p.1 (p.2.1 r.2), .ob r.1 o'), k, n, p.2.2 (), led.set i (r.1, o'))
noncomputable def ex (st : Setting) (as : Nat → Addr) (fs : List (Addr × Obj)) : List ((Nat → Addr) → Ev) → Nat → Tok → Sem α → List (Addr × Obj) → Option (List (Cl × Cl) × Tok × Sem α × List (Addr × Obj))
  | [], _, n, t, led => some ([], n, t, led)
  | e :: es, k, n, t, led => match exS st as fs (e as) k n t led with
    | none => none
    | some (c, k', n', t', led') => match ex st as fs es k' n' t' led' with
      | none => none
      | some (cs, r) => some (c :: cs, r)
variable {prog : Program} {w : World} {A : Around} {Q : α → Shared → Prop} {E : Value → Shared → Prop} {h₀ : Heap} {chg : List (Addr × Obj)} {g : Array GenState} {d : Drawn} {os : OsState}
noncomputable def FactsOk (h₀ : Heap) (chg fs : List (Addr × Obj)) : Prop := ∀ p ∈ fs, h₀.get? p.1 = some p.2 ∧ (hasCls p.2 || away chg p.1) = true
theorem fo_nil : FactsOk h₀ chg [] := fun _ h => absurd h List.not_mem_nil
theorem fo_cons {a : Addr} {o : Obj} {fs : List (Addr × Obj)} (e : h₀.get? a = some o) (q : (hasCls o || away chg a) = true) (r : FactsOk h₀ chg fs) : FactsOk h₀ chg ((a, o) :: fs) := List.forall_mem_cons.mpr ⟨⟨e, q⟩, r⟩
theorem vw_is (t : Sem α) : (∀ c, uO t = some c → ∀ s, wpAny (model prog w) A (c ()) Q E s → wpAny (model prog w) A t Q E s) ∧ (∀ c, tkO t = some c → t = .fresh c) ∧ (∀ c, stO t = some c → t = .ask c) ∧ (∀ c, ldO t = some c → ∃ q, t = .load c.1 q c.2) ∧ (∀ c, alO t = some c → t = .alloc c.1 c.2) ∧ (∀ c, upO t = some c → ∃ q, t = .update c.1 q c.2.1 c.2.2) := by
  cases t with
  | rule tag q => exact ⟨so_is fun _ x => sb_rule x, no_is, no_is, no_is, no_is, no_is⟩
  | «at» p q => exact ⟨so_is fun _ x => sb_at x, no_is, no_is, no_is, no_is, no_is⟩
  | point l q => exact ⟨so_is fun _ x => sb_point x, no_is, no_is, no_is, no_is, no_is⟩
  | fresh q => exact ⟨no_is, so_is rfl, no_is, no_is, no_is, no_is⟩
  | ask q => exact ⟨no_is, no_is, so_is rfl, no_is, no_is, no_is⟩
  | load b q k => exact ⟨no_is, no_is, no_is, so_is ⟨_, rfl⟩, no_is, no_is⟩
  | alloc o k => exact ⟨no_is, no_is, no_is, no_is, so_is rfl, no_is⟩
  | update b q f k => exact ⟨no_is, no_is, no_is, no_is, no_is, so_is ⟨_, rfl⟩⟩
  | pure v => exact ⟨no_is, no_is, no_is, no_is, no_is, no_is⟩
  | _ => exact ⟨no_is, no_is, no_is, no_is, no_is, no_is⟩
theorem nf_is {β : Type} {b : Bool} {x : β} {y : β} (e : (bif b then none else some x) = some y) : b = false ∧ x = y := by
  cases b with
  | false => exact ⟨rfl, Option.some.inj e⟩
  | true => cases e
theorem ex_sound {base : Nat} {fs : List (Addr × Obj)} (hf : FactsOk h₀ chg fs) : ∀ (es : List ((Nat → Addr) → Ev)) (k : Nat) (n : Tok) (t : Sem α) (led : List (Addr × Obj)) (h : Heap) (r : List (Cl × Cl) × Tok × Sem α × List (Addr × Obj)),
    h.objs.size = base + k → Mem h₀ h chg led → ex ⟨prog, w.params⟩ (fun i => base + i) fs es k n t led = some r → r.1.map (·.1) = r.1.map (·.2) →
    (∀ h', Mem h₀ h' chg r.2.2.2 → wpAny (model prog w) A r.2.2.1 Q E ⟨h', g, d, r.2.1, os⟩) → wpAny (model prog w) A t Q E ⟨h, g, d, n, os⟩ := by
  intro es
  induction es with
  | nil => intro k n t led h r _ D e _ x; cases e; exact x h D
  | cons ev es ih =>
    intro k n t led h r hs D e hc x
    unfold ex at e
    cases e1 : exS ⟨prog, w.params⟩ (fun i => base + i) fs (ev fun i => base + i) k n t led with
    | none => rw [e1] at e; cases e
    | some y =>
    obtain ⟨c, k', n', t', l'⟩ := y
    rw [e1] at e
    dsimp only at e
    cases e2 : ex ⟨prog, w.params⟩ (fun i => base + i) fs es k' n' t' l' with
    | none => rw [e2] at e; cases e
    | some r' =>
    rw [e2] at e
    cases e
    obtain ⟨hc1, hc2⟩ := List.cons.inj hc
    have go := fun hp a b => ih k' n' t' l' hp r' a b e2 hc2 x
    clear e2 ih x hc
    generalize (ev fun i => base + i) = ev at e1
    replace e1 : exS ⟨prog, w.params⟩ (fun i => base + i) fs ev k n t led = some (c, k', n', t', l') := e1
    generalize hy : (c, k', n', t', l') = y at e1
    have hc1 : y.1.1 = y.1.2 := by rw [← hy]; exact hc1
    replace go : ∀ hp, hp.objs.size = base + y.2.1 → Mem h₀ hp chg y.2.2.2.2 → wpAny (model prog w) A y.2.2.2.1 Q E ⟨hp, g, d, y.2.2.1, os⟩ := by rw [← hy]; exact go
    clear hy
    have W := vw_is (prog := prog) (w := w) (A := A) (Q := Q) (E := E) t
    cases ev with
    | u =>
      obtain ⟨c, z, rfl⟩ := Option.map_eq_some_iff.mp e1
      exact W.1 _ z _ (go h hs D)
    | tk =>
      obtain ⟨c, z, rfl⟩ := Option.map_eq_some_iff.mp e1
      rw [W.2.1 _ z]; exact sb_fresh (go h hs D)
    | st =>
      obtain ⟨c, z, rfl⟩ := Option.map_eq_some_iff.mp e1
      rw [W.2.2.1 _ z]; exact sb_ask (go h hs D)
    | l i =>
      obtain ⟨c, z, e1⟩ := Option.bind_eq_some_iff.mp e1
      obtain ⟨r, z2, rfl⟩ := Option.map_eq_some_iff.mp e1
      obtain ⟨q, z⟩ := W.2.2.2.1 _ z
      rw [z]
      exact sb_load (D.at i _ r.2 (by rw [z2, Cl.ad.inj hc1])) (go h hs D)
    | f j =>
      obtain ⟨c, z, e1⟩ := Option.bind_eq_some_iff.mp e1
      obtain ⟨r, z2, rfl⟩ := Option.map_eq_some_iff.mp e1
      obtain ⟨q, z⟩ := W.2.2.2.1 _ z
      rw [z]
      have zz := hf r (List.mem_of_getElem? z2)
      exact sb_load (D.old _ r.2 (by rw [Cl.ad.inj hc1]; exact zz.1) (by rw [Cl.ad.inj hc1]; exact zz.2)) (go h hs D)
    | a o' =>
      obtain ⟨c, z, e1⟩ := Option.bind_eq_some_iff.mp e1
      obtain ⟨z2, rfl⟩ := nf_is e1
      rw [W.2.2.2.2.1 _ z, (Cl.ob.inj hc1).2]
      refine wpAny_bind (m := alloc o') (f := c.2) (wpAny_alloc ?_)
      dsimp only
      rw [hs]
      refine go _ ?_ ?_
      · rw [Heap.size_push, hs, Nat.add_assoc]
      · have := D.alloc z2; rw [hs] at this; exact this
    | p i o' =>
      obtain ⟨c, z, e1⟩ := Option.bind_eq_some_iff.mp e1
      obtain ⟨r, z2, e1⟩ := Option.bind_eq_some_iff.mp e1
      obtain ⟨z3, rfl⟩ := nf_is e1
      obtain ⟨q, z⟩ := W.2.2.2.2.2 _ z
      obtain ⟨hc0, hc1⟩ := Cl.ob.inj hc1
      rw [z, hc0]
      have z4 : (c.2.1 r.2).isFreed = false := by rw [hc1]; exact z3
      exact wpAny_bind (m := updatePart r.1 q c.2.1) (f := c.2.2) (wpAny_updatePart (D.at i _ _ z2) (go _ (by rw [Heap.size_update]; exact hs) (by rw [← hc1]; exact D.update z2 z4)))
noncomputable def exT (r : Option (List (Cl × Cl) × Tok × Sem α × List (Addr × Obj))) : Sem α := match r with
  | some x => x.2.2.1
  | none => bad
noncomputable def exL (r : Option (List (Cl × Cl) × Tok × Sem α × List (Addr × Obj))) : List (Addr × Obj) := match r with
  | some x => x.2.2.2
  | none => []
noncomputable def exA (r : Option (List (Cl × Cl) × Tok × Sem α × List (Addr × Obj))) : Option (List Cl × Tok) := match r with
  | some x => some (x.1.map (·.1), x.2.1)
  | none => none
noncomputable def exC (r : Option (List (Cl × Cl) × Tok × Sem α × List (Addr × Obj))) : List Cl := match r with
  | some x => x.1.map (·.2)
  | none => []
/-- the steps es from the tree t: once checked for all addresses, they hold -/
theorem sf_run {h : Heap} {led : List (Addr × Obj)} {n : Tok} {t : Sem α} (fs : List (Addr × Obj)) (es : List ((Nat → Addr) → Ev)) (N : Tok) (D : Mem h₀ h chg led) (hf : FactsOk h₀ chg fs)
    (hc : ∀ as : Nat → Addr, exA (ex ⟨prog, w.params⟩ as fs es 0 n t led) = some (exC (ex ⟨prog, w.params⟩ as fs es 0 n t led), N))
    (x : ∀ (as : Nat → Addr) (h' : Heap), let r := ex ⟨prog, w.params⟩ as fs es 0 n t led; let nw := exL r; let t' := exT r; Mem h₀ h' chg nw → wpAny (model prog w) A t' Q E ⟨h', g, d, N, os⟩) : wpAny (model prog w) A t Q E ⟨h, g, d, n, os⟩ := by
  have c := hc fun i => h.objs.size + i
  have y := x fun i => h.objs.size + i
  dsimp only at y
  cases e : ex ⟨prog, w.params⟩ (fun i => h.objs.size + i) fs es 0 n t led with
  | none => rw [e] at c; cases c
  | some r =>
    obtain ⟨cs, N', T, led'⟩ := r
    rw [e] at c y
    have c1 : cs.map (·.1) = cs.map (·.2) ∧ N' = N := by
      injection c with c; injection c with c1 c2; exact ⟨c1, c2⟩
    obtain ⟨c1, rfl⟩ := c1
    exact ex_sound hf es 0 n t led h (cs, N', T, led') rfl D e c1 y
theorem pO_is {t : Sem α} {v : α} (e : pO t = some v) : t = .pure v := by
  cases t with
  | pure a => exact congrArg Sem.pure (Option.some.inj e)
  | _ => exact absurd e.symm (Option.some_ne_none v)
theorem sf_pure {s : Shared} {t : Sem α} (v : α) (e : pO t = some v) (x : Q v s) : wpAny (model prog w) A t Q E s := by
  rw [pO_is e]
  exact sb_endv x
theorem sf_done {s : Shared} {A' : Around} {R : Result → Shared → Prop} {t : Sem PySem.Fin} (f : Flow) (e : pO t = some (.done f)) (x : R (.ok f) s) : wpAny (model prog w) A' t (postC prog w A R) E s := by
  rw [pO_is e]
  exact sb_done x
@[irreducible] noncomputable def tob (w : World) (a : Addr) : Obj := ((hd.heap_1 w.params).lookup a).getD default
theorem tob_at {h : Heap} {a : Addr} (X : (hd.heap_1 w.params).In h) (e : ((hd.heap_1 w.params).lookup a).isSome = true) : h.get? a = some (tob w a) := by
  cases k : (hd.heap_1 w.params).lookup a with
  | none => rw [k] at e; cases e
  | some o =>
    have z : tob w a = o := by unfold tob; rw [k]; rfl
    rw [z]
    exact X a o k
end
theorem sb_codeR {prog : Program} {w : World} {A : Around} {c : Code} {s : Shared} {R : Result → Shared → Prop} (x : wpAny (model prog w) (A.under c) (denote table c) (postC prog w A R) (postE R) s) : codeAny (model prog w) A c R s := y_code _ _ _ _ _ _ (wpOwn_of_wpAny x)
theorem sb_codeB {prog : Program} {w : World} {A : Around} {id : String} {args : Args} {s : Shared} {R : Result → Shared → Prop} (b : Builtin) (hb : entryFor table id = some b) (x : wpAny (model prog w) (A.under (.builtin id args)) (b args) (postC prog w A R) (postE R) s) : codeAny (model prog w) A (.builtin id args) R s := sb_codeR (by
  show wpAny _ _ (match entryFor table id with | some b => b args | none => PySem.unsupported ((withoutEnding? id "#data").getD id)) _ _ s
  rw [hb]; exact x)
noncomputable abbrev hashR (w : World) (s : String) : Int := reduceHash (w.params.strHash (Str.ofString s).cps)
theorem sf_again {prog : Program} {w : World} {A A' : Around} {E : Value → Shared → Prop} {s : Shared} {R : Result → Shared → Prop} {t : Sem PySem.Fin} (c' : Code) (e : againOf t = some c') (hq : c'.quiet = true) (x : codeAny (model prog w) A c' R s) : wpAny (model prog w) A' t (postC prog w A R) E s := by
  rw [againOf_eq e]
  exact sb_again hq x

end
section
open PySem.W.X
section
variable {s h₀ h' : Heap} {L : Addr} {m : Str → Option Value} {l nw : List (Addr × Obj)}
theorem mem_keeps (D : Mem s h' [] nw) : ∀ b o, s.get? b = some o → h'.get? b = some o := fun b o e => D.keep b o e (by rw [show away [] b = true from rfl, Bool.or_true])
theorem mem_fr (D : Mem s h' [] nw) (F : Fr h₀ L s m) : Fr h₀ L h' m := ⟨F.ns.keeps (mem_keeps D), fun b o e => mem_keeps D b o (F.keep b o e), F.above⟩
theorem mem_news (D : Mem s h' [] nw) (F : Fr h₀ L s m) (N : News h₀ L s l) : News h₀ L h' (nw ++ l) := fun p hp => by
  rcases List.mem_append.mp hp with hp | hp
  · obtain ⟨z1, z2⟩ := D.nw p hp
    refine ⟨z1, fun q => ?_, ?_⟩
    · obtain ⟨o, _, _, e, _⟩ := F.ns
      rw [← q, z2] at e; cases e
    · cases q : h₀.get? p.1 with
      | none => rfl
      | some o => rw [F.keep _ _ q] at z2; cases z2
  · obtain ⟨z1, z2, z3⟩ := N p hp
    exact ⟨mem_keeps D _ _ z1, z2, z3⟩
theorem mem_ne (D : Mem s h' [] nw) {p q : Addr × Obj} (N : News h₀ L s l) (hp : p ∈ nw) (hq : q ∈ l) : p.1 ≠ q.1 := fun e => by
  have z := (D.nw p hp).2
  rw [e, (N q hq).1] at z; cases z
end
theorem weaken3 {prog : Program} {w : World} {α : Type} {A A' : Around} {t : Sem α} {Q : α → Shared → Prop} {E : Value → Shared → Prop} {s : Shared} (hh : A.handled = A'.handled) (hd : A.depth ≤ A'.depth) (hu : A.units ≤ A'.units)
    (hf : A'.frames = A.frames) (hg : A'.guards = none) (h : wpAny (model prog w) A' t Q E s) : wpAny (model prog w) A t Q E s :=
  fun Γ p hΓ => h Γ p ⟨hΓ.1.trans hh, Nat.le_trans hΓ.2.1 hd, fun l hl => hΓ.2.2.1 l (hf ▸ hl), fun g hl => (by rw [hg] at hl; cases hl), Nat.le_trans hΓ.2.2.2.2 hu⟩
noncomputable abbrev Amax (fr : List Env) : Around := { handled := none, depth := 900, frames := some fr, guards := none, units := 8000 }
theorem mkdq_x (w : World) (fr : List Env) (s : Shared) (X : (hd.heap_1 w.params).In s.heap) :
    wpAny (model PySem.Challenge.pw_ij0186_01 w) (Amax fr) (call (.type "collections.deque") []) (fun v s' => ∃ (a : Addr) (h' : Heap) (nw : List (Addr × Obj)) (tk' : Nat), v = .ref a ∧ s' = { s with heap := h', toks := tk' } ∧ Mem s.heap h' [] nw ∧ (a, dqObj) ∈ nw) (fun _ _ => False) s := by
  have D := Mem.start s.heap
  obtain ⟨h, g, d, t0, os⟩ := s
  refine sb_callP (PySem.Code.call (Value.type "collections.deque") (PySem.Args.mk [] [])) (by kernel_rfl) ?_
  refine sb_codeR ?_
  refine sf_again (PySem.Code.builtin "type.__call__" (PySem.Args.mk [(Value.type "collections.deque")] [])) (by kernel_rfl) (by first | rfl | exact PySem.Code.quiet_builtin _ (by decide +kernel)) ?_
  refine sb_codeB Builtin.«type.__call__» (entryFor_of_tree (by kernel_rfl)) ?_
  refine sb_callP (PySem.Code.call (Value.builtin "collections.deque.__new__") (PySem.Args.mk [(Value.type "collections.deque")] [])) (by kernel_rfl) ?_
  refine sb_codeR ?_
  refine sf_again (PySem.Code.builtin "collections.deque.__new__" (PySem.Args.mk [(Value.type "collections.deque")] [])) (by kernel_rfl) (by first | rfl | exact PySem.Code.quiet_builtin _ (by decide +kernel)) ?_
  refine sb_codeB Builtin.«collections.deque.__new__» (entryFor_of_tree (by kernel_rfl)) ?_
  refine sf_run [] [fun as => .a (Obj.mk (Value.type "collections.deque") none (PySem.Data.fields #[Value.none, (Value.int (0 : Int) 0)]) #[])] t0 D fo_nil (fun as => by kernel_rfl) ?_; intro as1 h1_ r1_ w1_ t1_ D1_
  refine sf_done (PySem.Flow.ret (Value.ref (as1 0))) (by kernel_rfl) ?_
  refine sb_ret ?_
  refine sf_run [] [fun _ => .l 0, fun _ => .l 0] t0 D1_ fo_nil (fun as => by kernel_rfl) ?_; intro as2 h2_ r2_ w2_ t2_ D2_
  refine sb_callP (Code.call (Value.builtin "collections.deque.__init__") ⟨[.ref (as1 0)], []⟩) (by kernel_rfl) ?_
  refine sb_codeR ?_
  refine sf_run [] [fun _ => .l 0] t0 D2_ fo_nil (fun as => by kernel_rfl) ?_; intro as3 h3_ r3_ w3_ t3_ D3_
  refine sf_again (.builtin "collections.deque.__init__" ⟨[.ref (as1 0)], []⟩) (by kernel_rfl) (by exact Code.quiet_builtin _ (by decide +kernel)) ?_
  refine sb_codeB Builtin.«collections.deque.__init__» (entryFor_of_tree (by kernel_rfl)) ?_
  refine sf_run [] [fun _ => .l 0, fun as => .p 0 (Obj.mk (Value.type "collections.deque") none (PySem.Data.fields #[Value.none, (Value.int (0 : Int) 0)]) #[]), fun _ => .l 0] t0 D3_ fo_nil (fun as => by kernel_rfl) ?_; intro as4 h4_ r4_ w4_ t4_ D4_
  refine sf_done (.ret .none) (by kernel_rfl) ?_
  refine sb_ret ?_
  refine sf_done (.ret (.ref (as1 0))) (by kernel_rfl) ?_
  refine sb_ret ?_
  refine sf_pure (.ref (as1 0)) (by kernel_rfl) ?_
  exact ⟨as1 0, _, _, _, rfl, rfl, D4_, List.mem_of_getElem? (i := 0) (by kernel_rfl)⟩

end
section
open PySem.W.X
noncomputable def runR {α : Type} : Nat → Sem α → Option α
  | 0, _ => none
  | _ + 1, .pure a => some a
  | n + 1, .rule _ k => runR n (k ())
  | _ + 1, _ => none
theorem runR_sound {α : Type} {prog : Program} {w : World} {A : Around} {Q : α → Shared → Prop} {E : Value → Shared → Prop} {s : Shared} {a : α} (h : Q a s) : ∀ (n : Nat) (t : Sem α), runR n t = some a → wpAny (model prog w) A t Q E s
  | 0, _, e => by cases e
  | n + 1, t, e => by
    cases t with
    | pure b => cases e; exact wpAny_pure h
    | rule tag k => exact sb_rule (runR_sound h n (k ()) e)
    | _ => cases e
noncomputable def reCode : Array Nat := #[14, 17, 4, 1, 1, 21, 9, 0, 604043296, 1, 0, 0, 0, 0, 0, 8, 4, 0, 13, 14, 21, 9, 0, 604043296, 1, 0, 0, 0, 0, 0, 8, 4, 0, 1]
noncomputable def reRun (l : List Nat) : Option (Option Sre.M) := runR 300 (Builtin.Re.reRunToEnd (Sre.forSearch reCode l.toArray 0 (min (0 : Int).toNat l.toArray.size) (min (2 ^ 63 - 1 : Int).toNat l.toArray.size) false))
noncomputable def lets : List Nat := [97, 98, 32, 39]
noncomputable def texts : List (List Nat) := [[]] ++ lets.map (fun a => [a]) ++ lets.flatMap fun a => lets.map fun b => [a, b]
noncomputable def cmds : List (List Nat) := [43, 45, 62, 60].flatMap fun s => texts.map fun t => s :: t
noncomputable def safe (l : List Nat) : Bool := l.all fun c => c == 97 || c == 98 || c == 43 || c == 45
theorem re_ok : ∀ l ∈ texts ++ cmds, (reRun l).map Option.isSome = some (!safe l) := by decide +kernel
theorem re_has {l : List Nat} (h : l ∈ texts ++ cmds) : ∃ r : Option Sre.M, reRun l = some r ∧ r.isSome = !safe l := by
  have e := re_ok l h
  cases q : reRun l with
  | none => rw [q] at e; cases e
  | some r => rw [q] at e; exact ⟨r, rfl, Option.some.inj e⟩
noncomputable abbrev AmaxS (fr : List Env) : Around := { handled := none, depth := 700, frames := some fr, guards := none, units := 6000 }
theorem srch_x (w : World) (fr : List Env) (s : Shared) (l : List Nat) (t0 : Tok) (KX : (hd.heap_1 w.params).In s.heap) (r : Option Sre.M) (hr : reRun l = some r) :
    wpAny (model PySem.Challenge.pw_ij0186_01 w) (AmaxS fr) (call (.ref 803) [.str (tx l) t0]) (fun v s' => match r with
      | none => v = .none ∧ s' = s
      | some _ => ∃ (a : Addr) (h' : Heap) (nw : List (Addr × Obj)) (tk' : Nat), v = .ref a ∧ s' = { s with heap := h', toks := tk' } ∧ Mem s.heap h' [] nw) (fun _ _ => False) s := by
  have D := Mem.start s.heap
  obtain ⟨h, g, d, t, os⟩ := s
  refine sb_call (by intro h; cases h) ?_
  refine sb_code ?_
  refine' sb_load ?ho ?_; (case ho => (refine' sb_top ?hX ?hD ?hh ?hq; (case hX => assumption); (case hD => exact D); (case hh => k_is); (case hq => exact rfl)))
  refine' sb_load ?ho ?_; (case ho => (refine' sb_top ?hX ?hD ?hh ?hq; (case hX => assumption); (case hD => exact D); (case hh => k_is); (case hq => exact rfl)))
  refine' sb_load ?ho ?_; (case ho => (refine' sb_top ?hX ?hD ?hh ?hq; (case hX => assumption); (case hD => exact D); (case hh => k_is); (case hq => exact rfl)))
  refine' sb_load ?ho ?_; (case ho => (refine' sb_top ?hX ?hD ?hh ?hq; (case hX => assumption); (case hD => exact D); (case hh => k_is); (case hq => exact rfl)))
  refine sb_againD "re.Pattern.search" rfl (by decide +kernel) (by decide +kernel) ?_
  refine sb_code ?_
  refine' sb_load ?ho ?_; (case ho => (refine' sb_top ?hX ?hD ?hh ?hq; (case hX => assumption); (case hD => exact D); (case hh => k_is); (case hq => exact rfl)))
  refine' sb_load ?ho ?_; (case ho => (refine' sb_top ?hX ?hD ?hh ?hq; (case hX => assumption); (case hD => exact D); (case hh => k_is); (case hq => exact rfl)))
  refine sb_bind ?_
  refine sb_pure ?_
  refine sb_bind ?_
  have e1 : PySem.W.XFast.xw11460574553484405436 = Builtin.Re.reRunToEnd := PySem.W.XFast.xe11460574553484405436.symm
  have e2 : PySem.W.XFast.xw17975430018945453453 = Sre.forSearch := PySem.W.XFast.xe17975430018945453453.symm
  rw [e1, e2]
  refine' runR_sound ?_ 300 _ (Eq.trans ?e9 hr)
  case e9 => kernel_rfl
  cases r with
  | none =>
    refine sb_done ?_
    refine sb_ret ?_
    exact sb_endv ⟨rfl, rfl⟩
  | some m =>
    refine sb_alloc D rfl ?_; intro a1 h1 D1
    refine sb_alloc D1 rfl ?_; intro a2 h2 D2
    refine sb_done ?_
    refine sb_ret ?_
    exact sb_endv ⟨_, _, _, _, rfl, rfl, D2⟩
theorem search_K {w : World} {A : Around} {E : Value → Shared → Prop} {s : Shared} {h₀ : Heap} {L : Addr} {m : Str → Option Value} {news : List (Addr × Obj)} {fr : List Env} {Q : Value → Shared → Prop} {l : List Nat} {t : Tok} (hl : l ∈ texts ++ cmds) (hh : A.handled = none) (hdp : A.depth ≤ 700) (hu : A.units ≤ 6000) (hf : A.frames = some fr) (F : Fr h₀ L s.heap m) (X : (hd.heap_1 w.params).In h₀) (N : News h₀ L s.heap news)
    (h : ∀ v h' tk', (if safe l = true then v = .none else ∃ a, v = .ref a) → Fr h₀ L h' m → News h₀ L h' news → Q v { s with heap := h', toks := tk' }) :
    wpAny (model PySem.Challenge.pw_ij0186_01 w) A (call (.ref 803) [.str (tx l) t]) Q E s := by
  obtain ⟨r, hr, hs⟩ := re_has hl
  refine weaken3 (A' := AmaxS fr) hh hdp hu hf.symm rfl (wpAny_mono (srch_x w fr s l t (X.keeps F.keep) r hr) (fun v s' z => ?_) fun _ _ z => z.elim)
  cases r with
  | none =>
    obtain ⟨rfl, rfl⟩ := z
    have e : safe l = true := by
      cases q : safe l with
      | true => rfl
      | false => rw [q] at hs; cases hs
    exact h .none s'.heap s'.toks (by rw [if_pos e]) F N
  | some m =>
    obtain ⟨a, h', nw, tk', rfl, rfl, D⟩ := z
    have e : ¬ safe l = true := fun q => by rw [q] at hs; cases hs
    exact h (.ref a) h' tk' (by rw [if_neg e]; exact ⟨_, rfl⟩) (mem_fr D F) fun p hp => mem_news D F N p (List.mem_append_right _ hp)

end
section
open PySem.W.X
noncomputable abbrev clsO (a3 a2 b3 : Addr) (tk u2 : Tok) : Obj := Obj.mk (.type "type") none (.cls (ClassData.mk (Str.ofString "K") [.type "object"] [.ref a3, .type "object"] a2 (Str.ofString "cmp_to_key.<locals>.K") false [Str.ofString "obj"] [] false none false)) #[some (.ref b3), none, some (.str (Str.ofString "K") tk), some (.str (Str.ofString "cmp_to_key.<locals>.K") u2), some (.builtin "object.__new__"), some (.bool false)]
noncomputable abbrev nsB (bS bT f1 f2 f3 f4 f5 f6 : Addr) (u1 u2 u3 k0 k1 k2 k3 k4 k5 k6 k7 k8 k9 k10 k11 : Tok) (g0 g1 g2 g3 g4 g5 g6 g7 g8 g9 g10 g11 : Int) : Obj := { cls := .type "dict", data := .dict #[⟨g0, .str (Str.ofString "__module__") k0, .str (Str.ofString "cpy313.functools") u1⟩, ⟨g1, .str (Str.ofString "__qualname__") k1, .str (Str.ofString "cmp_to_key.<locals>.K") u2⟩, ⟨g2, .str (Str.ofString "__firstlineno__") k2, .int 56 u3⟩, ⟨g3, .str (Str.ofString "__slots__") k3, .ref bS⟩, ⟨g4, .str (Str.ofString "__init__") k4, .ref f1⟩, ⟨g5, .str (Str.ofString "__lt__") k5, .ref f2⟩, ⟨g6, .str (Str.ofString "__gt__") k6, .ref f3⟩, ⟨g7, .str (Str.ofString "__eq__") k7, .ref f4⟩, ⟨g8, .str (Str.ofString "__le__") k8, .ref f5⟩, ⟨g9, .str (Str.ofString "__ge__") k9, .ref f6⟩, ⟨g10, .str (Str.ofString "__hash__") k10, .none⟩, ⟨g11, .str (Str.ofString "__static_attributes__") k11, .ref bT⟩] 12 }
noncomputable abbrev nsO (a4 bS bT f1 f2 f3 f4 f5 f6 : Addr) (u1 u3 k0 k2 k3 k4 k5 k6 k7 k8 k9 k10 k11 k12 k13 : Tok) (g0 g2 g3 g4 g5 g6 g7 g8 g9 g10 g11 g12 g13 : Int) : Obj := { cls := .type "dict", data := .dict #[⟨g0, .str (Str.ofString "__module__") k0, .str (Str.ofString "cpy313.functools") u1⟩, ⟨g2, .str (Str.ofString "__firstlineno__") k2, .int 56 u3⟩, ⟨g3, .str (Str.ofString "__slots__") k3, .ref bS⟩, ⟨g4, .str (Str.ofString "__init__") k4, .ref f1⟩, ⟨g5, .str (Str.ofString "__lt__") k5, .ref f2⟩, ⟨g6, .str (Str.ofString "__gt__") k6, .ref f3⟩, ⟨g7, .str (Str.ofString "__eq__") k7, .ref f4⟩, ⟨g8, .str (Str.ofString "__le__") k8, .ref f5⟩, ⟨g9, .str (Str.ofString "__ge__") k9, .ref f6⟩, ⟨g10, .str (Str.ofString "__hash__") k10, .none⟩, ⟨g11, .str (Str.ofString "__static_attributes__") k11, .ref bT⟩, ⟨g12, .str (Str.ofString "obj") k12, .ref a4⟩, ⟨g13, .str (Str.ofString "__doc__") k13, .none⟩] 3 }
noncomputable abbrev mdO (a3 : Addr) (t1 : Tok) : Obj := { cls := .type "member_descriptor", data := .fields #[.str (Str.ofString "obj") t1, .ref a3, .builtin "proto.slot", .builtin "proto.slot#set", .int 0 0] }
example : True := by
  (k_with "my_inn" => first | exact List.Mem.head _ | (refine' List.Mem.tail _ ?_; walk_at "my_inn"))
  trivial
noncomputable def NT1_s : {P : World → Around → (Result → Shared → Prop) → Addr → Addr → Addr → Addr → Addr → Addr → Addr → Addr → Addr → Addr → FuncData → FuncData → FuncData → FuncData → FuncData → FuncData → Tok → Tok → Tok → Tok → Tok → Tok → Tok → Tok → Tok → Tok → Tok → Tok → Tok → Tok → Tok → Tok → Tok → Tok → Int → Int → Int → Int → Int → Int → Int → Int → Int → Int → Int → Int → Heap → (Array GenState) → Drawn → Nat → OsState → Prop // (∀ w A R b3 b5 bS bT f1 f2 f3 f4 f5 f6 d1 d2 d3 d4 d5 d6 u1 u2 u3 tk t1 t2 k0 k1 k2 k3 k4 k5 k6 k7 k8 k9 k10 k11 g0 g1 g2 g3 g4 g5 g6 g7 g8 g9 g10 g11 h g d t os, P w A R b3 b5 bS bT f1 f2 f3 f4 f5 f6 d1 d2 d3 d4 d5 d6 u1 u2 u3 tk t1 t2 k0 k1 k2 k3 k4 k5 k6 k7 k8 k9 k10 k11 g0 g1 g2 g3 g4 g5 g6 g7 g8 g9 g10 g11 h g d t os) → (∀ (w : World) (A : Around) (s : Shared) (R : Result → Shared → Prop) (KX : (hd.heap_1 w.params).In s.heap) (b3 b5 bS bT f1 f2 f3 f4 f5 f6 : Addr) (d1 d2 d3 d4 d5 d6 : FuncData) (u1 u2 u3 tk t1 t2 : Tok) (k0 k1 k2 k3 k4 k5 k6 k7 k8 k9 k10 k11 : Tok) (g0 g1 g2 g3 g4 g5 g6 g7 g8 g9 g10 g11 : Int) (ne5 : b5 ≠ sysModules) (x3 : s.heap.get? b3 = some { cls := .type "tuple", data := .seq #[.type "object"] }) (xS : s.heap.get? bS = some { cls := .type "list", data := .seq #[.str (Str.ofString "obj") t1] }) (xT : s.heap.get? bT = some { cls := .type "tuple", data := .seq #[.str (Str.ofString "obj") t2] }) (x11 : s.heap.get? f1 = some { cls := .type "function", data := .func d1 }) (x12 : s.heap.get? f2 = some { cls := .type "function", data := .func d2 }) (x13 : s.heap.get? f3 = some { cls := .type "function", data := .func d3 }) (x14 : s.heap.get? f4 = some { cls := .type "function", data := .func d4 }) (x15 : s.heap.get? f5 = some { cls := .type "function", data := .func d5 }) (x16 : s.heap.get? f6 = some { cls := .type "function", data := .func d6 }) (x5 : s.heap.get? b5 = some (nsB bS bT f1 f2 f3 f4 f5 f6 u1 u2 u3 k0 k1 k2 k3 k4 k5 k6 k7 k8 k9 k10 k11 g0 g1 g2 g3 g4 g5 g6 g7 g8 g9 g10 g11)) (hR : ∀ (a2 a3 a4 : Addr) (g12 g13 : Int) (k12 k13 t3 : Tok) (nw : List (Addr × Obj)) (h' : Heap) (tk' : Nat), Mem s.heap h' [] nw → (a3, clsO a3 a2 b3 tk u2) ∈ nw → (a2, nsO a4 bS bT f1 f2 f3 f4 f5 f6 u1 u3 k0 k2 k3 k4 k5 k6 k7 k8 k9 k10 k11 k12 k13 g0 g2 g3 g4 g5 g6 g7 g8 g9 g10 g11 g12 g13) ∈ nw → (a4, mdO a3 t3) ∈ nw →
      R (.ok (.ret (.ref a3))) { s with heap := h', toks := tk' }), codeAny (model PySem.Challenge.pw_ij0186_01 w) A (.builtin "type.__new__" ⟨[.type "type", .str (Str.ofString "K") tk, .ref b3, .ref b5], []⟩) R s)} := by
  refine' ⟨_, fun HC1 => ?hcut⟩
  case hcut =>
    intro w A s R KX b3 b5 bS bT f1 f2 f3 f4 f5 f6 d1 d2 d3 d4 d5 d6 u1 u2 u3 tk t1 t2 k0 k1 k2 k3 k4 k5 k6 k7 k8 k9 k10 k11 g0 g1 g2 g3 g4 g5 g6 g7 g8 g9 g10 g11 ne5 x3 xS xT x11 x12 x13 x14 x15 x16 x5 hR
    have D := Mem.start s.heap
    obtain ⟨h, g, d, t, os⟩ := s
    revert ne5 KX x3 xS xT x11 x12 x13 x14 x15 x16 x5 hR D
    exact HC1 w A R b3 b5 bS bT f1 f2 f3 f4 f5 f6 d1 d2 d3 d4 d5 d6 u1 u2 u3 tk t1 t2 k0 k1 k2 k3 k4 k5 k6 k7 k8 k9 k10 k11 g0 g1 g2 g3 g4 g5 g6 g7 g8 g9 g10 g11 h g d t os
@[irreducible] noncomputable def NT1_e : (World × Around × (Result → Shared → Prop) × Addr × Addr × Addr × Addr × Addr) × (Addr × Addr × Addr × Addr × Addr × FuncData × FuncData × FuncData) × (FuncData × FuncData × FuncData × Tok × Tok × Tok × Tok × Tok) × (Tok × Tok × Tok × Tok × Tok × Tok × Tok × Tok) × (Tok × Tok × Tok × Tok × Tok × Int × Int × Int) × (Int × Int × Int × Int × Int × Int × Int × Int) × (Int × Heap × (Array GenState) × Drawn × Nat × OsState) := Ep (by first | infer_instance | (repeat' (first | exact neW | exact neA | exact neS | infer_instance | refine neP ?_ ?_ | (refine ⟨?_⟩; constructor <;> exact default) | (refine ⟨?_⟩; constructor)))) fun x => NT1_s.1 x.1.1 x.1.2.1 x.1.2.2.1 x.1.2.2.2.1 x.1.2.2.2.2.1 x.1.2.2.2.2.2.1 x.1.2.2.2.2.2.2.1 x.1.2.2.2.2.2.2.2 x.2.1.1 x.2.1.2.1 x.2.1.2.2.1 x.2.1.2.2.2.1 x.2.1.2.2.2.2.1 x.2.1.2.2.2.2.2.1 x.2.1.2.2.2.2.2.2.1 x.2.1.2.2.2.2.2.2.2 x.2.2.1.1 x.2.2.1.2.1 x.2.2.1.2.2.1 x.2.2.1.2.2.2.1 x.2.2.1.2.2.2.2.1 x.2.2.1.2.2.2.2.2.1 x.2.2.1.2.2.2.2.2.2.1 x.2.2.1.2.2.2.2.2.2.2 x.2.2.2.1.1 x.2.2.2.1.2.1 x.2.2.2.1.2.2.1 x.2.2.2.1.2.2.2.1 x.2.2.2.1.2.2.2.2.1 x.2.2.2.1.2.2.2.2.2.1 x.2.2.2.1.2.2.2.2.2.2.1 x.2.2.2.1.2.2.2.2.2.2.2 x.2.2.2.2.1.1 x.2.2.2.2.1.2.1 x.2.2.2.2.1.2.2.1 x.2.2.2.2.1.2.2.2.1 x.2.2.2.2.1.2.2.2.2.1 x.2.2.2.2.1.2.2.2.2.2.1 x.2.2.2.2.1.2.2.2.2.2.2.1 x.2.2.2.2.1.2.2.2.2.2.2.2 x.2.2.2.2.2.1.1 x.2.2.2.2.2.1.2.1 x.2.2.2.2.2.1.2.2.1 x.2.2.2.2.2.1.2.2.2.1 x.2.2.2.2.2.1.2.2.2.2.1 x.2.2.2.2.2.1.2.2.2.2.2.1 x.2.2.2.2.2.1.2.2.2.2.2.2.1 x.2.2.2.2.2.1.2.2.2.2.2.2.2 x.2.2.2.2.2.2.1 x.2.2.2.2.2.2.2.1 x.2.2.2.2.2.2.2.2.1 x.2.2.2.2.2.2.2.2.2.1 x.2.2.2.2.2.2.2.2.2.2.1 x.2.2.2.2.2.2.2.2.2.2.2
namespace NT1
noncomputable section
 @[irreducible] def w := NT1_e.1.1
 @[irreducible] def A := NT1_e.1.2.1
 @[irreducible] def R := NT1_e.1.2.2.1
 @[irreducible] def b3 := NT1_e.1.2.2.2.1
 @[irreducible] def b5 := NT1_e.1.2.2.2.2.1
 @[irreducible] def bS := NT1_e.1.2.2.2.2.2.1
 @[irreducible] def bT := NT1_e.1.2.2.2.2.2.2.1
 @[irreducible] def f1 := NT1_e.1.2.2.2.2.2.2.2
 @[irreducible] def f2 := NT1_e.2.1.1
 @[irreducible] def f3 := NT1_e.2.1.2.1
 @[irreducible] def f4 := NT1_e.2.1.2.2.1
 @[irreducible] def f5 := NT1_e.2.1.2.2.2.1
 @[irreducible] def f6 := NT1_e.2.1.2.2.2.2.1
 @[irreducible] def d1 := NT1_e.2.1.2.2.2.2.2.1
 @[irreducible] def d2 := NT1_e.2.1.2.2.2.2.2.2.1
 @[irreducible] def d3 := NT1_e.2.1.2.2.2.2.2.2.2
 @[irreducible] def d4 := NT1_e.2.2.1.1
 @[irreducible] def d5 := NT1_e.2.2.1.2.1
 @[irreducible] def d6 := NT1_e.2.2.1.2.2.1
 @[irreducible] def u1 := NT1_e.2.2.1.2.2.2.1
 @[irreducible] def u2 := NT1_e.2.2.1.2.2.2.2.1
 @[irreducible] def u3 := NT1_e.2.2.1.2.2.2.2.2.1
 @[irreducible] def tk := NT1_e.2.2.1.2.2.2.2.2.2.1
 @[irreducible] def t1 := NT1_e.2.2.1.2.2.2.2.2.2.2
 @[irreducible] def t2 := NT1_e.2.2.2.1.1
 @[irreducible] def k0 := NT1_e.2.2.2.1.2.1
 @[irreducible] def k1 := NT1_e.2.2.2.1.2.2.1
 @[irreducible] def k2 := NT1_e.2.2.2.1.2.2.2.1
 @[irreducible] def k3 := NT1_e.2.2.2.1.2.2.2.2.1
 @[irreducible] def k4 := NT1_e.2.2.2.1.2.2.2.2.2.1
 @[irreducible] def k5 := NT1_e.2.2.2.1.2.2.2.2.2.2.1
 @[irreducible] def k6 := NT1_e.2.2.2.1.2.2.2.2.2.2.2
 @[irreducible] def k7 := NT1_e.2.2.2.2.1.1
 @[irreducible] def k8 := NT1_e.2.2.2.2.1.2.1
 @[irreducible] def k9 := NT1_e.2.2.2.2.1.2.2.1
 @[irreducible] def k10 := NT1_e.2.2.2.2.1.2.2.2.1
 @[irreducible] def k11 := NT1_e.2.2.2.2.1.2.2.2.2.1
 @[irreducible] def g0 := NT1_e.2.2.2.2.1.2.2.2.2.2.1
 @[irreducible] def g1 := NT1_e.2.2.2.2.1.2.2.2.2.2.2.1
 @[irreducible] def g2 := NT1_e.2.2.2.2.1.2.2.2.2.2.2.2
 @[irreducible] def g3 := NT1_e.2.2.2.2.2.1.1
 @[irreducible] def g4 := NT1_e.2.2.2.2.2.1.2.1
 @[irreducible] def g5 := NT1_e.2.2.2.2.2.1.2.2.1
 @[irreducible] def g6 := NT1_e.2.2.2.2.2.1.2.2.2.1
 @[irreducible] def g7 := NT1_e.2.2.2.2.2.1.2.2.2.2.1
 @[irreducible] def g8 := NT1_e.2.2.2.2.2.1.2.2.2.2.2.1
 @[irreducible] def g9 := NT1_e.2.2.2.2.2.1.2.2.2.2.2.2.1
 @[irreducible] def g10 := NT1_e.2.2.2.2.2.1.2.2.2.2.2.2.2
 @[irreducible] def g11 := NT1_e.2.2.2.2.2.2.1
 @[irreducible] def h := NT1_e.2.2.2.2.2.2.2.1
 @[irreducible] def g := NT1_e.2.2.2.2.2.2.2.2.1
 @[irreducible] def d := NT1_e.2.2.2.2.2.2.2.2.2.1
 @[irreducible] def t := NT1_e.2.2.2.2.2.2.2.2.2.2.1
 @[irreducible] def os := NT1_e.2.2.2.2.2.2.2.2.2.2.2
end
end NT1
section
open NT1
theorem NT1_b : NT1_s.1 NT1.w NT1.A NT1.R NT1.b3 NT1.b5 NT1.bS NT1.bT NT1.f1 NT1.f2 NT1.f3 NT1.f4 NT1.f5 NT1.f6 NT1.d1 NT1.d2 NT1.d3 NT1.d4 NT1.d5 NT1.d6 NT1.u1 NT1.u2 NT1.u3 NT1.tk NT1.t1 NT1.t2 NT1.k0 NT1.k1 NT1.k2 NT1.k3 NT1.k4 NT1.k5 NT1.k6 NT1.k7 NT1.k8 NT1.k9 NT1.k10 NT1.k11 NT1.g0 NT1.g1 NT1.g2 NT1.g3 NT1.g4 NT1.g5 NT1.g6 NT1.g7 NT1.g8 NT1.g9 NT1.g10 NT1.g11 NT1.h NT1.g NT1.d NT1.t NT1.os := by
  intro ne5 KX x3 xS xT x11 x12 x13 x14 x15 x16 x5 hR D
  refine sb_code ?_
  refine' Mine.sb_load ?ho ?_; (case ho => exact Mem.old D _ _ (by with_reducible assumption) rfl)
  refine' Mine.sb_load ?ho ?_; (case ho => exact Mem.old D _ _ (by with_reducible assumption) rfl)
  refine' Mine.sb_load ?ho ?_; (case ho => exact Mem.old D _ _ (by with_reducible assumption) rfl)
  refine Mine.sb_bind ?_
  refine Mine.sb_pure ?_
  refine Mine.sb_iteF (by decide) ?_
  refine Mine.sb_bind ?_
  refine Mine.sb_pure ?_
  refine Mine.sb_bind ?_
  refine Mine.sb_pure ?_
  refine Mine.sb_condF rfl ?_
  refine Mine.sb_bind ?_
  refine Mine.sb_pure ?_
  refine Mine.sb_bind ?_
  refine Mine.sb_pure ?_
  rw [Mine.mb_objH]; rotate_left; rfl
  refine Mine.sb_condF (decide_eq_false (by assumption)) ?_
  refine' Mine.sb_load ?ho ?_; (case ho => exact Mem.old D _ _ (by with_reducible assumption) rfl)
  refine' Mine.sb_load ?ho ?_; (case ho => exact Mem.old D _ _ (by with_reducible assumption) rfl)
  refine Mine.sb_rule ?_
  refine' Mine.sb_load ?ho ?_; (case ho => exact Mem.old D _ _ (by with_reducible assumption) rfl)
  refine Mine.sb_callD "proto.collect" rfl (by decide +kernel) (by intro h; cases h) ?_; refine Mine.sb_code ?_
  refine' Mine.sb_allocT (Obj.mk (Value.type "list") none (PySem.Data.seq #[] 0) #[]) ?ho D rfl ?_; (case ho => kernel_rfl); intro a1 h1 D1
  refine Mine.sb_againD "list.__iadd__" rfl (by decide +kernel) (by decide +kernel) ?_; refine Mine.sb_code ?_
  refine' Mine.sb_load ?ho ?_; (case ho => exact Mem.old D1 _ _ (by with_reducible assumption) rfl)
  refine Mine.sb_bind ?_
  refine Mine.sb_pure ?_
  refine Mine.sb_condT (Mine.or_lr rfl) ?_
  refine' Mine.sb_load ?ho ?_; (case ho => exact Mem.old D1 _ _ (by with_reducible assumption) rfl)
  refine' Mine.sb_load ?ho ?_; (case ho => exact Mem.at D1 0 _ _ rfl)
  refine' Mine.sb_load ?ho ?_; (case ho => exact Mem.at D1 0 _ _ rfl)
  refine' Mine.sb_putT (Obj.mk (Value.type "list") none (PySem.Data.seq #[(Value.str (Str.ofString "obj") t1)] 1) #[]) .head D1 ?hn rfl ?_; (case hn => kernel_rfl); intro h2 D2
  refine' Mine.sb_load ?ho ?_; (case ho => exact Mem.at D2 0 _ _ rfl)
  refine Mine.sb_done ?_
  refine Mine.sb_ret ?_
  refine' Mine.sb_load ?ho ?_; (case ho => exact Mem.at D2 0 _ _ rfl)
  rw [Mine.fq_object]
  refine Mine.sb_bind ?_
  refine Mine.sb_bind ?_
  refine Mine.sb_pure ?_
  refine Mine.sb_condT rfl ?_
  refine Mine.sb_bind ?_
  refine Mine.sb_pure ?_
  refine Mine.sb_condF rfl ?_
  refine Mine.sb_bind ?_
  refine Mine.sb_bind ?_
  refine Mine.sb_bind ?_
  refine Mine.sb_pure ?_
  refine Mine.sb_bind ?_
  refine Mine.sb_pure ?_
  rw [Mine.id_obj]
  refine Mine.sb_pure ?_
  refine Mine.sb_pure ?_
  refine Mine.sb_bind ?_
  refine Mine.sb_bind ?_
  refine Mine.sb_iteF (by decide) ?_
  refine Mine.sb_condF (by kernel_rfl) ?_
  refine Mine.sb_pure ?_
  refine Mine.sb_pure ?_
  refine Mine.sb_pure ?_
  refine' Mine.sb_allocT (Obj.mk (Value.type "dict") none (PySem.Data.dict #[(DictEntry.mk (g0) (Value.str (Str.ofString "__module__") k0) (Value.str (Str.ofString "cpy313.functools") u1)), (DictEntry.mk (g1) (Value.str (Str.ofString "__qualname__") k1) (Value.str (Str.ofString "cmp_to_key.<locals>.K") u2)), (DictEntry.mk (g2) (Value.str (Str.ofString "__firstlineno__") k2) (Value.int (56 : Int) u3)), (DictEntry.mk (g3) (Value.str (Str.ofString "__slots__") k3) (Value.ref bS)), (DictEntry.mk (g4) (Value.str (Str.ofString "__init__") k4) (Value.ref f1)), (DictEntry.mk (g5) (Value.str (Str.ofString "__lt__") k5) (Value.ref f2)), (DictEntry.mk (g6) (Value.str (Str.ofString "__gt__") k6) (Value.ref f3)), (DictEntry.mk (g7) (Value.str (Str.ofString "__eq__") k7) (Value.ref f4)), (DictEntry.mk (g8) (Value.str (Str.ofString "__le__") k8) (Value.ref f5)), (DictEntry.mk (g9) (Value.str (Str.ofString "__ge__") k9) (Value.ref f6)), (DictEntry.mk (g10) (Value.str (Str.ofString "__hash__") k10) Value.none), (DictEntry.mk (g11) (Value.str (Str.ofString "__static_attributes__") k11) (Value.ref bT))] 0) #[]) ?ho D2 rfl ?_; (case ho => kernel_rfl); intro a2 h3 D3
  refine Mine.sb_bind ?_
  refine Mine.sb_pure ?_
  refine Mine.sb_condF (by kernel_rfl) ?_
  refine Mine.sb_bind ?_
  refine Mine.sb_condF (by kernel_rfl) ?_
  refine Mine.sb_pure ?_
  refine Mine.sb_condF (by kernel_rfl) ?_
  refine' Mine.sb_load ?ho ?_; (case ho => exact Mem.at D3 0 _ _ rfl)
  refine' Mine.sb_load ?ho ?_; (case ho => exact Mem.at D3 0 _ _ rfl)
  refine' Mine.sb_load ?ho ?_; (case ho => exact Mem.at D3 0 _ _ rfl)
  refine' Mine.sb_allocT (Obj.mk (Value.type "type") none (PySem.Data.cls (PySem.ClassData.mk (Str.ofString "K") [(Value.type "object")] [] a2 (Str.ofString "cmp_to_key.<locals>.K") true [] [] false none false)) #[]) ?ho D3 rfl ?_; (case ho => kernel_rfl); intro a3 h4 D4
  refine' Mine.sb_putT (Obj.mk (Value.type "type") none (PySem.Data.cls (PySem.ClassData.mk (Str.ofString "K") [(Value.type "object")] [] a2 (Str.ofString "cmp_to_key.<locals>.K") true [] [] false none false)) #[(some (Value.ref b3))]) .head D4 ?hn rfl ?_; (case hn => kernel_rfl); intro h5 D5
  refine' Mine.sb_putT (Obj.mk (Value.type "type") none (PySem.Data.cls (PySem.ClassData.mk (Str.ofString "K") [(Value.type "object")] [] a2 (Str.ofString "cmp_to_key.<locals>.K") true [] [] false none false)) #[(some (Value.ref b3)), none, (some (Value.str (Str.ofString "K") tk))]) .head D5 ?hn rfl ?_; (case hn => kernel_rfl); intro h6 D6
  refine' Mine.sb_putT (Obj.mk (Value.type "type") none (PySem.Data.cls (PySem.ClassData.mk (Str.ofString "K") [(Value.type "object")] [] a2 (Str.ofString "cmp_to_key.<locals>.K") true [] [] false none false)) #[(some (Value.ref b3)), none, (some (Value.str (Str.ofString "K") tk)), (some (Value.str (Str.ofString "cmp_to_key.<locals>.K") u2))]) .head D6 ?hn rfl ?_; (case hn => kernel_rfl); intro h7 D7
  refine' Mine.sb_load ?ho ?_; (case ho => exact Mem.at D7 1 _ _ rfl)
  refine' Mine.sb_putT (Obj.mk (Value.type "dict") none (PySem.Data.dict #[(DictEntry.mk (g0) (Value.str (Str.ofString "__module__") k0) (Value.str (Str.ofString "cpy313.functools") u1)), (DictEntry.mk (g2) (Value.str (Str.ofString "__firstlineno__") k2) (Value.int (56 : Int) u3)), (DictEntry.mk (g3) (Value.str (Str.ofString "__slots__") k3) (Value.ref bS)), (DictEntry.mk (g4) (Value.str (Str.ofString "__init__") k4) (Value.ref f1)), (DictEntry.mk (g5) (Value.str (Str.ofString "__lt__") k5) (Value.ref f2)), (DictEntry.mk (g6) (Value.str (Str.ofString "__gt__") k6) (Value.ref f3)), (DictEntry.mk (g7) (Value.str (Str.ofString "__eq__") k7) (Value.ref f4)), (DictEntry.mk (g8) (Value.str (Str.ofString "__le__") k8) (Value.ref f5)), (DictEntry.mk (g9) (Value.str (Str.ofString "__ge__") k9) (Value.ref f6)), (DictEntry.mk (g10) (Value.str (Str.ofString "__hash__") k10) Value.none), (DictEntry.mk (g11) (Value.str (Str.ofString "__static_attributes__") k11) (Value.ref bT))] 1) #[]) (.tail .head) D7 ?hn rfl ?_; (case hn => kernel_rfl); intro h8 D8
  refine' Mine.sb_load ?ho ?_; (case ho => exact Mem.at D8 1 _ _ rfl)
  refine' Mine.sb_load ?ho ?_; (case ho => exact Mem.at D8 1 _ _ rfl)
  refine' Mine.sb_load ?ho ?_; (case ho => exact Mem.at D8 1 _ _ rfl)
  refine' Mine.sb_load ?ho ?_; (case ho => exact Mem.at D8 1 _ _ rfl)
  refine' Mine.sb_load ?ho ?_; (case ho => exact Mem.at D8 1 _ _ rfl)
  refine Mine.sb_bind ?_
  refine Mine.sb_pure ?_
  refine Mine.sb_bind ?_
  refine Mine.sb_pure ?_
  refine Mine.sb_bind ?_
  refine Mine.sb_pure ?_
  refine Mine.sb_bind ?_
  refine Mine.sb_pure ?_
  refine Mine.sb_bind ?_
  rw [Mine.filt_self]
  refine Mine.sb_pure ?_
  refine' Mine.sb_load ?ho ?_; (case ho => exact Mem.at D8 0 _ _ rfl)
  refine' Mine.sb_putT (Obj.mk (Value.type "type") none (PySem.Data.cls (PySem.ClassData.mk (Str.ofString "K") [(Value.type "object")] [(Value.ref a3), (Value.type "object")] a2 (Str.ofString "cmp_to_key.<locals>.K") true [] [] false none false)) #[(some (Value.ref b3)), none, (some (Value.str (Str.ofString "K") tk)), (some (Value.str (Str.ofString "cmp_to_key.<locals>.K") u2))]) .head D8 ?hn rfl ?_; (case hn => kernel_rfl); intro h9 D9
  refine' Mine.sb_load ?ho ?_; (case ho => exact Mem.at D9 0 _ _ rfl)
  refine' Mine.sb_putT (Obj.mk (Value.type "type") none (PySem.Data.cls (PySem.ClassData.mk (Str.ofString "K") [(Value.type "object")] [(Value.ref a3), (Value.type "object")] a2 (Str.ofString "cmp_to_key.<locals>.K") true [] [] false none false)) #[(some (Value.ref b3)), none, (some (Value.str (Str.ofString "K") tk)), (some (Value.str (Str.ofString "cmp_to_key.<locals>.K") u2)), (some (Value.builtin "object.__new__"))]) .head D9 ?hn rfl ?_; (case hn => kernel_rfl); intro h10 D10
  refine' Mine.sb_load ?ho ?_; (case ho => exact Mem.at D10 0 _ _ rfl)
  refine' Mine.sb_load ?ho ?_; (case ho => exact Mem.at D10 0 _ _ rfl)
  refine' Mine.sb_load ?ho ?_; (case ho => exact Mem.at D10 0 _ _ rfl)
  refine' Mine.sb_load ?ho ?_; (case ho => exact Mem.at D10 1 _ _ rfl)
  refine Mine.sb_bind ?_
  refine Mine.sb_bind ?_
  refine Mine.sb_pure ?_
  refine Mine.sb_condF (by kernel_rfl) ?_
  refine Mine.sb_pure ?_
  refine' Mine.sb_load ?ho ?_; (case ho => exact Mem.at D10 1 _ _ rfl)
  refine Mine.sb_fresh ?_
  refine' Mine.sb_allocT (Obj.mk (Value.type "member_descriptor") none (PySem.Data.fields #[(Value.str (Str.ofString "obj") t), (Value.ref a3), (Value.builtin "proto.slot"), (Value.builtin "proto.slot#set"), (Value.int (0 : Int) 0)]) #[]) ?ho D10 rfl ?_; (case ho => kernel_rfl); intro a4 h11 D11
  refine' Mine.sb_load ?ho ?_; (case ho => exact Mem.at D11 2 _ _ rfl)
  refine Mine.sb_ask ?_
  refine Mine.sb_fresh ?_
  refine' Mine.sb_load ?ho ?_; (case ho => exact Mem.at D11 2 _ _ rfl)
  refine' Mine.sb_putT (Obj.mk (Value.type "dict") none (PySem.Data.dict #[(DictEntry.mk (g0) (Value.str (Str.ofString "__module__") k0) (Value.str (Str.ofString "cpy313.functools") u1)), (DictEntry.mk (g2) (Value.str (Str.ofString "__firstlineno__") k2) (Value.int (56 : Int) u3)), (DictEntry.mk (g3) (Value.str (Str.ofString "__slots__") k3) (Value.ref bS)), (DictEntry.mk (g4) (Value.str (Str.ofString "__init__") k4) (Value.ref f1)), (DictEntry.mk (g5) (Value.str (Str.ofString "__lt__") k5) (Value.ref f2)), (DictEntry.mk (g6) (Value.str (Str.ofString "__gt__") k6) (Value.ref f3)), (DictEntry.mk (g7) (Value.str (Str.ofString "__eq__") k7) (Value.ref f4)), (DictEntry.mk (g8) (Value.str (Str.ofString "__le__") k8) (Value.ref f5)), (DictEntry.mk (g9) (Value.str (Str.ofString "__ge__") k9) (Value.ref f6)), (DictEntry.mk (g10) (Value.str (Str.ofString "__hash__") k10) Value.none), (DictEntry.mk (g11) (Value.str (Str.ofString "__static_attributes__") k11) (Value.ref bT)), (DictEntry.mk (Mine.hashX w "obj") (Value.str (Str.ofString "obj") (t + 1)) (Value.ref a4))] 2) #[]) (.tail (.tail .head)) D11 ?hn rfl ?_; (case hn => kernel_rfl); intro h12 D12
  refine' Mine.sb_load ?ho ?_; (case ho => exact Mem.at D12 1 _ _ rfl)
  refine' Mine.sb_putT (Obj.mk (Value.type "type") none (PySem.Data.cls (PySem.ClassData.mk (Str.ofString "K") [(Value.type "object")] [(Value.ref a3), (Value.type "object")] a2 (Str.ofString "cmp_to_key.<locals>.K") false [(Str.ofString "obj")] [] false none false)) #[(some (Value.ref b3)), none, (some (Value.str (Str.ofString "K") tk)), (some (Value.str (Str.ofString "cmp_to_key.<locals>.K") u2)), (some (Value.builtin "object.__new__"))]) (.tail .head) D12 ?hn rfl ?_; (case hn => kernel_rfl); intro h13 D13
  refine' Mine.sb_load ?ho ?_; (case ho => exact Mem.at D13 1 _ _ rfl)
  refine' Mine.sb_putT (Obj.mk (Value.type "type") none (PySem.Data.cls (PySem.ClassData.mk (Str.ofString "K") [(Value.type "object")] [(Value.ref a3), (Value.type "object")] a2 (Str.ofString "cmp_to_key.<locals>.K") false [(Str.ofString "obj")] [] false none false)) #[(some (Value.ref b3)), none, (some (Value.str (Str.ofString "K") tk)), (some (Value.str (Str.ofString "cmp_to_key.<locals>.K") u2)), (some (Value.builtin "object.__new__")), (some (Value.bool false))]) (.tail .head) D13 ?hn rfl ?_; (case hn => kernel_rfl); intro h14 D14
  refine' Mine.sb_load ?ho ?_; (case ho => exact Mem.at D14 2 _ _ rfl)
  refine Mine.sb_ask ?_
  refine Mine.sb_fresh ?_
  refine' Mine.sb_load ?ho ?_; (case ho => exact Mem.at D14 2 _ _ rfl)
  refine' Mine.sb_putT (Obj.mk (Value.type "dict") none (PySem.Data.dict #[(DictEntry.mk (g0) (Value.str (Str.ofString "__module__") k0) (Value.str (Str.ofString "cpy313.functools") u1)), (DictEntry.mk (g2) (Value.str (Str.ofString "__firstlineno__") k2) (Value.int (56 : Int) u3)), (DictEntry.mk (g3) (Value.str (Str.ofString "__slots__") k3) (Value.ref bS)), (DictEntry.mk (g4) (Value.str (Str.ofString "__init__") k4) (Value.ref f1)), (DictEntry.mk (g5) (Value.str (Str.ofString "__lt__") k5) (Value.ref f2)), (DictEntry.mk (g6) (Value.str (Str.ofString "__gt__") k6) (Value.ref f3)), (DictEntry.mk (g7) (Value.str (Str.ofString "__eq__") k7) (Value.ref f4)), (DictEntry.mk (g8) (Value.str (Str.ofString "__le__") k8) (Value.ref f5)), (DictEntry.mk (g9) (Value.str (Str.ofString "__ge__") k9) (Value.ref f6)), (DictEntry.mk (g10) (Value.str (Str.ofString "__hash__") k10) Value.none), (DictEntry.mk (g11) (Value.str (Str.ofString "__static_attributes__") k11) (Value.ref bT)), (DictEntry.mk (Mine.hashX w "obj") (Value.str (Str.ofString "obj") (t + 1)) (Value.ref a4)), (DictEntry.mk (Mine.hashX w "__doc__") (Value.str (Str.ofString "__doc__") (t + 2)) Value.none)] 3) #[]) (.tail (.tail .head)) D14 ?hn rfl ?_; (case hn => kernel_rfl); intro h15 D15
  refine' Mine.sb_load ?ho ?_; (case ho => exact Mem.at D15 2 _ _ rfl)
  refine' Mine.sb_load ?ho ?_; (case ho => exact Mem.at D15 2 _ _ rfl)
  refine' Mine.sb_load ?ho ?_; (case ho => exact Mem.at D15 2 _ _ rfl)
  refine' Mine.sb_load ?ho ?_; (case ho => exact Mem.at D15 2 _ _ rfl)
  refine' Mine.sb_load ?ho ?_; (case ho => exact Mem.old D15 _ _ (by with_reducible assumption) rfl)
  refine' Mine.sb_load ?ho ?_; (case ho => exact Mem.old D15 _ _ (by with_reducible assumption) rfl)
  refine' Mine.sb_load ?ho ?_; (case ho => exact Mem.old D15 _ _ (by with_reducible assumption) rfl)
  refine' Mine.sb_load ?ho ?_; (case ho => exact Mem.old D15 _ _ (by with_reducible assumption) rfl)
  refine' Mine.sb_load ?ho ?_; (case ho => exact Mem.old D15 _ _ (by with_reducible assumption) rfl)
  refine' Mine.sb_load ?ho ?_; (case ho => exact Mem.old D15 _ _ (by with_reducible assumption) rfl)
  refine' Mine.sb_load ?ho ?_; (case ho => exact Mem.old D15 _ _ (by with_reducible assumption) rfl)
  refine' Mine.sb_load ?ho ?_; (case ho => exact Mem.old D15 _ _ (by with_reducible assumption) rfl)
  refine' Mine.sb_load ?ho ?_; (case ho => exact Mem.at D15 0 _ _ rfl)
  refine Mine.sb_call (by intro h; cases h) ?_; refine Mine.sb_code ?_
  refine Mine.sb_againD "type.__call__" rfl (by decide +kernel) (by decide +kernel) ?_; refine Mine.sb_code ?_
  refine' Mine.sb_load ?ho ?_; (case ho => exact Mem.at D15 1 _ _ rfl)
  refine Mine.sb_bind ?_
  refine Mine.sb_pure ?_
  refine Mine.sb_bind ?_
  refine Mine.sb_pure ?_
  refine Mine.sb_condF rfl ?_
  refine Mine.sb_bind ?_
  refine Mine.sb_bind ?_
  refine Mine.sb_pure ?_
  refine Mine.sb_bind ?_
  refine Mine.sb_bind ?_
  refine Mine.sb_bind ?_
  refine Mine.sb_pure ?_
  refine Mine.sb_condF (by kernel_rfl) ?_
  refine Mine.sb_pure ?_
  refine Mine.sb_pure ?_
  refine Mine.sb_pure ?_
  refine Mine.sb_callB "super.__new__" rfl rfl (by decide +kernel) (by intro h; cases h) ?_; refine Mine.sb_code ?_
  refine Mine.sb_againP "super.__new__" ⟨[Value.type "super", Value.ref a3, Value.ref a3], []⟩ (by kernel_rfl) (by decide +kernel) ?_; refine Mine.sb_code ?_
  refine' Mine.sb_allocT (Obj.mk (Value.type "super") none (PySem.Data.fields #[Value.none, Value.none, Value.none]) #[]) ?ho D15 rfl ?_; (case ho => kernel_rfl); intro a5 h16 D16
  refine Mine.sb_done ?_
  refine Mine.sb_ret ?_
  refine' Mine.sb_load ?ho ?_; (case ho => exact Mem.at D16 0 _ _ rfl)
  refine' Mine.sb_load ?ho ?_; (case ho => exact Mem.at D16 0 _ _ rfl)
  refine Mine.sb_callB "super.__init__" rfl rfl (by decide +kernel) (by intro h; cases h) ?_; refine Mine.sb_code ?_
  refine' Mine.sb_load ?ho ?_; (case ho => exact Mem.at D16 0 _ _ rfl)
  refine Mine.sb_againD "super.__init__" rfl (by decide +kernel) (by decide +kernel) ?_; refine Mine.sb_code ?_
  refine' Mine.sb_load ?ho ?_; (case ho => exact Mem.at D16 2 _ _ rfl)
  refine' Mine.sb_load ?ho ?_; (case ho => exact Mem.at D16 2 _ _ rfl)
  refine' Mine.sb_load ?ho ?_; (case ho => exact Mem.at D16 2 _ _ rfl)
  refine Mine.sb_bind ?_
  refine Mine.sb_bind ?_
  refine Mine.sb_pure ?_
  refine Mine.sb_condT (Mine.cont_self _ _) ?_
  refine Mine.sb_pure ?_
  refine' Mine.sb_load ?ho ?_; (case ho => exact Mem.at D16 0 _ _ rfl)
  refine' Mine.sb_putT (Obj.mk (Value.type "super") none (PySem.Data.fields #[(Value.ref a3), Value.none, Value.none]) #[]) .head D16 ?hn rfl ?_; (case hn => kernel_rfl); intro h17 D17
  refine' Mine.sb_load ?ho ?_; (case ho => exact Mem.at D17 0 _ _ rfl)
  refine' Mine.sb_putT (Obj.mk (Value.type "super") none (PySem.Data.fields #[(Value.ref a3), (Value.ref a3), Value.none]) #[]) .head D17 ?hn rfl ?_; (case hn => kernel_rfl); intro h18 D18
  refine' Mine.sb_load ?ho ?_; (case ho => exact Mem.at D18 0 _ _ rfl)
  refine' Mine.sb_putT (Obj.mk (Value.type "super") none (PySem.Data.fields #[(Value.ref a3), (Value.ref a3), (Value.ref a3)]) #[]) .head D18 ?hn rfl ?_; (case hn => kernel_rfl); intro h19 D19
  refine Mine.sb_done ?_
  refine Mine.sb_ret ?_
  refine Mine.sb_done ?_
  refine Mine.sb_ret ?_
  refine Mine.sb_fresh ?_
  refine' Mine.sb_load ?ho ?_; (case ho => exact Mem.at D19 0 _ _ rfl)
  refine Mine.sb_callB "super.__getattribute__" rfl rfl (by decide +kernel) (by intro h; cases h) ?_; refine Mine.sb_code ?_
  refine' Mine.sb_load ?ho ?_; (case ho => exact Mem.at D19 0 _ _ rfl)
  refine Mine.sb_againD "super.__getattribute__" rfl (by decide +kernel) (by decide +kernel) ?_; refine Mine.sb_code ?_
  refine' Mine.sb_load ?ho ?_; (case ho => exact Mem.at D19 0 _ _ rfl)
  refine' Mine.sb_load ?ho ?_; (case ho => exact Mem.at D19 0 _ _ rfl)
  refine' Mine.sb_load ?ho ?_; (case ho => exact Mem.at D19 0 _ _ rfl)
  refine' Mine.sb_load ?ho ?_; (case ho => (refine' Mine.sb_top ?hX ?hD ?hh ?hq; (case hX => assumption); (case hD => exact D19); (case hh => k_is); (case hq => exact rfl)))
  refine' Mine.sb_load ?ho ?_; (case ho => exact Mem.at D19 2 _ _ rfl)
  refine Mine.sb_bind ?_
  refine Mine.sb_pure ?_
  rw [Mine.beqH]; rotate_left; rfl
  refine Mine.sb_bind ?_
  refine Mine.sb_forL (Mine.drop_self _ _) ?_
  refine Mine.sb_callB "classmethod_descriptor.__get__" rfl rfl (by decide +kernel) (by intro h; cases h) ?_; refine Mine.sb_code ?_
  refine Mine.sb_againD "classmethod_descriptor.__get__" rfl (by decide +kernel) (by decide +kernel) ?_; refine Mine.sb_code ?_
  refine' Mine.sb_load ?ho ?_; (case ho => exact Mem.at D19 2 _ _ rfl)
  rw [Mine.own_obj]; rotate_left; (decide +kernel); rfl
  refine' Mine.sb_load ?ho ?_; (case ho => exact Mem.at D19 2 _ _ rfl)
  refine Mine.sb_bind ?_
  refine Mine.sb_bind ?_
  refine Mine.sb_bind ?_
  refine Mine.sb_bind ?_
  refine Mine.sb_pure ?_
  refine Mine.sb_pure ?_
  refine Mine.sb_pure ?_
  refine Mine.sb_condF rfl ?_
  refine Mine.sb_pure ?_
  refine Mine.sb_condF (Mine.ncont_two _ _) ?_
  rw [Mine.sis]; rotate_left; (decide +kernel)
  refine' Mine.sb_allocT (Obj.mk (Value.type "builtin_function_or_method") none (PySem.Data.fields #[(Value.builtin "object.__init_subclass__"), (Value.ref a3)]) #[]) ?ho D19 rfl ?_; (case ho => kernel_rfl); intro a6 h20 D20
  refine Mine.sb_done ?_
  refine Mine.sb_ret ?_
  refine Mine.sb_pure ?_
  refine Mine.sb_done ?_
  refine Mine.sb_ret ?_
  refine Mine.sb_call (by intro h; cases h) ?_; refine Mine.sb_code ?_
  refine' Mine.sb_load ?ho ?_; (case ho => exact Mem.at D20 0 _ _ rfl)
  refine' Mine.sb_load ?ho ?_; (case ho => exact Mem.at D20 3 _ _ rfl)
  refine' Mine.sb_load ?ho ?_; (case ho => exact Mem.at D20 3 _ _ rfl)
  refine' Mine.sb_load ?ho ?_; (case ho => exact Mem.at D20 3 _ _ rfl)
  refine' Mine.sb_load ?ho ?_; (case ho => exact Mem.at D20 3 _ _ rfl)
  refine Mine.sb_againD "object.__init_subclass__" rfl (by decide +kernel) (by decide +kernel) ?_; refine Mine.sb_code ?_
  refine Mine.sb_done ?_
  refine Mine.sb_ret ?_
  refine Mine.sb_done ?_
  exact hR a2 a3 a4 _ _ _ _ _ _ _ _ D20 (by k_dflt (walk_at "my_inn")) (by k_dflt (walk_at "my_inn")) (by k_dflt (walk_at "my_inn"))

end
theorem newt (w : World) (A : Around) (s : Shared) (R : Result → Shared → Prop) (KX : (hd.heap_1 w.params).In s.heap)
    (b3 b5 bS bT f1 f2 f3 f4 f5 f6 : Addr) (d1 d2 d3 d4 d5 d6 : FuncData) (u1 u2 u3 tk t1 t2 : Tok) (k0 k1 k2 k3 k4 k5 k6 k7 k8 k9 k10 k11 : Tok) (g0 g1 g2 g3 g4 g5 g6 g7 g8 g9 g10 g11 : Int)
    (ne5 : b5 ≠ sysModules) (x3 : s.heap.get? b3 = some { cls := .type "tuple", data := .seq #[.type "object"] })
    (xS : s.heap.get? bS = some { cls := .type "list", data := .seq #[.str (Str.ofString "obj") t1] })
    (xT : s.heap.get? bT = some { cls := .type "tuple", data := .seq #[.str (Str.ofString "obj") t2] })
    (x11 : s.heap.get? f1 = some { cls := .type "function", data := .func d1 })
    (x12 : s.heap.get? f2 = some { cls := .type "function", data := .func d2 })
    (x13 : s.heap.get? f3 = some { cls := .type "function", data := .func d3 })
    (x14 : s.heap.get? f4 = some { cls := .type "function", data := .func d4 })
    (x15 : s.heap.get? f5 = some { cls := .type "function", data := .func d5 })
    (x16 : s.heap.get? f6 = some { cls := .type "function", data := .func d6 })
    (x5 : s.heap.get? b5 = some (nsB bS bT f1 f2 f3 f4 f5 f6 u1 u2 u3 k0 k1 k2 k3 k4 k5 k6 k7 k8 k9 k10 k11 g0 g1 g2 g3 g4 g5 g6 g7 g8 g9 g10 g11))
    (hR : ∀ (a2 a3 a4 : Addr) (g12 g13 : Int) (k12 k13 t3 : Tok) (nw : List (Addr × Obj)) (h' : Heap) (tk' : Nat), Mem s.heap h' [] nw → (a3, clsO a3 a2 b3 tk u2) ∈ nw → (a2, nsO a4 bS bT f1 f2 f3 f4 f5 f6 u1 u3 k0 k2 k3 k4 k5 k6 k7 k8 k9 k10 k11 k12 k13 g0 g2 g3 g4 g5 g6 g7 g8 g9 g10 g11 g12 g13) ∈ nw → (a4, mdO a3 t3) ∈ nw →
      R (.ok (.ret (.ref a3))) { s with heap := h', toks := tk' }) :
    codeAny (model PySem.Challenge.pw_ij0186_01 w) A (.builtin "type.__new__" ⟨[.type "type", .str (Str.ofString "K") tk, .ref b3, .ref b5], []⟩) R s := by
  exact NT1_s.2 (fun w A R b3 b5 bS bT f1 f2 f3 f4 f5 f6 d1 d2 d3 d4 d5 d6 u1 u2 u3 tk t1 t2 k0 k1 k2 k3 k4 k5 k6 k7 k8 k9 k10 k11 g0 g1 g2 g3 g4 g5 g6 g7 g8 g9 g10 g11 h g d t os => ep_all _ (P := fun x => NT1_s.1 x.1.1 x.1.2.1 x.1.2.2.1 x.1.2.2.2.1 x.1.2.2.2.2.1 x.1.2.2.2.2.2.1 x.1.2.2.2.2.2.2.1 x.1.2.2.2.2.2.2.2 x.2.1.1 x.2.1.2.1 x.2.1.2.2.1 x.2.1.2.2.2.1 x.2.1.2.2.2.2.1 x.2.1.2.2.2.2.2.1 x.2.1.2.2.2.2.2.2.1 x.2.1.2.2.2.2.2.2.2 x.2.2.1.1 x.2.2.1.2.1 x.2.2.1.2.2.1 x.2.2.1.2.2.2.1 x.2.2.1.2.2.2.2.1 x.2.2.1.2.2.2.2.2.1 x.2.2.1.2.2.2.2.2.2.1 x.2.2.1.2.2.2.2.2.2.2 x.2.2.2.1.1 x.2.2.2.1.2.1 x.2.2.2.1.2.2.1 x.2.2.2.1.2.2.2.1 x.2.2.2.1.2.2.2.2.1 x.2.2.2.1.2.2.2.2.2.1 x.2.2.2.1.2.2.2.2.2.2.1 x.2.2.2.1.2.2.2.2.2.2.2 x.2.2.2.2.1.1 x.2.2.2.2.1.2.1 x.2.2.2.2.1.2.2.1 x.2.2.2.2.1.2.2.2.1 x.2.2.2.2.1.2.2.2.2.1 x.2.2.2.2.1.2.2.2.2.2.1 x.2.2.2.2.1.2.2.2.2.2.2.1 x.2.2.2.2.1.2.2.2.2.2.2.2 x.2.2.2.2.2.1.1 x.2.2.2.2.2.1.2.1 x.2.2.2.2.2.1.2.2.1 x.2.2.2.2.2.1.2.2.2.1 x.2.2.2.2.2.1.2.2.2.2.1 x.2.2.2.2.2.1.2.2.2.2.2.1 x.2.2.2.2.2.1.2.2.2.2.2.2.1 x.2.2.2.2.2.1.2.2.2.2.2.2.2 x.2.2.2.2.2.2.1 x.2.2.2.2.2.2.2.1 x.2.2.2.2.2.2.2.2.1 x.2.2.2.2.2.2.2.2.2.1 x.2.2.2.2.2.2.2.2.2.2.1 x.2.2.2.2.2.2.2.2.2.2.2) (by with_unfolding_all exact NT1_b) ((w, A, R, b3, b5, bS, bT, f1), (f2, f3, f4, f5, f6, d1, d2, d3), (d4, d5, d6, u1, u2, u3, tk, t1), (t2, k0, k1, k2, k3, k4, k5, k6), (k7, k8, k9, k10, k11, g0, g1, g2), (g3, g4, g5, g6, g7, g8, g9, g10), (g11, h, g, d, t, os))) w A s R KX b3 b5 bS bT f1 f2 f3 f4 f5 f6 d1 d2 d3 d4 d5 d6 u1 u2 u3 tk t1 t2 k0 k1 k2 k3 k4 k5 k6 k7 k8 k9 k10 k11 g0 g1 g2 g3 g4 g5 g6 g7 g8 g9 g10 g11 ne5 x3 xS xT x11 x12 x13 x14 x15 x16 x5 hR

end
section
open PySem.W.X
theorem newcls (w : World) (A : Around) (s : Shared) (R : Result → Shared → Prop) (KX : (hd.heap_1 w.params).In s.heap)
    (b3 b5 bS bT f1 f2 f3 f4 f5 f6 : Addr) (u1 u2 u3 tk t1 t2 : Tok) (k0 k1 k2 k3 k4 k5 k6 k7 k8 k9 k10 k11 : Tok) (g0 g1 g2 g3 g4 g5 g6 g7 g8 g9 g10 g11 : Int)
    (ne5 : b5 ≠ sysModules) (x3 : s.heap.get? b3 = some { cls := .type "tuple", data := .seq #[.type "object"] })
    (xS : s.heap.get? bS = some { cls := .type "list", data := .seq #[.str (Str.ofString "obj") t1] })
    (xT : s.heap.get? bT = some { cls := .type "tuple", data := .seq #[.str (Str.ofString "obj") t2] })
    (x11 : ∃ d1, s.heap.get? f1 = some { cls := .type "function", data := .func d1 })
    (x12 : ∃ d2, s.heap.get? f2 = some { cls := .type "function", data := .func d2 })
    (x13 : ∃ d3, s.heap.get? f3 = some { cls := .type "function", data := .func d3 })
    (x14 : ∃ d4, s.heap.get? f4 = some { cls := .type "function", data := .func d4 })
    (x15 : ∃ d5, s.heap.get? f5 = some { cls := .type "function", data := .func d5 })
    (x16 : ∃ d6, s.heap.get? f6 = some { cls := .type "function", data := .func d6 })
    (x5 : s.heap.get? b5 = some (nsB bS bT f1 f2 f3 f4 f5 f6 u1 u2 u3 k0 k1 k2 k3 k4 k5 k6 k7 k8 k9 k10 k11 g0 g1 g2 g3 g4 g5 g6 g7 g8 g9 g10 g11))
    (hR : ∀ (a2 a3 a4 : Addr) (g12 g13 : Int) (k12 k13 t3 : Tok) (nw : List (Addr × Obj)) (h' : Heap) (tk' : Nat), Mem s.heap h' [] nw → (a3, clsO a3 a2 b3 tk u2) ∈ nw → (a2, nsO a4 bS bT f1 f2 f3 f4 f5 f6 u1 u3 k0 k2 k3 k4 k5 k6 k7 k8 k9 k10 k11 k12 k13 g0 g2 g3 g4 g5 g6 g7 g8 g9 g10 g11 g12 g13) ∈ nw → (a4, mdO a3 t3) ∈ nw →
      R (.ok (.ret (.ref a3))) { s with heap := h', toks := tk' }) :
    codeAny (model PySem.Challenge.pw_ij0186_01 w) A (.call (.type "type") ⟨[.str (Str.ofString "K") tk, .ref b3, .ref b5], []⟩) R s := by
  obtain ⟨d1, x11⟩ := x11
  obtain ⟨d2, x12⟩ := x12
  obtain ⟨d3, x13⟩ := x13
  obtain ⟨d4, x14⟩ := x14
  obtain ⟨d5, x15⟩ := x15
  obtain ⟨d6, x16⟩ := x16
  have D := Mem.start s.heap
  obtain ⟨h, g, d, t, os⟩ := s
  refine sb_code ?_
  refine sb_againD "type.__call__" rfl (by decide +kernel) (by decide +kernel) ?_
  refine sb_codeE entry_typeCall PySem.W.XFast.xe215932591028220647 ?_
  unfold PySem.W.XFast.xw215932591028220647
  dsimp only
  refine sb_condT rfl ?_
  refine sb_condF rfl ?_
  refine sb_condF rfl ?_
  refine sb_condF rfl ?_
  refine sb_bind ?_
  refine sb_pure ?_
  refine sb_bind ?_
  refine sb_pure ?_
  refine sb_condF rfl ?_
  refine sb_bind ?_
  refine sb_bind ?_
  refine sb_pure ?_
  refine sb_bind ?_
  refine sb_bind ?_
  refine sb_bind ?_
  refine sb_bind ?_
  refine sb_pure ?_
  refine sb_bind ?_
  refine sb_bind ?_
  refine sb_bind ?_
  refine sb_pure ?_
  refine sb_pure ?_
  refine sb_pure ?_
  refine sb_pure ?_
  refine sb_condF (by kernel_rfl) ?_
  refine sb_pure ?_
  refine sb_pure ?_
  refine sb_pure ?_
  refine sb_bind ?_
  refine sb_pure ?_
  refine sb_bind ?_
  refine sb_bind ?_
  refine sb_callE (.call (.builtin "type.__new__") ⟨[.type "type", .str (Str.ofString "K") tk, .ref b3, .ref b5], []⟩) (by kernel_rfl) (by intro h; cases h) ?_
  refine sb_code ?_
  refine sb_againP "type.__new__" ⟨[.type "type", .str (Str.ofString "K") tk, .ref b3, .ref b5], []⟩ (by kernel_rfl) (by decide +kernel) ?_
  refine newt w _ _ _ KX b3 b5 bS bT f1 f2 f3 f4 f5 f6 d1 d2 d3 d4 d5 d6 u1 u2 u3 tk t1 t2 k0 k1 k2 k3 k4 k5 k6 k7 k8 k9 k10 k11 g0 g1 g2 g3 g4 g5 g6 g7 g8 g9 g10 g11 ne5 x3 xS xT x11 x12 x13 x14 x15 x16 x5 ?_
  intro a2 a3 a4 g12 g13 k12 k13 t3 nw h' tk' D' m3 m2 m4
  refine sb_ret ?_
  have E := Mem.start h'
  have y3 := (D'.nw _ m3).1
  dsimp only at y3
  refine sb_pure ?_
  refine sb_pure ?_
  refine sb_bind ?_
  refine' sb_load ?ho ?_; (case ho => exact Mem.old E _ _ (by with_reducible assumption) rfl)
  refine sb_pure ?_
  refine' sb_load ?ho ?_; (case ho => exact Mem.old E _ _ (by with_reducible assumption) rfl)
  refine sb_callB "type.__init__" rfl rfl (by decide +kernel) (by intro h; cases h) ?_; refine sb_code ?_
  refine' sb_load ?ho ?_; (case ho => exact Mem.old E _ _ (by with_reducible assumption) rfl)
  refine sb_againD "type.__init__" rfl (by decide +kernel) (by decide +kernel) ?_; refine sb_code ?_
  refine sb_done ?_
  refine sb_ret ?_
  refine sb_done ?_
  exact hR a2 a3 a4 g12 g13 k12 k13 t3 nw h' tk' D' m3 m2 m4

end
section
open PySem.W.X
noncomputable abbrev ko2 : Obj := (Obj.mk (Value.type "cell") none (PySem.Data.cell (some (Value.ref 822))) #[])
noncomputable abbrev ko11 : Obj := (Obj.mk (Value.type "tuple") none (PySem.Data.seq #[] 0) #[])
noncomputable abbrev ko12 : Obj := (Obj.mk Value.none none (PySem.Data.fields #[]) #[])
noncomputable abbrev ko13 (t : Tok) : Obj := (Obj.mk (Value.type "tuple") none (PySem.Data.seq #[(Value.str (Str.ofString "self") (t + 20)), (Value.str (Str.ofString "obj") (t + 21))] 0) #[])
noncomputable abbrev ko14 : Obj := (Obj.mk (Value.type "tuple") none (PySem.Data.seq #[] 0) #[])
noncomputable abbrev ko15 : Obj := (Obj.mk Value.none none (PySem.Data.func (PySem.FuncData.mk (Str.ofString "__init__") (Str.ofString "cmp_to_key.<locals>.K.__init__") (PySem.Arguments.mk [] [(PySem.Arg.mk (Str.ofString "self") none (Pos.mk 60 21 60 25)), (PySem.Arg.mk (Str.ofString "obj") none (Pos.mk 60 27 60 30))] none [] [] none []) (PySem.FuncBody.stmts [(PySem.Stmt.Assign [(PySem.Expr.Attribute (PySem.Expr.Name (Str.ofString "self") (Pos.mk 61 12 61 16)) (Str.ofString "obj") (Pos.mk 61 12 61 20))] (PySem.Expr.Name (Str.ofString "obj") (Pos.mk 61 23 61 26)) (Pos.mk 61 12 61 26))]) (PySem.Scope.mk PySem.ScopeKind.function [((Str.ofString "self"), PySem.NameKind.local), ((Str.ofString "obj"), PySem.NameKind.local)] false false []) 0 [] Value.none Value.none Value.none Value.none none Value.none Value.none 0)) #[])
noncomputable abbrev ko16 (t : Tok) (a11 : Addr) (a12 : Addr) (a13 : Addr) (a14 : Addr) (a15 : Addr) : Obj := (Obj.mk (Value.type "code") none (PySem.Data.fields #[(Value.str (Str.ofString "__init__") (t + 17)), (Value.str (Str.ofString "cmp_to_key.<locals>.K.__init__") (t + 18)), (Value.str (Str.ofString "/claim/cut.py") (t + 19)), (Value.int (60 : Int) 0), (Value.int (2 : Int) 0), (Value.int (0 : Int) 0), (Value.int (0 : Int) 0), (Value.int (19 : Int) 0), (Value.ref a11), (Value.bool true), (Value.int (318 : Int) 0), (Value.ref a12), Value.none, (Value.ref a13), (Value.ref a14), (Value.ref a15), (Value.int ((t + 22) : Int) 0), (Value.int (60 : Int) 0), (Value.str (Str.ofString "/claim/cut.py") (t + 23))]) #[])
noncomputable abbrev ko17 (a16 : Addr) : Obj := (Obj.mk (Value.type "function") none (PySem.Data.func (PySem.FuncData.mk (Str.ofString "__init__") (Str.ofString "cmp_to_key.<locals>.K.__init__") (PySem.Arguments.mk [] [(PySem.Arg.mk (Str.ofString "self") none (Pos.mk 60 21 60 25)), (PySem.Arg.mk (Str.ofString "obj") none (Pos.mk 60 27 60 30))] none [] [] none []) (PySem.FuncBody.stmts [(PySem.Stmt.Assign [(PySem.Expr.Attribute (PySem.Expr.Name (Str.ofString "self") (Pos.mk 61 12 61 16)) (Str.ofString "obj") (Pos.mk 61 12 61 20))] (PySem.Expr.Name (Str.ofString "obj") (Pos.mk 61 23 61 26)) (Pos.mk 61 12 61 26))]) (PySem.Scope.mk PySem.ScopeKind.function [((Str.ofString "self"), PySem.NameKind.local), ((Str.ofString "obj"), PySem.NameKind.local)] false false []) 3 [] Value.none Value.none Value.none (Value.str (Str.ofString "law_ij0186_01") 1331) none (Value.ref a16) Value.none 0)) #[])
noncomputable abbrev ko18 (a2 : Addr) : Obj := (Obj.mk (Value.type "tuple") none (PySem.Data.seq #[(Value.ref a2)] 0) #[])
noncomputable abbrev ko19 (t : Tok) : Obj := (Obj.mk (Value.type "tuple") none (PySem.Data.seq #[(Value.str (Str.ofString "mycmp") (t + 28))] 0) #[])
noncomputable abbrev ko20 : Obj := (Obj.mk Value.none none (PySem.Data.fields #[]) #[])
noncomputable abbrev ko21 (t : Tok) : Obj := (Obj.mk (Value.type "tuple") none (PySem.Data.seq #[(Value.str (Str.ofString "self") (t + 29)), (Value.str (Str.ofString "other") (t + 30))] 0) #[])
noncomputable abbrev ko22 : Obj := (Obj.mk (Value.type "tuple") none (PySem.Data.seq #[] 0) #[])
noncomputable abbrev ko23 : Obj := (Obj.mk Value.none none (PySem.Data.func (PySem.FuncData.mk (Str.ofString "__lt__") (Str.ofString "cmp_to_key.<locals>.K.__lt__") (PySem.Arguments.mk [] [(PySem.Arg.mk (Str.ofString "self") none (Pos.mk 63 19 63 23)), (PySem.Arg.mk (Str.ofString "other") none (Pos.mk 63 25 63 30))] none [] [] none []) (PySem.FuncBody.stmts [(PySem.Stmt.Return (some (PySem.Expr.Compare (PySem.Expr.Call (PySem.Expr.Name (Str.ofString "mycmp") (Pos.mk 64 19 64 24)) [(PySem.Expr.Attribute (PySem.Expr.Name (Str.ofString "self") (Pos.mk 64 25 64 29)) (Str.ofString "obj") (Pos.mk 64 25 64 33)), (PySem.Expr.Attribute (PySem.Expr.Name (Str.ofString "other") (Pos.mk 64 35 64 40)) (Str.ofString "obj") (Pos.mk 64 35 64 44))] [] (Pos.mk 64 19 64 45)) [PySem.CmpOp.Lt] [(PySem.Expr.Constant (PySem.Const.int (0 : Int)) 0 (Pos.mk 64 48 64 49))] (Pos.mk 64 19 64 49))) (Pos.mk 64 12 64 49))]) (PySem.Scope.mk PySem.ScopeKind.function [((Str.ofString "self"), PySem.NameKind.local), ((Str.ofString "other"), PySem.NameKind.local), ((Str.ofString "mycmp"), PySem.NameKind.free)] false false []) 0 [] Value.none Value.none Value.none Value.none none Value.none Value.none 0)) #[])
noncomputable abbrev ko24 (t : Tok) (a19 : Addr) (a20 : Addr) (a21 : Addr) (a22 : Addr) (a23 : Addr) : Obj := (Obj.mk (Value.type "code") none (PySem.Data.fields #[(Value.str (Str.ofString "__lt__") (t + 25)), (Value.str (Str.ofString "cmp_to_key.<locals>.K.__lt__") (t + 26)), (Value.str (Str.ofString "/claim/cut.py") (t + 27)), (Value.int (63 : Int) 0), (Value.int (2 : Int) 0), (Value.int (0 : Int) 0), (Value.int (0 : Int) 0), (Value.int (19 : Int) 0), (Value.ref a19), (Value.bool true), (Value.int (318 : Int) 0), (Value.ref a20), Value.none, (Value.ref a21), (Value.ref a22), (Value.ref a23), (Value.int ((t + 31) : Int) 0), (Value.int (63 : Int) 0), (Value.str (Str.ofString "/claim/cut.py") (t + 32))]) #[])
noncomputable abbrev ko25 (a2 : Addr) (a18 : Addr) (a24 : Addr) : Obj := (Obj.mk (Value.type "function") none (PySem.Data.func (PySem.FuncData.mk (Str.ofString "__lt__") (Str.ofString "cmp_to_key.<locals>.K.__lt__") (PySem.Arguments.mk [] [(PySem.Arg.mk (Str.ofString "self") none (Pos.mk 63 19 63 23)), (PySem.Arg.mk (Str.ofString "other") none (Pos.mk 63 25 63 30))] none [] [] none []) (PySem.FuncBody.stmts [(PySem.Stmt.Return (some (PySem.Expr.Compare (PySem.Expr.Call (PySem.Expr.Name (Str.ofString "mycmp") (Pos.mk 64 19 64 24)) [(PySem.Expr.Attribute (PySem.Expr.Name (Str.ofString "self") (Pos.mk 64 25 64 29)) (Str.ofString "obj") (Pos.mk 64 25 64 33)), (PySem.Expr.Attribute (PySem.Expr.Name (Str.ofString "other") (Pos.mk 64 35 64 40)) (Str.ofString "obj") (Pos.mk 64 35 64 44))] [] (Pos.mk 64 19 64 45)) [PySem.CmpOp.Lt] [(PySem.Expr.Constant (PySem.Const.int (0 : Int)) 0 (Pos.mk 64 48 64 49))] (Pos.mk 64 19 64 49))) (Pos.mk 64 12 64 49))]) (PySem.Scope.mk PySem.ScopeKind.function [((Str.ofString "self"), PySem.NameKind.local), ((Str.ofString "other"), PySem.NameKind.local), ((Str.ofString "mycmp"), PySem.NameKind.free)] false false []) 3 [((Str.ofString "mycmp"), a2)] Value.none Value.none Value.none (Value.str (Str.ofString "law_ij0186_01") 1331) none (Value.ref a24) (Value.ref a18) 0)) #[])
noncomputable abbrev ko34 (a2 : Addr) : Obj := (Obj.mk (Value.type "tuple") none (PySem.Data.seq #[(Value.ref a2)] 0) #[])
noncomputable abbrev ko35 (t : Tok) : Obj := (Obj.mk (Value.type "tuple") none (PySem.Data.seq #[(Value.str (Str.ofString "mycmp") (t + 46))] 0) #[])
noncomputable abbrev ko36 : Obj := (Obj.mk Value.none none (PySem.Data.fields #[]) #[])
noncomputable abbrev ko37 (t : Tok) : Obj := (Obj.mk (Value.type "tuple") none (PySem.Data.seq #[(Value.str (Str.ofString "self") (t + 47)), (Value.str (Str.ofString "other") (t + 48))] 0) #[])
noncomputable abbrev ko38 : Obj := (Obj.mk (Value.type "tuple") none (PySem.Data.seq #[] 0) #[])
noncomputable abbrev ko39 : Obj := (Obj.mk Value.none none (PySem.Data.func (PySem.FuncData.mk (Str.ofString "__eq__") (Str.ofString "cmp_to_key.<locals>.K.__eq__") (PySem.Arguments.mk [] [(PySem.Arg.mk (Str.ofString "self") none (Pos.mk 69 19 69 23)), (PySem.Arg.mk (Str.ofString "other") none (Pos.mk 69 25 69 30))] none [] [] none []) (PySem.FuncBody.stmts [(PySem.Stmt.Return (some (PySem.Expr.Compare (PySem.Expr.Call (PySem.Expr.Name (Str.ofString "mycmp") (Pos.mk 70 19 70 24)) [(PySem.Expr.Attribute (PySem.Expr.Name (Str.ofString "self") (Pos.mk 70 25 70 29)) (Str.ofString "obj") (Pos.mk 70 25 70 33)), (PySem.Expr.Attribute (PySem.Expr.Name (Str.ofString "other") (Pos.mk 70 35 70 40)) (Str.ofString "obj") (Pos.mk 70 35 70 44))] [] (Pos.mk 70 19 70 45)) [PySem.CmpOp.Eq] [(PySem.Expr.Constant (PySem.Const.int (0 : Int)) 0 (Pos.mk 70 49 70 50))] (Pos.mk 70 19 70 50))) (Pos.mk 70 12 70 50))]) (PySem.Scope.mk PySem.ScopeKind.function [((Str.ofString "self"), PySem.NameKind.local), ((Str.ofString "other"), PySem.NameKind.local), ((Str.ofString "mycmp"), PySem.NameKind.free)] false false []) 0 [] Value.none Value.none Value.none Value.none none Value.none Value.none 0)) #[])
noncomputable abbrev ko40 (t : Tok) (a35 : Addr) (a36 : Addr) (a37 : Addr) (a38 : Addr) (a39 : Addr) : Obj := (Obj.mk (Value.type "code") none (PySem.Data.fields #[(Value.str (Str.ofString "__eq__") (t + 43)), (Value.str (Str.ofString "cmp_to_key.<locals>.K.__eq__") (t + 44)), (Value.str (Str.ofString "/claim/cut.py") (t + 45)), (Value.int (69 : Int) 0), (Value.int (2 : Int) 0), (Value.int (0 : Int) 0), (Value.int (0 : Int) 0), (Value.int (19 : Int) 0), (Value.ref a35), (Value.bool true), (Value.int (318 : Int) 0), (Value.ref a36), Value.none, (Value.ref a37), (Value.ref a38), (Value.ref a39), (Value.int ((t + 49) : Int) 0), (Value.int (69 : Int) 0), (Value.str (Str.ofString "/claim/cut.py") (t + 50))]) #[])
noncomputable abbrev ko41 (a2 : Addr) (a34 : Addr) (a40 : Addr) : Obj := (Obj.mk (Value.type "function") none (PySem.Data.func (PySem.FuncData.mk (Str.ofString "__eq__") (Str.ofString "cmp_to_key.<locals>.K.__eq__") (PySem.Arguments.mk [] [(PySem.Arg.mk (Str.ofString "self") none (Pos.mk 69 19 69 23)), (PySem.Arg.mk (Str.ofString "other") none (Pos.mk 69 25 69 30))] none [] [] none []) (PySem.FuncBody.stmts [(PySem.Stmt.Return (some (PySem.Expr.Compare (PySem.Expr.Call (PySem.Expr.Name (Str.ofString "mycmp") (Pos.mk 70 19 70 24)) [(PySem.Expr.Attribute (PySem.Expr.Name (Str.ofString "self") (Pos.mk 70 25 70 29)) (Str.ofString "obj") (Pos.mk 70 25 70 33)), (PySem.Expr.Attribute (PySem.Expr.Name (Str.ofString "other") (Pos.mk 70 35 70 40)) (Str.ofString "obj") (Pos.mk 70 35 70 44))] [] (Pos.mk 70 19 70 45)) [PySem.CmpOp.Eq] [(PySem.Expr.Constant (PySem.Const.int (0 : Int)) 0 (Pos.mk 70 49 70 50))] (Pos.mk 70 19 70 50))) (Pos.mk 70 12 70 50))]) (PySem.Scope.mk PySem.ScopeKind.function [((Str.ofString "self"), PySem.NameKind.local), ((Str.ofString "other"), PySem.NameKind.local), ((Str.ofString "mycmp"), PySem.NameKind.free)] false false []) 3 [((Str.ofString "mycmp"), a2)] Value.none Value.none Value.none (Value.str (Str.ofString "law_ij0186_01") 1331) none (Value.ref a40) (Value.ref a34) 0)) #[])
/-- the rows that the class K is made of -/
noncomputable abbrev kRows (w : World) (c3 : Addr) (t : Tok) (c2 c4 a2 a3 a10 a11 a12 a13 a14 a15 a16 a17 a18 a19 a20 a21 a22 a23 a24 a25 a33 a34 a35 a36 a37 a38 a39 a40 a41 a49 a57 a58 : Addr) (g12 g13 : Int) (k12 k13 t3 : Tok) : List (Addr × Obj) := [(c3, clsO c3 c2 a3 t (t + 9)), (c2, nsO c4 a10 a58 a17 a25 a33 a41 a49 a57 (t + 13) (t + 11) (t + 8) (t + 12) (t + 16) (t + 24) (t + 33) (t + 42) (t + 51) (t + 60) (t + 69) (t + 70) (t + 72) k12 k13 (hashX w "__module__") (hashX w "__firstlineno__") (hashR w "__slots__") (hashR w "__init__") (hashR w "__lt__") (hashR w "__gt__") (hashR w "__eq__") (hashR w "__le__") (hashR w "__ge__") (hashR w "__hash__") (hashX w "__static_attributes__") g12 g13), (c4, mdO c3 t3), (a2, ko2), (a11, ko11), (a12, ko12), (a13, ko13 t), (a14, ko14), (a15, ko15), (a16, ko16 t a11 a12 a13 a14 a15), (a17, ko17 a16), (a18, ko18 a2), (a19, ko19 t), (a20, ko20), (a21, ko21 t), (a22, ko22), (a23, ko23), (a24, ko24 t a19 a20 a21 a22 a23), (a25, ko25 a2 a18 a24), (a34, ko34 a2), (a35, ko35 t), (a36, ko36), (a37, ko37 t), (a38, ko38), (a39, ko39), (a40, ko40 t a35 a36 a37 a38 a39), (a41, ko41 a2 a34 a40)]
inductive KIn (w : World) : List (Addr × Obj) → Addr → Prop | mk {c3 : Addr} (t : Tok) (c2 c4 a2 a3 a10 a11 a12 a13 a14 a15 a16 a17 a18 a19 a20 a21 a22 a23 a24 a25 a33 a34 a35 a36 a37 a38 a39 a40 a41 a49 a57 a58 : Addr) (g12 g13 : Int) (k12 k13 t3 : Tok) : KIn w (kRows w c3 t c2 c4 a2 a3 a10 a11 a12 a13 a14 a15 a16 a17 a18 a19 a20 a21 a22 a23 a24 a25 a33 a34 a35 a36 a37 a38 a39 a40 a41 a49 a57 a58 g12 g13 k12 k13 t3) c3
theorem sb_putS {α : Type} {prog : Program} {w : World} {A : Around} {Q : α → Shared → Prop} {E : Value → Shared → Prop} {h₀ h : Heap} {chg news news' : List (Addr × Obj)} {g : Array GenState} {d : Drawn} {t : Nat} {os : OsState} {a : Addr} {q : Option Value} {f : Obj → Obj} {k : Unit → Sem α} {o : Obj} (o' : Obj) (P : Put a o o' news news') (D : Mem h₀ h chg news) (hn : f o = o') (hf : o'.isFreed = false)
    (x : ∀ h', Mem h₀ h' chg news' → (∀ b ob, b ≠ a → h.get? b = some ob → h'.get? b = some ob) → wpAny (model prog w) A (k ()) Q E ⟨h', g, d, t, os⟩) : wpAny (model prog w) A (.update a q f k) Q E ⟨h, g, d, t, os⟩ := by
  subst hn
  obtain ⟨i, h1, h2⟩ := P.is
  subst h2
  exact wpAny_bind (m := updatePart a q f) (f := k) (wpAny_updatePart (D.at i _ _ h1) (x _ (D.update h1 hf) fun b ob hb e => (Heap.SameBut.update ..).extBut b ob hb e))
theorem sb_allocLt {α : Type} {prog : Program} {w : World} {A : Around} {Q : α → Shared → Prop} {E : Value → Shared → Prop} {h₀ h : Heap} {chg news : List (Addr × Obj)} {g : Array GenState} {d : Drawn} {t : Nat} {os : OsState} {o : Obj} {k : Addr → Sem α} (o' : Obj) (ho : o = o') (D : Mem h₀ h chg news) (hf : o'.isFreed = false)
    (x : ∀ a h', Mem h₀ h' chg ((a, o') :: news) → (∀ b ob, h.get? b = some ob → b < a) → wpAny (model prog w) A (k a) Q E ⟨h', g, d, t, os⟩) : wpAny (model prog w) A (.alloc o k) Q E ⟨h, g, d, t, os⟩ := by
  subst ho
  exact wpAny_bind (m := alloc o) (f := k) (wpAny_alloc (x _ _ (D.alloc hf) fun b ob e => Heap.lt_size e))
theorem sb_allocL {α : Type} {prog : Program} {w : World} {A : Around} {Q : α → Shared → Prop} {E : Value → Shared → Prop} {h₀ h : Heap} {chg news : List (Addr × Obj)} {g : Array GenState} {d : Drawn} {t : Nat} {os : OsState} {o : Obj} {k : Addr → Sem α} (o' : Obj) (ho : o = o') (D : Mem h₀ h chg news) (hf : o'.isFreed = false)
    (x : ∀ a h', let ob := o'; let nw := (a, ob) :: news; Mem h₀ h' chg nw → wpAny (model prog w) A (k a) Q E ⟨h', g, d, t, os⟩) : wpAny (model prog w) A (.alloc o k) Q E ⟨h, g, d, t, os⟩ := sb_allocT o' ho D hf x
theorem sb_allocLtL {α : Type} {prog : Program} {w : World} {A : Around} {Q : α → Shared → Prop} {E : Value → Shared → Prop} {h₀ h : Heap} {chg news : List (Addr × Obj)} {g : Array GenState} {d : Drawn} {t : Nat} {os : OsState} {o : Obj} {k : Addr → Sem α} (o' : Obj) (ho : o = o') (D : Mem h₀ h chg news) (hf : o'.isFreed = false)
    (x : ∀ a h', let ob := o'; let nw := (a, ob) :: news; Mem h₀ h' chg nw → (∀ b ob, h.get? b = some ob → b < a) → wpAny (model prog w) A (k a) Q E ⟨h', g, d, t, os⟩) : wpAny (model prog w) A (.alloc o k) Q E ⟨h, g, d, t, os⟩ := sb_allocLt o' ho D hf x
theorem sb_putL {α : Type} {prog : Program} {w : World} {A : Around} {Q : α → Shared → Prop} {E : Value → Shared → Prop} {h₀ h : Heap} {chg news : List (Addr × Obj)} {g : Array GenState} {d : Drawn} {t : Nat} {os : OsState} {a : Addr} {q : Option Value} {f : Obj → Obj} {k : Unit → Sem α} {o : Obj} (i : Nat) (o' : Obj) (hi : news[i]? = some (a, o)) (D : Mem h₀ h chg news) (hn : f o = o') (hf : o'.isFreed = false)
    (x : ∀ h', let ob := o'; let nw := news.set i (a, ob); Mem h₀ h' chg nw → (∀ b ob, b ≠ a → h.get? b = some ob → h'.get? b = some ob) → wpAny (model prog w) A (k ()) Q E ⟨h', g, d, t, os⟩) : wpAny (model prog w) A (.update a q f k) Q E ⟨h, g, d, t, os⟩ := by
  subst hn
  exact wpAny_bind (m := updatePart a q f) (f := k) (wpAny_updatePart (D.at i _ _ hi) (x _ (D.update hi hf) fun b ob hb e => (Heap.SameBut.update ..).extBut b ob hb e))
theorem sb_freshN {α : Type} {prog : Program} {w : World} {A : Around} {Q : α → Shared → Prop} {E : Value → Shared → Prop} {h : Heap} {g : Array GenState} {d : Drawn} {t : Nat} {os : OsState} {k : Tok → Sem α} (n m : Nat) (e : m = n + 1) (x : wpAny (model prog w) A (k (t + n)) Q E ⟨h, g, d, t + m, os⟩) : wpAny (model prog w) A (.fresh k) Q E ⟨h, g, d, t + n, os⟩ := by
  subst e; exact sb_fresh x
example : True := by
  (k_with "my_inn" => first | exact List.Mem.head _ | (refine' List.Mem.tail _ ?_; walk_at "my_inn"))
  trivial
noncomputable def BY1_s : {P : World → (List Env) → (Value → Shared → Prop) → Obj → Obj → Heap → (Array GenState) → Drawn → Nat → OsState → Prop // (∀ w fr Q o0 ob4 h g d t os, P w fr Q o0 ob4 h g d t os) → (∀ (w : World) (fr : List Env) (s : Shared) (Q : Value → Shared → Prop) (KX : (hd.heap_1 w.params).In s.heap) (hl : s.heap.NoLimit) (hT : s.heap.get? 88 = some (tabObj #[])) (hCd : CodeHd s.heap 92 88) (o0 : Obj) (ob4 : Obj) (hb4 : s.heap.get? 4 = some ⟨.type "module", some 0, .plain, ob4.slots⟩) (hb0 : s.heap.get? 0 = some o0) (hob : nsLook (Str.ofString "object") o0 = pure (some (.type "object"))) (hbc : nsLook (Str.ofString "__build_class__") o0 = pure (some (.builtin "__build_class__"))) (hR : ∀ (KR : List (Addr × Obj)) (tab : Array Value) (c3 : Addr) (h' : Heap) (tk' : Nat), KIn w KR c3 → (∀ p ∈ KR, h'.get? p.1 = some p.2 ∧ s.heap.get? p.1 = none) → (∀ b o, b ≠ 88 → s.heap.get? b = some o → h'.get? b = some o) → h'.get? 88 = some (tabObj tab) → Q (.ref c3) { s with heap := h', toks := tk' }), wpAny (model PySem.Challenge.pw_ij0186_01 w) { handled := none, depth := 700, frames := some fr, guards := none, units := 6000 } (call (.ref 93) [.ref 822]) Q (fun _ _ => False) s)} := by
  refine' ⟨_, fun HC1 => ?hcut⟩
  case hcut =>
    intro w fr s Q KX hl hT hCd o0 ob4 hb4 hb0 hob hbc hR
    have D := Mem.start s.heap
    obtain ⟨h, g, d, t, os⟩ := s
    revert hob hbc KX hl hT hCd hb4 hb0 hR D
    exact HC1 w fr Q o0 ob4 h g d t os
@[irreducible] noncomputable def BY1_e : (World × (List Env) × (Value → Shared → Prop) × Obj × Obj × Heap × (Array GenState) × Drawn) × (Nat × OsState) := Ep (by first | infer_instance | (repeat' (first | exact neW | exact neA | exact neS | infer_instance | refine neP ?_ ?_ | (refine ⟨?_⟩; constructor <;> exact default) | (refine ⟨?_⟩; constructor)))) fun x => BY1_s.1 x.1.1 x.1.2.1 x.1.2.2.1 x.1.2.2.2.1 x.1.2.2.2.2.1 x.1.2.2.2.2.2.1 x.1.2.2.2.2.2.2.1 x.1.2.2.2.2.2.2.2 x.2.1 x.2.2
namespace BY1
noncomputable section
 @[irreducible] def w := BY1_e.1.1
 @[irreducible] def fr := BY1_e.1.2.1
 @[irreducible] def Q := BY1_e.1.2.2.1
 @[irreducible] def o0 := BY1_e.1.2.2.2.1
 @[irreducible] def ob4 := BY1_e.1.2.2.2.2.1
 @[irreducible] def h := BY1_e.1.2.2.2.2.2.1
 @[irreducible] def g := BY1_e.1.2.2.2.2.2.2.1
 @[irreducible] def d := BY1_e.1.2.2.2.2.2.2.2
 @[irreducible] def t := BY1_e.2.1
 @[irreducible] def os := BY1_e.2.2
end
end BY1
section
open BY1
theorem BY1_b : BY1_s.1 BY1.w BY1.fr BY1.Q BY1.o0 BY1.ob4 BY1.h BY1.g BY1.d BY1.t BY1.os := by
  intro hob hbc KX hl hT hCd hb4 hb0 hR D
  refine sb_call (by intro h; cases h) ?_
  refine sb_code ?_
  rw [PySem.W.XFast.xe12049290149238594875] at hbc hob
  refine' sb_load ?ho ?_; (case ho => (refine' sb_top ?hX ?hD ?hh ?hq; (case hX => assumption); (case hD => exact D); (case hh => k_is); (case hq => exact rfl)))
  refine' sb_load ?ho ?_; (case ho => (refine' sb_top ?hX ?hD ?hh ?hq; (case hX => assumption); (case hD => exact D); (case hh => k_is); (case hq => exact rfl)))
  refine' sb_allocL (Obj.mk (Value.type "frame") none (PySem.Data.dict #[] 0) #[]) ?ho D rfl ?_; (case ho => kernel_rfl); intro a1 h1 b1_ w1_ D1
  refine' sb_allocL (Obj.mk (Value.type "cell") none (PySem.Data.cell none) #[]) ?ho D1 rfl ?_; (case ho => kernel_rfl); intro a2 h2 b2_ w2_ D2
  refine' sb_load ?ho ?_; (case ho => exact Mem.at D2 0 a2 b2_ (by kernel_rfl))
  refine' sb_putL (o := b2_) 0 (Obj.mk (Value.type "cell") none (PySem.Data.cell (some (Value.ref 822))) #[]) (by kernel_rfl) D2 ?hn rfl ?_; (case hn => kernel_rfl); intro h3 b3_ w3_ D3 _
  refine sb_stack ?_; intro b1 l1
  refine sb_enter l1 D3 hl rfl rfl rfl ?_
  refine sb_again rfl ?_; refine sb_code ?_
  refine sb_point ?_
  refine sb_at ?_
  refine' sb_load ?ho ?_; (case ho => exact Mem.old D3 _ _ (by assumption) (Bool.or_true _))
  refine sb_bind ?_
  refine sb_onRaise ?_
  refine sb_bind ?_
  refine sb_bind ?_
  refine sb_bind ?_
  refine sb_bind ?_
  refine sb_pure ?_
  refine sb_to hbc ?_
  refine sb_pure ?_
  refine sb_pure ?_
  refine sb_at ?_
  refine' sb_load ?ho ?_; (case ho => (refine' sb_top ?hX ?hD ?hh ?hq; (case hX => assumption); (case hD => exact D3); (case hh => k_is); (case hq => exact rfl)))
  refine' sb_load ?ho ?_; (case ho => exact Mem.old D3 _ _ (by assumption) (Bool.or_true _))
  refine sb_bind ?_
  refine sb_bind ?_
  refine sb_bind ?_
  refine sb_bind ?_
  refine sb_bind ?_
  refine sb_bind ?_
  refine sb_pure ?_
  refine sb_to hob ?_
  refine sb_pure ?_
  refine sb_pure ?_
  refine sb_pure ?_
  refine sb_pure ?_
  refine sb_at ?_
  refine' sb_allocL (Obj.mk (Value.type "tuple") none (PySem.Data.seq #[(Value.type "object")] 0) #[]) ?ho D3 rfl ?_; (case ho => kernel_rfl); intro a3 h4 b4_ w4_ D4
  refine sb_fresh ?_
  rw [mt_object]
  refine sb_freshN 1 2 rfl ?_
  refine sb_callB "type.__getattribute__" rfl rfl (by decide +kernel) (by intro h; cases h) ?_; refine sb_code ?_
  refine sb_againD "type.__getattribute__" rfl (by decide +kernel) (by decide +kernel) ?_; refine sb_code ?_
  refine sb_callB "classmethod_descriptor.__get__" rfl rfl (by decide +kernel) (by intro h; cases h) ?_; refine sb_code ?_
  refine sb_againD "classmethod_descriptor.__get__" rfl (by decide +kernel) (by decide +kernel) ?_; refine sb_code ?_
  refine' sb_allocL (Obj.mk (Value.type "builtin_function_or_method") none (PySem.Data.fields #[(Value.builtin "type.__prepare__"), (Value.type "type")]) #[]) ?ho D4 rfl ?_; (case ho => kernel_rfl); intro a4 h5 b5_ w5_ D5
  refine sb_done ?_
  refine sb_ret ?_
  refine sb_done ?_
  refine sb_ret ?_
  refine sb_call (by intro h; cases h) ?_; refine sb_code ?_
  refine' sb_load ?ho ?_; (case ho => exact Mem.at D5 0 a4 b5_ (by kernel_rfl))
  refine sb_againD "type.__prepare__" rfl (by decide +kernel) (by decide +kernel) ?_; refine sb_code ?_
  refine' sb_allocLtL (Obj.mk (Value.type "dict") none (PySem.Data.dict #[] 0) #[]) ?ho D5 rfl ?_; (case ho => kernel_rfl); intro a5 h6 b6_ w6_ D6 lt5; have n5 : a5 ≠ sysModules := (fun e => by have z := lt5 3 _ (sb_top (K := hd.heap_1 w.params) (by assumption) D5 (by k_is) rfl); rw [e] at z; exact absurd z (by decide))
  refine sb_done ?_
  refine sb_ret ?_
  refine sb_keep ?_
  refine sb_bind ?_
  refine sb_pure ?_
  refine sb_bind ?_
  refine sb_condF (decide_eq_false n5) ?_
  refine sb_pure ?_
  refine' sb_load ?ho ?_; (case ho => exact Mem.at D6 0 a5 b6_ (by kernel_rfl))
  refine' sb_load ?ho ?_; (case ho => (refine' sb_top ?hX ?hD ?hh ?hq; (case hX => assumption); (case hD => exact D6); (case hh => k_is); (case hq => exact rfl)))
  rw [am_eq]
  refine' sb_load ?ho ?_; (case ho => exact Mem.old D6 _ _ (by assumption) (Bool.or_true _))
  refine sb_freshN 2 3 rfl ?_
  refine sb_freshN 3 4 rfl ?_
  refine sb_freshN 4 5 rfl ?_
  refine sb_freshN 5 6 rfl ?_
  refine' sb_allocL (Obj.mk (Value.type "tuple") none (PySem.Data.seq #[(Value.str (Str.ofString "mycmp") (t + 5))] 0) #[]) ?ho D6 rfl ?_; (case ho => kernel_rfl); intro a6 h7 b7_ w7_ D7
  refine' sb_allocL (Obj.mk Value.none none (PySem.Data.fields #[]) #[]) ?ho D7 rfl ?_; (case ho => kernel_rfl); intro a7 h8 b8_ w8_ D8
  refine sb_freshN 6 7 rfl ?_
  refine sb_freshN 7 8 rfl ?_
  refine' sb_allocL (Obj.mk (Value.type "code") none (PySem.Data.fields #[(Value.str (Str.ofString "K") (t + 2)), (Value.str (Str.ofString "cmp_to_key.<locals>.K") (t + 3)), (Value.str (Str.ofString "/claim/cut.py") (t + 4)), (Value.int (56 : Int) 0), (Value.int (0 : Int) 0), (Value.int (0 : Int) 0), (Value.int (0 : Int) 0), (Value.int (0 : Int) 0), (Value.ref a6), (Value.bool true), (Value.int (318 : Int) 0), (Value.ref a7), Value.none, Value.none, Value.none, Value.none, (Value.int ((t + 6) : Int) 0), (Value.int (56 : Int) 0), (Value.str (Str.ofString "/claim/cut.py") (t + 7))]) #[]) ?ho D8 rfl ?_; (case ho => kernel_rfl); intro a8 h9 b9_ w9_ D9
  refine' sb_load ?ho ?_; (case ho => exact Mem.old D9 _ _ (by assumption) (Bool.or_true _))
  refine' sb_grow2 (c₀ := 92) (more := #[rawInt 56, rawInt 4, .ref a8]) (by assumption) D9 rfl ?e1 ?e2 ?e3 ?e4 ?hn ?_; (case e1 => k_is); (case e2 => rfl); (case e3 => rfl); (case e4 => assumption); (case hn => rfl); intro h10 D10
  refine' sb_load ?ho ?_; (case ho => exact Mem.atC D10 0 _ _ rfl)
  refine' sb_load ?ho ?_; (case ho => (refine' sb_top ?hX ?hD ?hh ?hq; (case hX => assumption); (case hD => exact D10); (case hh => k_is); (case hq => exact rfl)))
  refine' sb_load ?ho ?_; (case ho => exact Mem.old D10 _ _ (by assumption) (Bool.or_true _))
  refine' sb_load ?ho ?_; (case ho => (refine' sb_top ?hX ?hD ?hh ?hq; (case hX => assumption); (case hD => exact D10); (case hh => k_is); (case hq => exact rfl)))
  refine' sb_allocL (Obj.mk (Value.type "frame") none PySem.Data.plain #[(some (Value.ref a8)), (some (Value.ref 3)), (some (Value.ref a5)), none, (some (Value.str (Str.ofString "law_ij0186_01") 1331)), none, (some (Value.ref 0))]) ?ho D10 rfl ?_; (case ho => kernel_rfl); intro a9 h11 b11_ w11_ D11
  refine sb_stack ?_; intro b2 l2
  refine sb_keep ?_
  refine sb_keep ?_
  refine sb_enter l2 D11 hl rfl rfl rfl ?_
  refine' sb_load ?ho ?_; (case ho => exact Mem.at D11 4 a5 b6_ (by kernel_rfl))
  refine' sb_load ?ho ?_; (case ho => exact Mem.at D11 4 a5 b6_ (by kernel_rfl))
  refine' sb_load ?ho ?_; (case ho => (refine' sb_top ?hX ?hD ?hh ?hq; (case hX => assumption); (case hD => exact D11); (case hh => k_is); (case hq => exact rfl)))
  refine' sb_load ?ho ?_; (case ho => exact Mem.at D11 4 a5 b6_ (by kernel_rfl))
  refine sb_ask ?_
  refine sb_freshN 8 9 rfl ?_
  refine' sb_load ?ho ?_; (case ho => exact Mem.at D11 4 a5 b6_ (by kernel_rfl))
  refine' sb_putL (o := b6_) 4 (Obj.mk (Value.type "dict") none (PySem.Data.dict #[(DictEntry.mk (hashX w "__module__") (Value.str (Str.ofString "__module__") (t + 8)) (Value.str (Str.ofString "law_ij0186_01") 1331))] 1) #[]) (by kernel_rfl) D11 ?hn rfl ?_; (case hn => kernel_rfl); intro h12 b12_ w12_ D12 _
  refine sb_freshN 9 10 rfl ?_
  refine' sb_load ?ho ?_; (case ho => exact Mem.at D12 4 a5 b12_ (by kernel_rfl))
  refine sb_ask ?_
  refine sb_freshN 10 11 rfl ?_
  refine' sb_load ?ho ?_; (case ho => exact Mem.at D12 4 a5 b12_ (by kernel_rfl))
  refine' sb_putL (o := b12_) 4 (Obj.mk (Value.type "dict") none (PySem.Data.dict #[(DictEntry.mk (hashX w "__module__") (Value.str (Str.ofString "__module__") (t + 8)) (Value.str (Str.ofString "law_ij0186_01") 1331)), (DictEntry.mk (hashX w "__qualname__") (Value.str (Str.ofString "__qualname__") (t + 10)) (Value.str (Str.ofString "cmp_to_key.<locals>.K") (t + 9)))] 2) #[]) (by kernel_rfl) D12 ?hn rfl ?_; (case hn => kernel_rfl); intro h13 b13_ w13_ D13 _
  refine sb_freshN 11 12 rfl ?_
  refine' sb_load ?ho ?_; (case ho => exact Mem.at D13 4 a5 b13_ (by kernel_rfl))
  refine sb_ask ?_
  refine sb_freshN 12 13 rfl ?_
  refine' sb_load ?ho ?_; (case ho => exact Mem.at D13 4 a5 b13_ (by kernel_rfl))
  refine' sb_putL (o := b13_) 4 (Obj.mk (Value.type "dict") none (PySem.Data.dict #[(DictEntry.mk (hashX w "__module__") (Value.str (Str.ofString "__module__") (t + 8)) (Value.str (Str.ofString "law_ij0186_01") 1331)), (DictEntry.mk (hashX w "__qualname__") (Value.str (Str.ofString "__qualname__") (t + 10)) (Value.str (Str.ofString "cmp_to_key.<locals>.K") (t + 9))), (DictEntry.mk (hashX w "__firstlineno__") (Value.str (Str.ofString "__firstlineno__") (t + 12)) (Value.int (56 : Int) (t + 11)))] 3) #[]) (by kernel_rfl) D13 ?hn rfl ?_; (case hn => kernel_rfl); intro h14 b14_ w14_ D14 _
  refine sb_call (by intro h; cases h) ?_; refine sb_codeR ?_
  refine sf_run [(3, tob w 3), (4, ⟨.type "module", some 0, .plain, ob4.slots⟩)] [fun _ => .u, fun _ => .tk, fun _ => .u, fun _ => .u, fun _ => .l 4, fun _ => .st, fun _ => .tk, fun _ => .l 4, fun as => .p 4 (Obj.mk (Value.type "dict") none (PySem.Data.dict #[(DictEntry.mk (hashX w "__module__") (Value.str (Str.ofString "__module__") (t + 8)) (Value.str (Str.ofString "cpy313.functools") (t + 13))), (DictEntry.mk (hashX w "__qualname__") (Value.str (Str.ofString "__qualname__") (t + 10)) (Value.str (Str.ofString "cmp_to_key.<locals>.K") (t + 9))), (DictEntry.mk (hashX w "__firstlineno__") (Value.str (Str.ofString "__firstlineno__") (t + 12)) (Value.int (56 : Int) (t + 11)))] 3) #[]), fun _ => .u, fun _ => .u, fun _ => .u, fun _ => .tk, fun as => .a (Obj.mk (Value.type "list") none (PySem.Data.seq #[(Value.str (Str.ofString "obj") (t + 15))] 0) #[]), fun _ => .u, fun _ => .u, fun _ => .l 5, fun _ => .st, fun _ => .tk, fun _ => .l 5, fun as => .p 5 (Obj.mk (Value.type "dict") none (PySem.Data.dict #[(DictEntry.mk (hashX w "__module__") (Value.str (Str.ofString "__module__") (t + 8)) (Value.str (Str.ofString "cpy313.functools") (t + 13))), (DictEntry.mk (hashX w "__qualname__") (Value.str (Str.ofString "__qualname__") (t + 10)) (Value.str (Str.ofString "cmp_to_key.<locals>.K") (t + 9))), (DictEntry.mk (hashX w "__firstlineno__") (Value.str (Str.ofString "__firstlineno__") (t + 12)) (Value.int (56 : Int) (t + 11))), (DictEntry.mk (hashR w "__slots__") (Value.str (Str.ofString "__slots__") (t + 16)) (Value.ref (as 0)))] 4) #[]), fun _ => .u, fun _ => .u, fun _ => .l 2, fun _ => .l 3, fun _ => .tk, fun _ => .tk, fun _ => .tk, fun as => .a (Obj.mk (Value.type "tuple") none (PySem.Data.seq #[] 0) #[]), fun as => .a (Obj.mk Value.none none (PySem.Data.fields #[]) #[]), fun _ => .tk, fun _ => .tk, fun as => .a (Obj.mk (Value.type "tuple") none (PySem.Data.seq #[(Value.str (Str.ofString "self") (t + 20)), (Value.str (Str.ofString "obj") (t + 21))] 0) #[]), fun as => .a (Obj.mk (Value.type "tuple") none (PySem.Data.seq #[] 0) #[]), fun as => .a (Obj.mk Value.none none (PySem.Data.func (PySem.FuncData.mk (Str.ofString "__init__") (Str.ofString "cmp_to_key.<locals>.K.__init__") (PySem.Arguments.mk [] [(PySem.Arg.mk (Str.ofString "self") none (Pos.mk 60 21 60 25)), (PySem.Arg.mk (Str.ofString "obj") none (Pos.mk 60 27 60 30))] none [] [] none []) (PySem.FuncBody.stmts [(PySem.Stmt.Assign [(PySem.Expr.Attribute (PySem.Expr.Name (Str.ofString "self") (Pos.mk 61 12 61 16)) (Str.ofString "obj") (Pos.mk 61 12 61 20))] (PySem.Expr.Name (Str.ofString "obj") (Pos.mk 61 23 61 26)) (Pos.mk 61 12 61 26))]) (PySem.Scope.mk PySem.ScopeKind.function [((Str.ofString "self"), PySem.NameKind.local), ((Str.ofString "obj"), PySem.NameKind.local)] false false []) 0 [] Value.none Value.none Value.none Value.none none Value.none Value.none 0)) #[]), fun _ => .tk, fun _ => .tk, fun as => .a (Obj.mk (Value.type "code") none (PySem.Data.fields #[(Value.str (Str.ofString "__init__") (t + 17)), (Value.str (Str.ofString "cmp_to_key.<locals>.K.__init__") (t + 18)), (Value.str (Str.ofString "/claim/cut.py") (t + 19)), (Value.int (60 : Int) 0), (Value.int (2 : Int) 0), (Value.int (0 : Int) 0), (Value.int (0 : Int) 0), (Value.int (19 : Int) 0), (Value.ref (as 1)), (Value.bool true), (Value.int (318 : Int) 0), (Value.ref (as 2)), Value.none, (Value.ref (as 3)), (Value.ref (as 4)), (Value.ref (as 5)), (Value.int ((t + 22) : Int) 0), (Value.int (60 : Int) 0), (Value.str (Str.ofString "/claim/cut.py") (t + 23))]) #[]), fun _ => .l 9, fun as => .p 9 (Obj.mk Value.none none (PySem.Data.fields #[(Value.int (60 : Int) 0), (Value.int (8 : Int) 0), (Value.ref (as 6))]) #[]), fun _ => .l 9, fun _ => .f 0, fun _ => .f 1, fun _ => .f 0, fun as => .a (Obj.mk (Value.type "function") none (PySem.Data.func (PySem.FuncData.mk (Str.ofString "__init__") (Str.ofString "cmp_to_key.<locals>.K.__init__") (PySem.Arguments.mk [] [(PySem.Arg.mk (Str.ofString "self") none (Pos.mk 60 21 60 25)), (PySem.Arg.mk (Str.ofString "obj") none (Pos.mk 60 27 60 30))] none [] [] none []) (PySem.FuncBody.stmts [(PySem.Stmt.Assign [(PySem.Expr.Attribute (PySem.Expr.Name (Str.ofString "self") (Pos.mk 61 12 61 16)) (Str.ofString "obj") (Pos.mk 61 12 61 20))] (PySem.Expr.Name (Str.ofString "obj") (Pos.mk 61 23 61 26)) (Pos.mk 61 12 61 26))]) (PySem.Scope.mk PySem.ScopeKind.function [((Str.ofString "self"), PySem.NameKind.local), ((Str.ofString "obj"), PySem.NameKind.local)] false false []) 3 [] Value.none Value.none Value.none (Value.str (Str.ofString "law_ij0186_01") 1331) none (Value.ref (as 6)) Value.none 0)) #[]), fun _ => .u, fun _ => .u, fun _ => .l 12, fun _ => .st, fun _ => .tk, fun _ => .l 12, fun as => .p 12 (Obj.mk (Value.type "dict") none (PySem.Data.dict #[(DictEntry.mk (hashX w "__module__") (Value.str (Str.ofString "__module__") (t + 8)) (Value.str (Str.ofString "cpy313.functools") (t + 13))), (DictEntry.mk (hashX w "__qualname__") (Value.str (Str.ofString "__qualname__") (t + 10)) (Value.str (Str.ofString "cmp_to_key.<locals>.K") (t + 9))), (DictEntry.mk (hashX w "__firstlineno__") (Value.str (Str.ofString "__firstlineno__") (t + 12)) (Value.int (56 : Int) (t + 11))), (DictEntry.mk (hashR w "__slots__") (Value.str (Str.ofString "__slots__") (t + 16)) (Value.ref (as 0))), (DictEntry.mk (hashR w "__init__") (Value.str (Str.ofString "__init__") (t + 24)) (Value.ref (as 7)))] 5) #[]), fun _ => .u, fun _ => .u, fun as => .a (Obj.mk (Value.type "tuple") none (PySem.Data.seq #[(Value.ref a2)] 0) #[]), fun _ => .l 10, fun _ => .l 11, fun _ => .tk, fun _ => .tk, fun _ => .tk, fun _ => .tk, fun as => .a (Obj.mk (Value.type "tuple") none (PySem.Data.seq #[(Value.str (Str.ofString "mycmp") (t + 28))] 0) #[]), fun as => .a (Obj.mk Value.none none (PySem.Data.fields #[]) #[]), fun _ => .tk, fun _ => .tk, fun as => .a (Obj.mk (Value.type "tuple") none (PySem.Data.seq #[(Value.str (Str.ofString "self") (t + 29)), (Value.str (Str.ofString "other") (t + 30))] 0) #[]), fun as => .a (Obj.mk (Value.type "tuple") none (PySem.Data.seq #[] 0) #[]), fun as => .a (Obj.mk Value.none none (PySem.Data.func (PySem.FuncData.mk (Str.ofString "__lt__") (Str.ofString "cmp_to_key.<locals>.K.__lt__") (PySem.Arguments.mk [] [(PySem.Arg.mk (Str.ofString "self") none (Pos.mk 63 19 63 23)), (PySem.Arg.mk (Str.ofString "other") none (Pos.mk 63 25 63 30))] none [] [] none []) (PySem.FuncBody.stmts [(PySem.Stmt.Return (some (PySem.Expr.Compare (PySem.Expr.Call (PySem.Expr.Name (Str.ofString "mycmp") (Pos.mk 64 19 64 24)) [(PySem.Expr.Attribute (PySem.Expr.Name (Str.ofString "self") (Pos.mk 64 25 64 29)) (Str.ofString "obj") (Pos.mk 64 25 64 33)), (PySem.Expr.Attribute (PySem.Expr.Name (Str.ofString "other") (Pos.mk 64 35 64 40)) (Str.ofString "obj") (Pos.mk 64 35 64 44))] [] (Pos.mk 64 19 64 45)) [PySem.CmpOp.Lt] [(PySem.Expr.Constant (PySem.Const.int (0 : Int)) 0 (Pos.mk 64 48 64 49))] (Pos.mk 64 19 64 49))) (Pos.mk 64 12 64 49))]) (PySem.Scope.mk PySem.ScopeKind.function [((Str.ofString "self"), PySem.NameKind.local), ((Str.ofString "other"), PySem.NameKind.local), ((Str.ofString "mycmp"), PySem.NameKind.free)] false false []) 0 [] Value.none Value.none Value.none Value.none none Value.none Value.none 0)) #[]), fun _ => .tk, fun _ => .tk, fun as => .a (Obj.mk (Value.type "code") none (PySem.Data.fields #[(Value.str (Str.ofString "__lt__") (t + 25)), (Value.str (Str.ofString "cmp_to_key.<locals>.K.__lt__") (t + 26)), (Value.str (Str.ofString "/claim/cut.py") (t + 27)), (Value.int (63 : Int) 0), (Value.int (2 : Int) 0), (Value.int (0 : Int) 0), (Value.int (0 : Int) 0), (Value.int (19 : Int) 0), (Value.ref (as 9)), (Value.bool true), (Value.int (318 : Int) 0), (Value.ref (as 10)), Value.none, (Value.ref (as 11)), (Value.ref (as 12)), (Value.ref (as 13)), (Value.int ((t + 31) : Int) 0), (Value.int (63 : Int) 0), (Value.str (Str.ofString "/claim/cut.py") (t + 32))]) #[]), fun _ => .l 17, fun as => .p 17 (Obj.mk Value.none none (PySem.Data.fields #[(Value.int (60 : Int) 0), (Value.int (8 : Int) 0), (Value.ref (as 6)), (Value.int (63 : Int) 0), (Value.int (8 : Int) 0), (Value.ref (as 14))]) #[]), fun _ => .l 17, fun _ => .f 0, fun _ => .f 1, fun _ => .f 0, fun as => .a (Obj.mk (Value.type "function") none (PySem.Data.func (PySem.FuncData.mk (Str.ofString "__lt__") (Str.ofString "cmp_to_key.<locals>.K.__lt__") (PySem.Arguments.mk [] [(PySem.Arg.mk (Str.ofString "self") none (Pos.mk 63 19 63 23)), (PySem.Arg.mk (Str.ofString "other") none (Pos.mk 63 25 63 30))] none [] [] none []) (PySem.FuncBody.stmts [(PySem.Stmt.Return (some (PySem.Expr.Compare (PySem.Expr.Call (PySem.Expr.Name (Str.ofString "mycmp") (Pos.mk 64 19 64 24)) [(PySem.Expr.Attribute (PySem.Expr.Name (Str.ofString "self") (Pos.mk 64 25 64 29)) (Str.ofString "obj") (Pos.mk 64 25 64 33)), (PySem.Expr.Attribute (PySem.Expr.Name (Str.ofString "other") (Pos.mk 64 35 64 40)) (Str.ofString "obj") (Pos.mk 64 35 64 44))] [] (Pos.mk 64 19 64 45)) [PySem.CmpOp.Lt] [(PySem.Expr.Constant (PySem.Const.int (0 : Int)) 0 (Pos.mk 64 48 64 49))] (Pos.mk 64 19 64 49))) (Pos.mk 64 12 64 49))]) (PySem.Scope.mk PySem.ScopeKind.function [((Str.ofString "self"), PySem.NameKind.local), ((Str.ofString "other"), PySem.NameKind.local), ((Str.ofString "mycmp"), PySem.NameKind.free)] false false []) 3 [((Str.ofString "mycmp"), a2)] Value.none Value.none Value.none (Value.str (Str.ofString "law_ij0186_01") 1331) none (Value.ref (as 14)) (Value.ref (as 8)) 0)) #[]), fun _ => .u, fun _ => .u, fun _ => .l 20, fun _ => .st, fun _ => .tk, fun _ => .l 20, fun as => .p 20 (Obj.mk (Value.type "dict") none (PySem.Data.dict #[(DictEntry.mk (hashX w "__module__") (Value.str (Str.ofString "__module__") (t + 8)) (Value.str (Str.ofString "cpy313.functools") (t + 13))), (DictEntry.mk (hashX w "__qualname__") (Value.str (Str.ofString "__qualname__") (t + 10)) (Value.str (Str.ofString "cmp_to_key.<locals>.K") (t + 9))), (DictEntry.mk (hashX w "__firstlineno__") (Value.str (Str.ofString "__firstlineno__") (t + 12)) (Value.int (56 : Int) (t + 11))), (DictEntry.mk (hashR w "__slots__") (Value.str (Str.ofString "__slots__") (t + 16)) (Value.ref (as 0))), (DictEntry.mk (hashR w "__init__") (Value.str (Str.ofString "__init__") (t + 24)) (Value.ref (as 7))), (DictEntry.mk (hashR w "__lt__") (Value.str (Str.ofString "__lt__") (t + 33)) (Value.ref (as 15)))] 6) #[]), fun _ => .u, fun _ => .u, fun as => .a (Obj.mk (Value.type "tuple") none (PySem.Data.seq #[(Value.ref a2)] 0) #[]), fun _ => .l 18, fun _ => .l 19, fun _ => .tk, fun _ => .tk, fun _ => .tk, fun _ => .tk, fun as => .a (Obj.mk (Value.type "tuple") none (PySem.Data.seq #[(Value.str (Str.ofString "mycmp") (t + 37))] 0) #[]), fun as => .a (Obj.mk Value.none none (PySem.Data.fields #[]) #[]), fun _ => .tk, fun _ => .tk, fun as => .a (Obj.mk (Value.type "tuple") none (PySem.Data.seq #[(Value.str (Str.ofString "self") (t + 38)), (Value.str (Str.ofString "other") (t + 39))] 0) #[]), fun as => .a (Obj.mk (Value.type "tuple") none (PySem.Data.seq #[] 0) #[]), fun as => .a (Obj.mk Value.none none (PySem.Data.func (PySem.FuncData.mk (Str.ofString "__gt__") (Str.ofString "cmp_to_key.<locals>.K.__gt__") (PySem.Arguments.mk [] [(PySem.Arg.mk (Str.ofString "self") none (Pos.mk 66 19 66 23)), (PySem.Arg.mk (Str.ofString "other") none (Pos.mk 66 25 66 30))] none [] [] none []) (PySem.FuncBody.stmts [(PySem.Stmt.Return (some (PySem.Expr.Compare (PySem.Expr.Call (PySem.Expr.Name (Str.ofString "mycmp") (Pos.mk 67 19 67 24)) [(PySem.Expr.Attribute (PySem.Expr.Name (Str.ofString "self") (Pos.mk 67 25 67 29)) (Str.ofString "obj") (Pos.mk 67 25 67 33)), (PySem.Expr.Attribute (PySem.Expr.Name (Str.ofString "other") (Pos.mk 67 35 67 40)) (Str.ofString "obj") (Pos.mk 67 35 67 44))] [] (Pos.mk 67 19 67 45)) [PySem.CmpOp.Gt] [(PySem.Expr.Constant (PySem.Const.int (0 : Int)) 0 (Pos.mk 67 48 67 49))] (Pos.mk 67 19 67 49))) (Pos.mk 67 12 67 49))]) (PySem.Scope.mk PySem.ScopeKind.function [((Str.ofString "self"), PySem.NameKind.local), ((Str.ofString "other"), PySem.NameKind.local), ((Str.ofString "mycmp"), PySem.NameKind.free)] false false []) 0 [] Value.none Value.none Value.none Value.none none Value.none Value.none 0)) #[]), fun _ => .tk, fun _ => .tk, fun as => .a (Obj.mk (Value.type "code") none (PySem.Data.fields #[(Value.str (Str.ofString "__gt__") (t + 34)), (Value.str (Str.ofString "cmp_to_key.<locals>.K.__gt__") (t + 35)), (Value.str (Str.ofString "/claim/cut.py") (t + 36)), (Value.int (66 : Int) 0), (Value.int (2 : Int) 0), (Value.int (0 : Int) 0), (Value.int (0 : Int) 0), (Value.int (19 : Int) 0), (Value.ref (as 17)), (Value.bool true), (Value.int (318 : Int) 0), (Value.ref (as 18)), Value.none, (Value.ref (as 19)), (Value.ref (as 20)), (Value.ref (as 21)), (Value.int ((t + 40) : Int) 0), (Value.int (66 : Int) 0), (Value.str (Str.ofString "/claim/cut.py") (t + 41))]) #[]), fun _ => .l 25, fun as => .p 25 (Obj.mk Value.none none (PySem.Data.fields #[(Value.int (60 : Int) 0), (Value.int (8 : Int) 0), (Value.ref (as 6)), (Value.int (63 : Int) 0), (Value.int (8 : Int) 0), (Value.ref (as 14)), (Value.int (66 : Int) 0), (Value.int (8 : Int) 0), (Value.ref (as 22))]) #[]), fun _ => .l 25, fun _ => .f 0, fun _ => .f 1, fun _ => .f 0, fun as => .a (Obj.mk (Value.type "function") none (PySem.Data.func (PySem.FuncData.mk (Str.ofString "__gt__") (Str.ofString "cmp_to_key.<locals>.K.__gt__") (PySem.Arguments.mk [] [(PySem.Arg.mk (Str.ofString "self") none (Pos.mk 66 19 66 23)), (PySem.Arg.mk (Str.ofString "other") none (Pos.mk 66 25 66 30))] none [] [] none []) (PySem.FuncBody.stmts [(PySem.Stmt.Return (some (PySem.Expr.Compare (PySem.Expr.Call (PySem.Expr.Name (Str.ofString "mycmp") (Pos.mk 67 19 67 24)) [(PySem.Expr.Attribute (PySem.Expr.Name (Str.ofString "self") (Pos.mk 67 25 67 29)) (Str.ofString "obj") (Pos.mk 67 25 67 33)), (PySem.Expr.Attribute (PySem.Expr.Name (Str.ofString "other") (Pos.mk 67 35 67 40)) (Str.ofString "obj") (Pos.mk 67 35 67 44))] [] (Pos.mk 67 19 67 45)) [PySem.CmpOp.Gt] [(PySem.Expr.Constant (PySem.Const.int (0 : Int)) 0 (Pos.mk 67 48 67 49))] (Pos.mk 67 19 67 49))) (Pos.mk 67 12 67 49))]) (PySem.Scope.mk PySem.ScopeKind.function [((Str.ofString "self"), PySem.NameKind.local), ((Str.ofString "other"), PySem.NameKind.local), ((Str.ofString "mycmp"), PySem.NameKind.free)] false false []) 3 [((Str.ofString "mycmp"), a2)] Value.none Value.none Value.none (Value.str (Str.ofString "law_ij0186_01") 1331) none (Value.ref (as 22)) (Value.ref (as 16)) 0)) #[]), fun _ => .u, fun _ => .u, fun _ => .l 28, fun _ => .st, fun _ => .tk, fun _ => .l 28, fun as => .p 28 (Obj.mk (Value.type "dict") none (PySem.Data.dict #[(DictEntry.mk (hashX w "__module__") (Value.str (Str.ofString "__module__") (t + 8)) (Value.str (Str.ofString "cpy313.functools") (t + 13))), (DictEntry.mk (hashX w "__qualname__") (Value.str (Str.ofString "__qualname__") (t + 10)) (Value.str (Str.ofString "cmp_to_key.<locals>.K") (t + 9))), (DictEntry.mk (hashX w "__firstlineno__") (Value.str (Str.ofString "__firstlineno__") (t + 12)) (Value.int (56 : Int) (t + 11))), (DictEntry.mk (hashR w "__slots__") (Value.str (Str.ofString "__slots__") (t + 16)) (Value.ref (as 0))), (DictEntry.mk (hashR w "__init__") (Value.str (Str.ofString "__init__") (t + 24)) (Value.ref (as 7))), (DictEntry.mk (hashR w "__lt__") (Value.str (Str.ofString "__lt__") (t + 33)) (Value.ref (as 15))), (DictEntry.mk (hashR w "__gt__") (Value.str (Str.ofString "__gt__") (t + 42)) (Value.ref (as 23)))] 7) #[]), fun _ => .u, fun _ => .u, fun as => .a (Obj.mk (Value.type "tuple") none (PySem.Data.seq #[(Value.ref a2)] 0) #[]), fun _ => .l 26, fun _ => .l 27, fun _ => .tk, fun _ => .tk, fun _ => .tk, fun _ => .tk, fun as => .a (Obj.mk (Value.type "tuple") none (PySem.Data.seq #[(Value.str (Str.ofString "mycmp") (t + 46))] 0) #[]), fun as => .a (Obj.mk Value.none none (PySem.Data.fields #[]) #[]), fun _ => .tk, fun _ => .tk, fun as => .a (Obj.mk (Value.type "tuple") none (PySem.Data.seq #[(Value.str (Str.ofString "self") (t + 47)), (Value.str (Str.ofString "other") (t + 48))] 0) #[]), fun as => .a (Obj.mk (Value.type "tuple") none (PySem.Data.seq #[] 0) #[]), fun as => .a (Obj.mk Value.none none (PySem.Data.func (PySem.FuncData.mk (Str.ofString "__eq__") (Str.ofString "cmp_to_key.<locals>.K.__eq__") (PySem.Arguments.mk [] [(PySem.Arg.mk (Str.ofString "self") none (Pos.mk 69 19 69 23)), (PySem.Arg.mk (Str.ofString "other") none (Pos.mk 69 25 69 30))] none [] [] none []) (PySem.FuncBody.stmts [(PySem.Stmt.Return (some (PySem.Expr.Compare (PySem.Expr.Call (PySem.Expr.Name (Str.ofString "mycmp") (Pos.mk 70 19 70 24)) [(PySem.Expr.Attribute (PySem.Expr.Name (Str.ofString "self") (Pos.mk 70 25 70 29)) (Str.ofString "obj") (Pos.mk 70 25 70 33)), (PySem.Expr.Attribute (PySem.Expr.Name (Str.ofString "other") (Pos.mk 70 35 70 40)) (Str.ofString "obj") (Pos.mk 70 35 70 44))] [] (Pos.mk 70 19 70 45)) [PySem.CmpOp.Eq] [(PySem.Expr.Constant (PySem.Const.int (0 : Int)) 0 (Pos.mk 70 49 70 50))] (Pos.mk 70 19 70 50))) (Pos.mk 70 12 70 50))]) (PySem.Scope.mk PySem.ScopeKind.function [((Str.ofString "self"), PySem.NameKind.local), ((Str.ofString "other"), PySem.NameKind.local), ((Str.ofString "mycmp"), PySem.NameKind.free)] false false []) 0 [] Value.none Value.none Value.none Value.none none Value.none Value.none 0)) #[]), fun _ => .tk, fun _ => .tk, fun as => .a (Obj.mk (Value.type "code") none (PySem.Data.fields #[(Value.str (Str.ofString "__eq__") (t + 43)), (Value.str (Str.ofString "cmp_to_key.<locals>.K.__eq__") (t + 44)), (Value.str (Str.ofString "/claim/cut.py") (t + 45)), (Value.int (69 : Int) 0), (Value.int (2 : Int) 0), (Value.int (0 : Int) 0), (Value.int (0 : Int) 0), (Value.int (19 : Int) 0), (Value.ref (as 25)), (Value.bool true), (Value.int (318 : Int) 0), (Value.ref (as 26)), Value.none, (Value.ref (as 27)), (Value.ref (as 28)), (Value.ref (as 29)), (Value.int ((t + 49) : Int) 0), (Value.int (69 : Int) 0), (Value.str (Str.ofString "/claim/cut.py") (t + 50))]) #[]), fun _ => .l 33, fun as => .p 33 (Obj.mk Value.none none (PySem.Data.fields #[(Value.int (60 : Int) 0), (Value.int (8 : Int) 0), (Value.ref (as 6)), (Value.int (63 : Int) 0), (Value.int (8 : Int) 0), (Value.ref (as 14)), (Value.int (66 : Int) 0), (Value.int (8 : Int) 0), (Value.ref (as 22)), (Value.int (69 : Int) 0), (Value.int (8 : Int) 0), (Value.ref (as 30))]) #[]), fun _ => .l 33, fun _ => .f 0, fun _ => .f 1, fun _ => .f 0, fun as => .a (Obj.mk (Value.type "function") none (PySem.Data.func (PySem.FuncData.mk (Str.ofString "__eq__") (Str.ofString "cmp_to_key.<locals>.K.__eq__") (PySem.Arguments.mk [] [(PySem.Arg.mk (Str.ofString "self") none (Pos.mk 69 19 69 23)), (PySem.Arg.mk (Str.ofString "other") none (Pos.mk 69 25 69 30))] none [] [] none []) (PySem.FuncBody.stmts [(PySem.Stmt.Return (some (PySem.Expr.Compare (PySem.Expr.Call (PySem.Expr.Name (Str.ofString "mycmp") (Pos.mk 70 19 70 24)) [(PySem.Expr.Attribute (PySem.Expr.Name (Str.ofString "self") (Pos.mk 70 25 70 29)) (Str.ofString "obj") (Pos.mk 70 25 70 33)), (PySem.Expr.Attribute (PySem.Expr.Name (Str.ofString "other") (Pos.mk 70 35 70 40)) (Str.ofString "obj") (Pos.mk 70 35 70 44))] [] (Pos.mk 70 19 70 45)) [PySem.CmpOp.Eq] [(PySem.Expr.Constant (PySem.Const.int (0 : Int)) 0 (Pos.mk 70 49 70 50))] (Pos.mk 70 19 70 50))) (Pos.mk 70 12 70 50))]) (PySem.Scope.mk PySem.ScopeKind.function [((Str.ofString "self"), PySem.NameKind.local), ((Str.ofString "other"), PySem.NameKind.local), ((Str.ofString "mycmp"), PySem.NameKind.free)] false false []) 3 [((Str.ofString "mycmp"), a2)] Value.none Value.none Value.none (Value.str (Str.ofString "law_ij0186_01") 1331) none (Value.ref (as 30)) (Value.ref (as 24)) 0)) #[]), fun _ => .u, fun _ => .u, fun _ => .l 36, fun _ => .st, fun _ => .tk, fun _ => .l 36, fun as => .p 36 (Obj.mk (Value.type "dict") none (PySem.Data.dict #[(DictEntry.mk (hashX w "__module__") (Value.str (Str.ofString "__module__") (t + 8)) (Value.str (Str.ofString "cpy313.functools") (t + 13))), (DictEntry.mk (hashX w "__qualname__") (Value.str (Str.ofString "__qualname__") (t + 10)) (Value.str (Str.ofString "cmp_to_key.<locals>.K") (t + 9))), (DictEntry.mk (hashX w "__firstlineno__") (Value.str (Str.ofString "__firstlineno__") (t + 12)) (Value.int (56 : Int) (t + 11))), (DictEntry.mk (hashR w "__slots__") (Value.str (Str.ofString "__slots__") (t + 16)) (Value.ref (as 0))), (DictEntry.mk (hashR w "__init__") (Value.str (Str.ofString "__init__") (t + 24)) (Value.ref (as 7))), (DictEntry.mk (hashR w "__lt__") (Value.str (Str.ofString "__lt__") (t + 33)) (Value.ref (as 15))), (DictEntry.mk (hashR w "__gt__") (Value.str (Str.ofString "__gt__") (t + 42)) (Value.ref (as 23))), (DictEntry.mk (hashR w "__eq__") (Value.str (Str.ofString "__eq__") (t + 51)) (Value.ref (as 31)))] 8) #[]), fun _ => .u, fun _ => .u, fun as => .a (Obj.mk (Value.type "tuple") none (PySem.Data.seq #[(Value.ref a2)] 0) #[]), fun _ => .l 34, fun _ => .l 35, fun _ => .tk, fun _ => .tk, fun _ => .tk, fun _ => .tk, fun as => .a (Obj.mk (Value.type "tuple") none (PySem.Data.seq #[(Value.str (Str.ofString "mycmp") (t + 55))] 0) #[]), fun as => .a (Obj.mk Value.none none (PySem.Data.fields #[]) #[]), fun _ => .tk, fun _ => .tk, fun as => .a (Obj.mk (Value.type "tuple") none (PySem.Data.seq #[(Value.str (Str.ofString "self") (t + 56)), (Value.str (Str.ofString "other") (t + 57))] 0) #[]), fun as => .a (Obj.mk (Value.type "tuple") none (PySem.Data.seq #[] 0) #[]), fun as => .a (Obj.mk Value.none none (PySem.Data.func (PySem.FuncData.mk (Str.ofString "__le__") (Str.ofString "cmp_to_key.<locals>.K.__le__") (PySem.Arguments.mk [] [(PySem.Arg.mk (Str.ofString "self") none (Pos.mk 72 19 72 23)), (PySem.Arg.mk (Str.ofString "other") none (Pos.mk 72 25 72 30))] none [] [] none []) (PySem.FuncBody.stmts [(PySem.Stmt.Return (some (PySem.Expr.Compare (PySem.Expr.Call (PySem.Expr.Name (Str.ofString "mycmp") (Pos.mk 73 19 73 24)) [(PySem.Expr.Attribute (PySem.Expr.Name (Str.ofString "self") (Pos.mk 73 25 73 29)) (Str.ofString "obj") (Pos.mk 73 25 73 33)), (PySem.Expr.Attribute (PySem.Expr.Name (Str.ofString "other") (Pos.mk 73 35 73 40)) (Str.ofString "obj") (Pos.mk 73 35 73 44))] [] (Pos.mk 73 19 73 45)) [PySem.CmpOp.LtE] [(PySem.Expr.Constant (PySem.Const.int (0 : Int)) 0 (Pos.mk 73 49 73 50))] (Pos.mk 73 19 73 50))) (Pos.mk 73 12 73 50))]) (PySem.Scope.mk PySem.ScopeKind.function [((Str.ofString "self"), PySem.NameKind.local), ((Str.ofString "other"), PySem.NameKind.local), ((Str.ofString "mycmp"), PySem.NameKind.free)] false false []) 0 [] Value.none Value.none Value.none Value.none none Value.none Value.none 0)) #[]), fun _ => .tk, fun _ => .tk, fun as => .a (Obj.mk (Value.type "code") none (PySem.Data.fields #[(Value.str (Str.ofString "__le__") (t + 52)), (Value.str (Str.ofString "cmp_to_key.<locals>.K.__le__") (t + 53)), (Value.str (Str.ofString "/claim/cut.py") (t + 54)), (Value.int (72 : Int) 0), (Value.int (2 : Int) 0), (Value.int (0 : Int) 0), (Value.int (0 : Int) 0), (Value.int (19 : Int) 0), (Value.ref (as 33)), (Value.bool true), (Value.int (318 : Int) 0), (Value.ref (as 34)), Value.none, (Value.ref (as 35)), (Value.ref (as 36)), (Value.ref (as 37)), (Value.int ((t + 58) : Int) 0), (Value.int (72 : Int) 0), (Value.str (Str.ofString "/claim/cut.py") (t + 59))]) #[]), fun _ => .l 41, fun as => .p 41 (Obj.mk Value.none none (PySem.Data.fields #[(Value.int (60 : Int) 0), (Value.int (8 : Int) 0), (Value.ref (as 6)), (Value.int (63 : Int) 0), (Value.int (8 : Int) 0), (Value.ref (as 14)), (Value.int (66 : Int) 0), (Value.int (8 : Int) 0), (Value.ref (as 22)), (Value.int (69 : Int) 0), (Value.int (8 : Int) 0), (Value.ref (as 30)), (Value.int (72 : Int) 0), (Value.int (8 : Int) 0), (Value.ref (as 38))]) #[]), fun _ => .l 41, fun _ => .f 0, fun _ => .f 1, fun _ => .f 0, fun as => .a (Obj.mk (Value.type "function") none (PySem.Data.func (PySem.FuncData.mk (Str.ofString "__le__") (Str.ofString "cmp_to_key.<locals>.K.__le__") (PySem.Arguments.mk [] [(PySem.Arg.mk (Str.ofString "self") none (Pos.mk 72 19 72 23)), (PySem.Arg.mk (Str.ofString "other") none (Pos.mk 72 25 72 30))] none [] [] none []) (PySem.FuncBody.stmts [(PySem.Stmt.Return (some (PySem.Expr.Compare (PySem.Expr.Call (PySem.Expr.Name (Str.ofString "mycmp") (Pos.mk 73 19 73 24)) [(PySem.Expr.Attribute (PySem.Expr.Name (Str.ofString "self") (Pos.mk 73 25 73 29)) (Str.ofString "obj") (Pos.mk 73 25 73 33)), (PySem.Expr.Attribute (PySem.Expr.Name (Str.ofString "other") (Pos.mk 73 35 73 40)) (Str.ofString "obj") (Pos.mk 73 35 73 44))] [] (Pos.mk 73 19 73 45)) [PySem.CmpOp.LtE] [(PySem.Expr.Constant (PySem.Const.int (0 : Int)) 0 (Pos.mk 73 49 73 50))] (Pos.mk 73 19 73 50))) (Pos.mk 73 12 73 50))]) (PySem.Scope.mk PySem.ScopeKind.function [((Str.ofString "self"), PySem.NameKind.local), ((Str.ofString "other"), PySem.NameKind.local), ((Str.ofString "mycmp"), PySem.NameKind.free)] false false []) 3 [((Str.ofString "mycmp"), a2)] Value.none Value.none Value.none (Value.str (Str.ofString "law_ij0186_01") 1331) none (Value.ref (as 38)) (Value.ref (as 32)) 0)) #[]), fun _ => .u, fun _ => .u, fun _ => .l 44, fun _ => .st, fun _ => .tk, fun _ => .l 44, fun as => .p 44 (Obj.mk (Value.type "dict") none (PySem.Data.dict #[(DictEntry.mk (hashX w "__module__") (Value.str (Str.ofString "__module__") (t + 8)) (Value.str (Str.ofString "cpy313.functools") (t + 13))), (DictEntry.mk (hashX w "__qualname__") (Value.str (Str.ofString "__qualname__") (t + 10)) (Value.str (Str.ofString "cmp_to_key.<locals>.K") (t + 9))), (DictEntry.mk (hashX w "__firstlineno__") (Value.str (Str.ofString "__firstlineno__") (t + 12)) (Value.int (56 : Int) (t + 11))), (DictEntry.mk (hashR w "__slots__") (Value.str (Str.ofString "__slots__") (t + 16)) (Value.ref (as 0))), (DictEntry.mk (hashR w "__init__") (Value.str (Str.ofString "__init__") (t + 24)) (Value.ref (as 7))), (DictEntry.mk (hashR w "__lt__") (Value.str (Str.ofString "__lt__") (t + 33)) (Value.ref (as 15))), (DictEntry.mk (hashR w "__gt__") (Value.str (Str.ofString "__gt__") (t + 42)) (Value.ref (as 23))), (DictEntry.mk (hashR w "__eq__") (Value.str (Str.ofString "__eq__") (t + 51)) (Value.ref (as 31))), (DictEntry.mk (hashR w "__le__") (Value.str (Str.ofString "__le__") (t + 60)) (Value.ref (as 39)))] 9) #[]), fun _ => .u, fun _ => .u, fun as => .a (Obj.mk (Value.type "tuple") none (PySem.Data.seq #[(Value.ref a2)] 0) #[]), fun _ => .l 42, fun _ => .l 43, fun _ => .tk, fun _ => .tk, fun _ => .tk, fun _ => .tk, fun as => .a (Obj.mk (Value.type "tuple") none (PySem.Data.seq #[(Value.str (Str.ofString "mycmp") (t + 64))] 0) #[]), fun as => .a (Obj.mk Value.none none (PySem.Data.fields #[]) #[]), fun _ => .tk, fun _ => .tk, fun as => .a (Obj.mk (Value.type "tuple") none (PySem.Data.seq #[(Value.str (Str.ofString "self") (t + 65)), (Value.str (Str.ofString "other") (t + 66))] 0) #[]), fun as => .a (Obj.mk (Value.type "tuple") none (PySem.Data.seq #[] 0) #[]), fun as => .a (Obj.mk Value.none none (PySem.Data.func (PySem.FuncData.mk (Str.ofString "__ge__") (Str.ofString "cmp_to_key.<locals>.K.__ge__") (PySem.Arguments.mk [] [(PySem.Arg.mk (Str.ofString "self") none (Pos.mk 75 19 75 23)), (PySem.Arg.mk (Str.ofString "other") none (Pos.mk 75 25 75 30))] none [] [] none []) (PySem.FuncBody.stmts [(PySem.Stmt.Return (some (PySem.Expr.Compare (PySem.Expr.Call (PySem.Expr.Name (Str.ofString "mycmp") (Pos.mk 76 19 76 24)) [(PySem.Expr.Attribute (PySem.Expr.Name (Str.ofString "self") (Pos.mk 76 25 76 29)) (Str.ofString "obj") (Pos.mk 76 25 76 33)), (PySem.Expr.Attribute (PySem.Expr.Name (Str.ofString "other") (Pos.mk 76 35 76 40)) (Str.ofString "obj") (Pos.mk 76 35 76 44))] [] (Pos.mk 76 19 76 45)) [PySem.CmpOp.GtE] [(PySem.Expr.Constant (PySem.Const.int (0 : Int)) 0 (Pos.mk 76 49 76 50))] (Pos.mk 76 19 76 50))) (Pos.mk 76 12 76 50))]) (PySem.Scope.mk PySem.ScopeKind.function [((Str.ofString "self"), PySem.NameKind.local), ((Str.ofString "other"), PySem.NameKind.local), ((Str.ofString "mycmp"), PySem.NameKind.free)] false false []) 0 [] Value.none Value.none Value.none Value.none none Value.none Value.none 0)) #[]), fun _ => .tk, fun _ => .tk, fun as => .a (Obj.mk (Value.type "code") none (PySem.Data.fields #[(Value.str (Str.ofString "__ge__") (t + 61)), (Value.str (Str.ofString "cmp_to_key.<locals>.K.__ge__") (t + 62)), (Value.str (Str.ofString "/claim/cut.py") (t + 63)), (Value.int (75 : Int) 0), (Value.int (2 : Int) 0), (Value.int (0 : Int) 0), (Value.int (0 : Int) 0), (Value.int (19 : Int) 0), (Value.ref (as 41)), (Value.bool true), (Value.int (318 : Int) 0), (Value.ref (as 42)), Value.none, (Value.ref (as 43)), (Value.ref (as 44)), (Value.ref (as 45)), (Value.int ((t + 67) : Int) 0), (Value.int (75 : Int) 0), (Value.str (Str.ofString "/claim/cut.py") (t + 68))]) #[]), fun _ => .l 49, fun as => .p 49 (Obj.mk Value.none none (PySem.Data.fields #[(Value.int (60 : Int) 0), (Value.int (8 : Int) 0), (Value.ref (as 6)), (Value.int (63 : Int) 0), (Value.int (8 : Int) 0), (Value.ref (as 14)), (Value.int (66 : Int) 0), (Value.int (8 : Int) 0), (Value.ref (as 22)), (Value.int (69 : Int) 0), (Value.int (8 : Int) 0), (Value.ref (as 30)), (Value.int (72 : Int) 0), (Value.int (8 : Int) 0), (Value.ref (as 38)), (Value.int (75 : Int) 0), (Value.int (8 : Int) 0), (Value.ref (as 46))]) #[]), fun _ => .l 49, fun _ => .f 0, fun _ => .f 1, fun _ => .f 0, fun as => .a (Obj.mk (Value.type "function") none (PySem.Data.func (PySem.FuncData.mk (Str.ofString "__ge__") (Str.ofString "cmp_to_key.<locals>.K.__ge__") (PySem.Arguments.mk [] [(PySem.Arg.mk (Str.ofString "self") none (Pos.mk 75 19 75 23)), (PySem.Arg.mk (Str.ofString "other") none (Pos.mk 75 25 75 30))] none [] [] none []) (PySem.FuncBody.stmts [(PySem.Stmt.Return (some (PySem.Expr.Compare (PySem.Expr.Call (PySem.Expr.Name (Str.ofString "mycmp") (Pos.mk 76 19 76 24)) [(PySem.Expr.Attribute (PySem.Expr.Name (Str.ofString "self") (Pos.mk 76 25 76 29)) (Str.ofString "obj") (Pos.mk 76 25 76 33)), (PySem.Expr.Attribute (PySem.Expr.Name (Str.ofString "other") (Pos.mk 76 35 76 40)) (Str.ofString "obj") (Pos.mk 76 35 76 44))] [] (Pos.mk 76 19 76 45)) [PySem.CmpOp.GtE] [(PySem.Expr.Constant (PySem.Const.int (0 : Int)) 0 (Pos.mk 76 49 76 50))] (Pos.mk 76 19 76 50))) (Pos.mk 76 12 76 50))]) (PySem.Scope.mk PySem.ScopeKind.function [((Str.ofString "self"), PySem.NameKind.local), ((Str.ofString "other"), PySem.NameKind.local), ((Str.ofString "mycmp"), PySem.NameKind.free)] false false []) 3 [((Str.ofString "mycmp"), a2)] Value.none Value.none Value.none (Value.str (Str.ofString "law_ij0186_01") 1331) none (Value.ref (as 46)) (Value.ref (as 40)) 0)) #[]), fun _ => .u, fun _ => .u, fun _ => .l 52, fun _ => .st, fun _ => .tk, fun _ => .l 52, fun as => .p 52 (Obj.mk (Value.type "dict") none (PySem.Data.dict #[(DictEntry.mk (hashX w "__module__") (Value.str (Str.ofString "__module__") (t + 8)) (Value.str (Str.ofString "cpy313.functools") (t + 13))), (DictEntry.mk (hashX w "__qualname__") (Value.str (Str.ofString "__qualname__") (t + 10)) (Value.str (Str.ofString "cmp_to_key.<locals>.K") (t + 9))), (DictEntry.mk (hashX w "__firstlineno__") (Value.str (Str.ofString "__firstlineno__") (t + 12)) (Value.int (56 : Int) (t + 11))), (DictEntry.mk (hashR w "__slots__") (Value.str (Str.ofString "__slots__") (t + 16)) (Value.ref (as 0))), (DictEntry.mk (hashR w "__init__") (Value.str (Str.ofString "__init__") (t + 24)) (Value.ref (as 7))), (DictEntry.mk (hashR w "__lt__") (Value.str (Str.ofString "__lt__") (t + 33)) (Value.ref (as 15))), (DictEntry.mk (hashR w "__gt__") (Value.str (Str.ofString "__gt__") (t + 42)) (Value.ref (as 23))), (DictEntry.mk (hashR w "__eq__") (Value.str (Str.ofString "__eq__") (t + 51)) (Value.ref (as 31))), (DictEntry.mk (hashR w "__le__") (Value.str (Str.ofString "__le__") (t + 60)) (Value.ref (as 39))), (DictEntry.mk (hashR w "__ge__") (Value.str (Str.ofString "__ge__") (t + 69)) (Value.ref (as 47)))] 10) #[]), fun _ => .u, fun _ => .u, fun _ => .u, fun _ => .u, fun _ => .l 52, fun _ => .st, fun _ => .tk, fun _ => .l 52, fun as => .p 52 (Obj.mk (Value.type "dict") none (PySem.Data.dict #[(DictEntry.mk (hashX w "__module__") (Value.str (Str.ofString "__module__") (t + 8)) (Value.str (Str.ofString "cpy313.functools") (t + 13))), (DictEntry.mk (hashX w "__qualname__") (Value.str (Str.ofString "__qualname__") (t + 10)) (Value.str (Str.ofString "cmp_to_key.<locals>.K") (t + 9))), (DictEntry.mk (hashX w "__firstlineno__") (Value.str (Str.ofString "__firstlineno__") (t + 12)) (Value.int (56 : Int) (t + 11))), (DictEntry.mk (hashR w "__slots__") (Value.str (Str.ofString "__slots__") (t + 16)) (Value.ref (as 0))), (DictEntry.mk (hashR w "__init__") (Value.str (Str.ofString "__init__") (t + 24)) (Value.ref (as 7))), (DictEntry.mk (hashR w "__lt__") (Value.str (Str.ofString "__lt__") (t + 33)) (Value.ref (as 15))), (DictEntry.mk (hashR w "__gt__") (Value.str (Str.ofString "__gt__") (t + 42)) (Value.ref (as 23))), (DictEntry.mk (hashR w "__eq__") (Value.str (Str.ofString "__eq__") (t + 51)) (Value.ref (as 31))), (DictEntry.mk (hashR w "__le__") (Value.str (Str.ofString "__le__") (t + 60)) (Value.ref (as 39))), (DictEntry.mk (hashR w "__ge__") (Value.str (Str.ofString "__ge__") (t + 69)) (Value.ref (as 47))), (DictEntry.mk (hashR w "__hash__") (Value.str (Str.ofString "__hash__") (t + 70)) Value.none)] 11) #[]), fun _ => .u] (t + 71) D14 (fo_cons (tob_at KX (by kernel_rfl)) (by kernel_rfl) (fo_cons hb4 (by kernel_rfl) fo_nil)) (fun as => by kernel_rfl) ?_; intro as1 h77 r1_ w1_ t1_ D77
  refine sf_done .next (by kernel_rfl) ?_
  refine sb_ret ?_
  refine sf_run [(3, tob w 3), (4, ⟨.type "module", some 0, .plain, ob4.slots⟩)] [fun _ => .tk, fun as => .a (Obj.mk (Value.type "tuple") none (PySem.Data.seq #[(Value.str (Str.ofString "obj") (t + 71))] 0) #[]), fun _ => .l 53, fun _ => .st, fun _ => .tk, fun _ => .l 53, fun as => .p 53 (Obj.mk (Value.type "dict") none (PySem.Data.dict #[(DictEntry.mk (hashX w "__module__") (Value.str (Str.ofString "__module__") (t + 8)) (Value.str (Str.ofString "cpy313.functools") (t + 13))), (DictEntry.mk (hashX w "__qualname__") (Value.str (Str.ofString "__qualname__") (t + 10)) (Value.str (Str.ofString "cmp_to_key.<locals>.K") (t + 9))), (DictEntry.mk (hashX w "__firstlineno__") (Value.str (Str.ofString "__firstlineno__") (t + 12)) (Value.int (56 : Int) (t + 11))), (DictEntry.mk (hashR w "__slots__") (Value.str (Str.ofString "__slots__") (t + 16)) (Value.ref (as1 0))), (DictEntry.mk (hashR w "__init__") (Value.str (Str.ofString "__init__") (t + 24)) (Value.ref (as1 7))), (DictEntry.mk (hashR w "__lt__") (Value.str (Str.ofString "__lt__") (t + 33)) (Value.ref (as1 15))), (DictEntry.mk (hashR w "__gt__") (Value.str (Str.ofString "__gt__") (t + 42)) (Value.ref (as1 23))), (DictEntry.mk (hashR w "__eq__") (Value.str (Str.ofString "__eq__") (t + 51)) (Value.ref (as1 31))), (DictEntry.mk (hashR w "__le__") (Value.str (Str.ofString "__le__") (t + 60)) (Value.ref (as1 39))), (DictEntry.mk (hashR w "__ge__") (Value.str (Str.ofString "__ge__") (t + 69)) (Value.ref (as1 47))), (DictEntry.mk (hashR w "__hash__") (Value.str (Str.ofString "__hash__") (t + 70)) Value.none), (DictEntry.mk (hashX w "__static_attributes__") (Value.str (Str.ofString "__static_attributes__") (t + 72)) (Value.ref (as 0)))] 12) #[])] (t + 73) D77 (fo_cons (tob_at KX (by kernel_rfl)) (by kernel_rfl) (fo_cons hb4 (by kernel_rfl) fo_nil)) (fun as => by kernel_rfl) ?_; intro as2 h79 r2_ w2_ t2_ D79
  refine sb_callP (.call (.type "type") ⟨[.str (Str.ofString "K") t, .ref a3, .ref a5], []⟩) (by kernel_rfl) ?_
  have KX79 := in_of_mem KX (by kernel_rfl) hT D79
  refine' newcls w _ ⟨h79, g, d, _, os⟩ _ KX79 a3 a5 (as1 0) (as2 0) (as1 7) (as1 15) (as1 23) (as1 31) (as1 39) (as1 47) (t + 13) (t + 9) (t + 11) t (t + 15) (t + 71) (t + 8) (t + 10) (t + 12) (t + 16) (t + 24) (t + 33) (t + 42) (t + 51) (t + 60) (t + 69) (t + 70) (t + 72) (hashX w "__module__") (hashX w "__qualname__") (hashX w "__firstlineno__") (hashR w "__slots__") (hashR w "__init__") (hashR w "__lt__") (hashR w "__gt__") (hashR w "__eq__") (hashR w "__le__") (hashR w "__ge__") (hashR w "__hash__") (hashX w "__static_attributes__") ?ne5 ?x3 ?xS ?xT ?x11 ?x12 ?x13 ?x14 ?x15 ?x16 ?x5 ?_
  case x3 => exact Mem.at D79 55 a3 b4_ (by kernel_rfl)
  case xS => exact Mem.at D79 48 (as1 0) (Obj.mk (Value.type "list") none (PySem.Data.seq #[(Value.str (Str.ofString "obj") (t + 15))] 0) #[]) (by kernel_rfl)
  case xT => exact Mem.at D79 0 (as2 0) (Obj.mk (Value.type "tuple") none (PySem.Data.seq #[(Value.str (Str.ofString "obj") (t + 71))] 0) #[]) (by kernel_rfl)
  case x5 => exact Mem.at D79 53 a5 (Obj.mk (Value.type "dict") none (PySem.Data.dict #[(DictEntry.mk (hashX w "__module__") (Value.str (Str.ofString "__module__") (t + 8)) (Value.str (Str.ofString "cpy313.functools") (t + 13))), (DictEntry.mk (hashX w "__qualname__") (Value.str (Str.ofString "__qualname__") (t + 10)) (Value.str (Str.ofString "cmp_to_key.<locals>.K") (t + 9))), (DictEntry.mk (hashX w "__firstlineno__") (Value.str (Str.ofString "__firstlineno__") (t + 12)) (Value.int (56 : Int) (t + 11))), (DictEntry.mk (hashR w "__slots__") (Value.str (Str.ofString "__slots__") (t + 16)) (Value.ref (as1 0))), (DictEntry.mk (hashR w "__init__") (Value.str (Str.ofString "__init__") (t + 24)) (Value.ref (as1 7))), (DictEntry.mk (hashR w "__lt__") (Value.str (Str.ofString "__lt__") (t + 33)) (Value.ref (as1 15))), (DictEntry.mk (hashR w "__gt__") (Value.str (Str.ofString "__gt__") (t + 42)) (Value.ref (as1 23))), (DictEntry.mk (hashR w "__eq__") (Value.str (Str.ofString "__eq__") (t + 51)) (Value.ref (as1 31))), (DictEntry.mk (hashR w "__le__") (Value.str (Str.ofString "__le__") (t + 60)) (Value.ref (as1 39))), (DictEntry.mk (hashR w "__ge__") (Value.str (Str.ofString "__ge__") (t + 69)) (Value.ref (as1 47))), (DictEntry.mk (hashR w "__hash__") (Value.str (Str.ofString "__hash__") (t + 70)) Value.none), (DictEntry.mk (hashX w "__static_attributes__") (Value.str (Str.ofString "__static_attributes__") (t + 72)) (Value.ref (as2 0)))] 12) #[]) (by kernel_rfl)
  case x11 => exact ⟨_, Mem.at D79 41 (as1 7) (Obj.mk (Value.type "function") none (PySem.Data.func (PySem.FuncData.mk (Str.ofString "__init__") (Str.ofString "cmp_to_key.<locals>.K.__init__") (PySem.Arguments.mk [] [(PySem.Arg.mk (Str.ofString "self") none (Pos.mk 60 21 60 25)), (PySem.Arg.mk (Str.ofString "obj") none (Pos.mk 60 27 60 30))] none [] [] none []) (PySem.FuncBody.stmts [(PySem.Stmt.Assign [(PySem.Expr.Attribute (PySem.Expr.Name (Str.ofString "self") (Pos.mk 61 12 61 16)) (Str.ofString "obj") (Pos.mk 61 12 61 20))] (PySem.Expr.Name (Str.ofString "obj") (Pos.mk 61 23 61 26)) (Pos.mk 61 12 61 26))]) (PySem.Scope.mk PySem.ScopeKind.function [((Str.ofString "self"), PySem.NameKind.local), ((Str.ofString "obj"), PySem.NameKind.local)] false false []) 3 [] Value.none Value.none Value.none (Value.str (Str.ofString "law_ij0186_01") 1331) none (Value.ref (as1 6)) Value.none 0)) #[]) (by kernel_rfl)⟩
  case x12 => exact ⟨_, Mem.at D79 33 (as1 15) (Obj.mk (Value.type "function") none (PySem.Data.func (PySem.FuncData.mk (Str.ofString "__lt__") (Str.ofString "cmp_to_key.<locals>.K.__lt__") (PySem.Arguments.mk [] [(PySem.Arg.mk (Str.ofString "self") none (Pos.mk 63 19 63 23)), (PySem.Arg.mk (Str.ofString "other") none (Pos.mk 63 25 63 30))] none [] [] none []) (PySem.FuncBody.stmts [(PySem.Stmt.Return (some (PySem.Expr.Compare (PySem.Expr.Call (PySem.Expr.Name (Str.ofString "mycmp") (Pos.mk 64 19 64 24)) [(PySem.Expr.Attribute (PySem.Expr.Name (Str.ofString "self") (Pos.mk 64 25 64 29)) (Str.ofString "obj") (Pos.mk 64 25 64 33)), (PySem.Expr.Attribute (PySem.Expr.Name (Str.ofString "other") (Pos.mk 64 35 64 40)) (Str.ofString "obj") (Pos.mk 64 35 64 44))] [] (Pos.mk 64 19 64 45)) [PySem.CmpOp.Lt] [(PySem.Expr.Constant (PySem.Const.int (0 : Int)) 0 (Pos.mk 64 48 64 49))] (Pos.mk 64 19 64 49))) (Pos.mk 64 12 64 49))]) (PySem.Scope.mk PySem.ScopeKind.function [((Str.ofString "self"), PySem.NameKind.local), ((Str.ofString "other"), PySem.NameKind.local), ((Str.ofString "mycmp"), PySem.NameKind.free)] false false []) 3 [((Str.ofString "mycmp"), a2)] Value.none Value.none Value.none (Value.str (Str.ofString "law_ij0186_01") 1331) none (Value.ref (as1 14)) (Value.ref (as1 8)) 0)) #[]) (by kernel_rfl)⟩
  case x13 => exact ⟨_, Mem.at D79 25 (as1 23) (Obj.mk (Value.type "function") none (PySem.Data.func (PySem.FuncData.mk (Str.ofString "__gt__") (Str.ofString "cmp_to_key.<locals>.K.__gt__") (PySem.Arguments.mk [] [(PySem.Arg.mk (Str.ofString "self") none (Pos.mk 66 19 66 23)), (PySem.Arg.mk (Str.ofString "other") none (Pos.mk 66 25 66 30))] none [] [] none []) (PySem.FuncBody.stmts [(PySem.Stmt.Return (some (PySem.Expr.Compare (PySem.Expr.Call (PySem.Expr.Name (Str.ofString "mycmp") (Pos.mk 67 19 67 24)) [(PySem.Expr.Attribute (PySem.Expr.Name (Str.ofString "self") (Pos.mk 67 25 67 29)) (Str.ofString "obj") (Pos.mk 67 25 67 33)), (PySem.Expr.Attribute (PySem.Expr.Name (Str.ofString "other") (Pos.mk 67 35 67 40)) (Str.ofString "obj") (Pos.mk 67 35 67 44))] [] (Pos.mk 67 19 67 45)) [PySem.CmpOp.Gt] [(PySem.Expr.Constant (PySem.Const.int (0 : Int)) 0 (Pos.mk 67 48 67 49))] (Pos.mk 67 19 67 49))) (Pos.mk 67 12 67 49))]) (PySem.Scope.mk PySem.ScopeKind.function [((Str.ofString "self"), PySem.NameKind.local), ((Str.ofString "other"), PySem.NameKind.local), ((Str.ofString "mycmp"), PySem.NameKind.free)] false false []) 3 [((Str.ofString "mycmp"), a2)] Value.none Value.none Value.none (Value.str (Str.ofString "law_ij0186_01") 1331) none (Value.ref (as1 22)) (Value.ref (as1 16)) 0)) #[]) (by kernel_rfl)⟩
  case x14 => exact ⟨_, Mem.at D79 17 (as1 31) (Obj.mk (Value.type "function") none (PySem.Data.func (PySem.FuncData.mk (Str.ofString "__eq__") (Str.ofString "cmp_to_key.<locals>.K.__eq__") (PySem.Arguments.mk [] [(PySem.Arg.mk (Str.ofString "self") none (Pos.mk 69 19 69 23)), (PySem.Arg.mk (Str.ofString "other") none (Pos.mk 69 25 69 30))] none [] [] none []) (PySem.FuncBody.stmts [(PySem.Stmt.Return (some (PySem.Expr.Compare (PySem.Expr.Call (PySem.Expr.Name (Str.ofString "mycmp") (Pos.mk 70 19 70 24)) [(PySem.Expr.Attribute (PySem.Expr.Name (Str.ofString "self") (Pos.mk 70 25 70 29)) (Str.ofString "obj") (Pos.mk 70 25 70 33)), (PySem.Expr.Attribute (PySem.Expr.Name (Str.ofString "other") (Pos.mk 70 35 70 40)) (Str.ofString "obj") (Pos.mk 70 35 70 44))] [] (Pos.mk 70 19 70 45)) [PySem.CmpOp.Eq] [(PySem.Expr.Constant (PySem.Const.int (0 : Int)) 0 (Pos.mk 70 49 70 50))] (Pos.mk 70 19 70 50))) (Pos.mk 70 12 70 50))]) (PySem.Scope.mk PySem.ScopeKind.function [((Str.ofString "self"), PySem.NameKind.local), ((Str.ofString "other"), PySem.NameKind.local), ((Str.ofString "mycmp"), PySem.NameKind.free)] false false []) 3 [((Str.ofString "mycmp"), a2)] Value.none Value.none Value.none (Value.str (Str.ofString "law_ij0186_01") 1331) none (Value.ref (as1 30)) (Value.ref (as1 24)) 0)) #[]) (by kernel_rfl)⟩
  case x15 => exact ⟨_, Mem.at D79 9 (as1 39) (Obj.mk (Value.type "function") none (PySem.Data.func (PySem.FuncData.mk (Str.ofString "__le__") (Str.ofString "cmp_to_key.<locals>.K.__le__") (PySem.Arguments.mk [] [(PySem.Arg.mk (Str.ofString "self") none (Pos.mk 72 19 72 23)), (PySem.Arg.mk (Str.ofString "other") none (Pos.mk 72 25 72 30))] none [] [] none []) (PySem.FuncBody.stmts [(PySem.Stmt.Return (some (PySem.Expr.Compare (PySem.Expr.Call (PySem.Expr.Name (Str.ofString "mycmp") (Pos.mk 73 19 73 24)) [(PySem.Expr.Attribute (PySem.Expr.Name (Str.ofString "self") (Pos.mk 73 25 73 29)) (Str.ofString "obj") (Pos.mk 73 25 73 33)), (PySem.Expr.Attribute (PySem.Expr.Name (Str.ofString "other") (Pos.mk 73 35 73 40)) (Str.ofString "obj") (Pos.mk 73 35 73 44))] [] (Pos.mk 73 19 73 45)) [PySem.CmpOp.LtE] [(PySem.Expr.Constant (PySem.Const.int (0 : Int)) 0 (Pos.mk 73 49 73 50))] (Pos.mk 73 19 73 50))) (Pos.mk 73 12 73 50))]) (PySem.Scope.mk PySem.ScopeKind.function [((Str.ofString "self"), PySem.NameKind.local), ((Str.ofString "other"), PySem.NameKind.local), ((Str.ofString "mycmp"), PySem.NameKind.free)] false false []) 3 [((Str.ofString "mycmp"), a2)] Value.none Value.none Value.none (Value.str (Str.ofString "law_ij0186_01") 1331) none (Value.ref (as1 38)) (Value.ref (as1 32)) 0)) #[]) (by kernel_rfl)⟩
  case x16 => exact ⟨_, Mem.at D79 1 (as1 47) (Obj.mk (Value.type "function") none (PySem.Data.func (PySem.FuncData.mk (Str.ofString "__ge__") (Str.ofString "cmp_to_key.<locals>.K.__ge__") (PySem.Arguments.mk [] [(PySem.Arg.mk (Str.ofString "self") none (Pos.mk 75 19 75 23)), (PySem.Arg.mk (Str.ofString "other") none (Pos.mk 75 25 75 30))] none [] [] none []) (PySem.FuncBody.stmts [(PySem.Stmt.Return (some (PySem.Expr.Compare (PySem.Expr.Call (PySem.Expr.Name (Str.ofString "mycmp") (Pos.mk 76 19 76 24)) [(PySem.Expr.Attribute (PySem.Expr.Name (Str.ofString "self") (Pos.mk 76 25 76 29)) (Str.ofString "obj") (Pos.mk 76 25 76 33)), (PySem.Expr.Attribute (PySem.Expr.Name (Str.ofString "other") (Pos.mk 76 35 76 40)) (Str.ofString "obj") (Pos.mk 76 35 76 44))] [] (Pos.mk 76 19 76 45)) [PySem.CmpOp.GtE] [(PySem.Expr.Constant (PySem.Const.int (0 : Int)) 0 (Pos.mk 76 49 76 50))] (Pos.mk 76 19 76 50))) (Pos.mk 76 12 76 50))]) (PySem.Scope.mk PySem.ScopeKind.function [((Str.ofString "self"), PySem.NameKind.local), ((Str.ofString "other"), PySem.NameKind.local), ((Str.ofString "mycmp"), PySem.NameKind.free)] false false []) 3 [((Str.ofString "mycmp"), a2)] Value.none Value.none Value.none (Value.str (Str.ofString "law_ij0186_01") 1331) none (Value.ref (as1 46)) (Value.ref (as1 40)) 0)) #[]) (by kernel_rfl)⟩
  case ne5 => exact n5
  intro c2 c3 c4 g12 g13 k12 k13 t3 nw h80 tk80 D' m3 m2 m4
  refine sb_ret ?_
  have D80 := mem_comp D79 D'
  refine sf_pure (.ref c3) (by kernel_rfl) ?_
  refine sb_at ?_
  refine sb_point ?_
  refine sb_ask ?_
  refine sb_fresh ?_
  refine' sb_load ?ho ?_; (case ho => exact Mem.at D80 57 a1 b1_ (by kernel_rfl))
  refine' sb_putL (o := b1_) 57 (Obj.mk (.type "frame") none (.dict #[⟨hashX w "K", .str (Str.ofString "K") tk80, .ref c3⟩] 1) #[]) (by kernel_rfl) D80 ?hn rfl ?_; (case hn => kernel_rfl); intro h81 b81_ w81_ D81 hs81
  refine sb_point ?_
  refine sb_pure ?_
  refine sb_at ?_
  refine sb_at ?_
  refine' sb_load ?ho ?_; (case ho => exact Mem.at D81 57 a1 b81_ (by kernel_rfl))
  refine sb_pure ?_
  refine sb_done ?_
  refine sb_ret ?_
  refine sb_bind ?_
  refine sb_pure ?_
  refine sb_endv ?_
  have old : ∀ p : Addr × Obj, p ∈ nw → h81.get? p.1 = some p.2 ∧ h.get? p.1 = none := fun p hp => by
    obtain ⟨z1, z2⟩ := D'.nw p hp
    refine ⟨hs81 _ _ (fun e => ?_) z1, ?_⟩
    · have z3 := Mem.at D79 57 a1 b1_ (by kernel_rfl)
      rw [e, z3] at z2; cases z2
    · cases q : h.get? p.1 with
      | none => rfl
      | some o =>
        obtain ⟨o', z4⟩ := D79.there q
        rw [z2] at z4; cases z4
  refine hR (kRows w c3 t c2 c4 a2 a3 (as1 0) (as1 1) (as1 2) (as1 3) (as1 4) (as1 5) (as1 6) (as1 7) (as1 8) (as1 9) (as1 10) (as1 11) (as1 12) (as1 13) (as1 14) (as1 15) (as1 23) (as1 24) (as1 25) (as1 26) (as1 27) (as1 28) (as1 29) (as1 30) (as1 31) (as1 39) (as1 47) (as2 0) g12 g13 k12 k13 t3) _ c3 h81 _ (KIn.mk _ _ _ _ _ _ _ _ _ _ _ _ _ _ _ _ _ _ _ _ _ _ _ _ _ _ _ _ _ _ _ _ _ _ _ _ _ _) (fun p hp => ?_) (fun b o hb e => ?_) (D81.ch _ (.head _)).1
  · rcases List.mem_cons.mp hp with rfl | hp
    · exact old _ m3
    rcases List.mem_cons.mp hp with rfl | hp
    · exact old _ m2
    rcases List.mem_cons.mp hp with rfl | hp
    · exact old _ m4
    rcases List.mem_cons.mp hp with rfl | hp
    · exact D81.nw (a2, ko2) (List.mem_of_getElem? (i := 56) (by kernel_rfl))
    rcases List.mem_cons.mp hp with rfl | hp
    · exact D81.nw ((as1 1), ko11) (List.mem_of_getElem? (i := 47) (by kernel_rfl))
    rcases List.mem_cons.mp hp with rfl | hp
    · exact D81.nw ((as1 2), ko12) (List.mem_of_getElem? (i := 46) (by kernel_rfl))
    rcases List.mem_cons.mp hp with rfl | hp
    · exact D81.nw ((as1 3), ko13 t) (List.mem_of_getElem? (i := 45) (by kernel_rfl))
    rcases List.mem_cons.mp hp with rfl | hp
    · exact D81.nw ((as1 4), ko14) (List.mem_of_getElem? (i := 44) (by kernel_rfl))
    rcases List.mem_cons.mp hp with rfl | hp
    · exact D81.nw ((as1 5), ko15) (List.mem_of_getElem? (i := 43) (by kernel_rfl))
    rcases List.mem_cons.mp hp with rfl | hp
    · exact D81.nw ((as1 6), ko16 t (as1 1) (as1 2) (as1 3) (as1 4) (as1 5)) (List.mem_of_getElem? (i := 42) (by kernel_rfl))
    rcases List.mem_cons.mp hp with rfl | hp
    · exact D81.nw ((as1 7), ko17 (as1 6)) (List.mem_of_getElem? (i := 41) (by kernel_rfl))
    rcases List.mem_cons.mp hp with rfl | hp
    · exact D81.nw ((as1 8), ko18 a2) (List.mem_of_getElem? (i := 40) (by kernel_rfl))
    rcases List.mem_cons.mp hp with rfl | hp
    · exact D81.nw ((as1 9), ko19 t) (List.mem_of_getElem? (i := 39) (by kernel_rfl))
    rcases List.mem_cons.mp hp with rfl | hp
    · exact D81.nw ((as1 10), ko20) (List.mem_of_getElem? (i := 38) (by kernel_rfl))
    rcases List.mem_cons.mp hp with rfl | hp
    · exact D81.nw ((as1 11), ko21 t) (List.mem_of_getElem? (i := 37) (by kernel_rfl))
    rcases List.mem_cons.mp hp with rfl | hp
    · exact D81.nw ((as1 12), ko22) (List.mem_of_getElem? (i := 36) (by kernel_rfl))
    rcases List.mem_cons.mp hp with rfl | hp
    · exact D81.nw ((as1 13), ko23) (List.mem_of_getElem? (i := 35) (by kernel_rfl))
    rcases List.mem_cons.mp hp with rfl | hp
    · exact D81.nw ((as1 14), ko24 t (as1 9) (as1 10) (as1 11) (as1 12) (as1 13)) (List.mem_of_getElem? (i := 34) (by kernel_rfl))
    rcases List.mem_cons.mp hp with rfl | hp
    · exact D81.nw ((as1 15), ko25 a2 (as1 8) (as1 14)) (List.mem_of_getElem? (i := 33) (by kernel_rfl))
    rcases List.mem_cons.mp hp with rfl | hp
    · exact D81.nw ((as1 24), ko34 a2) (List.mem_of_getElem? (i := 24) (by kernel_rfl))
    rcases List.mem_cons.mp hp with rfl | hp
    · exact D81.nw ((as1 25), ko35 t) (List.mem_of_getElem? (i := 23) (by kernel_rfl))
    rcases List.mem_cons.mp hp with rfl | hp
    · exact D81.nw ((as1 26), ko36) (List.mem_of_getElem? (i := 22) (by kernel_rfl))
    rcases List.mem_cons.mp hp with rfl | hp
    · exact D81.nw ((as1 27), ko37 t) (List.mem_of_getElem? (i := 21) (by kernel_rfl))
    rcases List.mem_cons.mp hp with rfl | hp
    · exact D81.nw ((as1 28), ko38) (List.mem_of_getElem? (i := 20) (by kernel_rfl))
    rcases List.mem_cons.mp hp with rfl | hp
    · exact D81.nw ((as1 29), ko39) (List.mem_of_getElem? (i := 19) (by kernel_rfl))
    rcases List.mem_cons.mp hp with rfl | hp
    · exact D81.nw ((as1 30), ko40 t (as1 25) (as1 26) (as1 27) (as1 28) (as1 29)) (List.mem_of_getElem? (i := 18) (by kernel_rfl))
    rcases List.mem_singleton.mp hp with rfl
    exact D81.nw ((as1 31), ko41 a2 (as1 24) (as1 30)) (List.mem_of_getElem? (i := 17) (by kernel_rfl))
  · refine D81.keep b o e ?_
    have hb' : Nat.beq 88 b = false := by
      cases q : Nat.beq 88 b with
      | false => rfl
      | true => exact absurd (Nat.eq_of_beq_eq_true q).symm hb
    have : away [((88 : Nat), tableObj #[rawInt 56, rawInt 4, .ref a8])] b = true := by
      show (!(Nat.beq 88 b) && true) = true
      rw [hb']; rfl
    exact (congrArg _ this).trans (Bool.or_true _)

end
theorem cmpkey_x (w : World) (fr : List Env) (s : Shared) (Q : Value → Shared → Prop) (KX : (hd.heap_1 w.params).In s.heap) (hl : s.heap.NoLimit) (hT : s.heap.get? 88 = some (tabObj #[])) (hCd : CodeHd s.heap 92 88) (o0 : Obj) (ob4 : Obj) (hb4 : s.heap.get? 4 = some ⟨.type "module", some 0, .plain, ob4.slots⟩) (hb0 : s.heap.get? 0 = some o0) (hob : nsLook (Str.ofString "object") o0 = pure (some (.type "object"))) (hbc : nsLook (Str.ofString "__build_class__") o0 = pure (some (.builtin "__build_class__")))
    (hR : ∀ (KR : List (Addr × Obj)) (tab : Array Value) (c3 : Addr) (h' : Heap) (tk' : Nat), KIn w KR c3 → (∀ p ∈ KR, h'.get? p.1 = some p.2 ∧ s.heap.get? p.1 = none) → (∀ b o, b ≠ 88 → s.heap.get? b = some o → h'.get? b = some o) → h'.get? 88 = some (tabObj tab) → Q (.ref c3) { s with heap := h', toks := tk' }) :
    wpAny (model PySem.Challenge.pw_ij0186_01 w) { handled := none, depth := 700, frames := some fr, guards := none, units := 6000 } (call (.ref 93) [.ref 822]) Q (fun _ _ => False) s := by
  exact BY1_s.2 (fun w fr Q o0 ob4 h g d t os => ep_all _ (P := fun x => BY1_s.1 x.1.1 x.1.2.1 x.1.2.2.1 x.1.2.2.2.1 x.1.2.2.2.2.1 x.1.2.2.2.2.2.1 x.1.2.2.2.2.2.2.1 x.1.2.2.2.2.2.2.2 x.2.1 x.2.2) (by with_unfolding_all exact BY1_b) ((w, fr, Q, o0, ob4, h, g, d), (t, os))) w fr s Q KX hl hT hCd o0 ob4 hb4 hb0 hob hbc hR

end
section
open PySem.W.X
theorem nsLook_ns {o : Obj} {es : Array DictEntry} {ep : Nat} (hd : o.data = .dict es ep) (hk : StrKeys es) (name : Str) : nsLook name o = pure (nsFind es name) := by
  simp only [nsLook_eq, nsLookByArray, hd, nsFind, findBy]
  cases hf : es.find? (·.key.isStr name) with
  | some e => rfl
  | none =>
    have : es.any (·.refKey) = false := by
      rw [Array.any_eq_false']; intro e he; obtain ⟨n, t, h⟩ := hk e he; simp [DictEntry.refKey, h]
    simp only [this, Bool.false_eq_true, if_false, Option.map_none]
theorem cmpkey_K {w : World} {A : Around} {E : Value → Shared → Prop} {s : Shared} {h₀ : Heap} {L : Addr} {m mg mb : Str → Option Value} {R : List (Addr × Obj)} {fr : List Env} {pp : Program} {ll : List Str} {mean : ExcName → Option Value} {Q : Value → Shared → Prop}
    (hh : A.handled = none) (hdp : A.depth ≤ 700) (hu : A.units ≤ 6000) (hf : A.frames = some fr) (F : Fr h₀ L s.heap m) (X : (hd.heap_1 w.params).In h₀) (N : News h₀ L s.heap ((88, tabObj #[]) :: R)) (hR : ∀ q ∈ R, q.1 ≠ 88) (T : Top pp ll mean mg mb h₀) (C : CodeHd h₀ 92 88)
    (h : ∀ KR tab c3 h' tk', KIn w KR c3 → (∀ p ∈ KR, ∀ q ∈ (88, tabObj tab) :: R, p.1 ≠ q.1) → Fr h₀ L h' m → News h₀ L h' (KR ++ (88, tabObj tab) :: R) → Q (.ref c3) { s with heap := h', toks := tk' }) :
    wpAny (model PySem.Challenge.pw_ij0186_01 w) A (call (.ref 93) [.ref 822]) Q E s := by
  have X1 := X.keeps F.keep
  have T1 := T.keeps F.keep
  have n88 := (N _ (.head _))
  obtain ⟨o0, es, ep, e0, ed, ek, em⟩ := T1.b
  have mbv : ∀ (x : Str) (v : Value), x ≠ "__name__" → bootBuiltins x = some v → nsLook x o0 = pure (some v) := fun x v hx hv => by
    rw [nsLook_ns ed ek, em, T1.builtins x hx, hv]
  obtain ⟨bm, ob, q1, q2, q3, q4, q5, q6⟩ := T1.bmain
  have q7 := mg_of (n := Str.ofString "__builtins__") X1 T1.g (show nsIn (hd.heap_1 w.params) mainGlobals (Str.ofString "__builtins__") = some (some (.ref 4)) by kernel_rfl)
  have q8 : bm = 4 := by
    have := q1.symm.trans q7
    cases this; rfl
  subst q8
  refine weaken3 (A' := { handled := none, depth := 700, frames := some fr, guards := none, units := 6000 }) hh hdp hu hf.symm rfl (wpAny_mono (cmpkey_x w fr s Q X1 T1.nolimit n88.1 (C.keeps F.keep) o0 ob ?_ e0 (mbv _ _ (by decide) PyProof.Rows.Boot.«object») (mbv _ _ (by decide) PyProof.Rows.Boot.«__build_class__») ?_) (fun _ _ z => z) fun _ _ z => z.elim)
  · obtain ⟨oc, od, odt, osl⟩ := ob
    cases q4; cases q5; cases q6
    exact q3
  · intro KR tab c3 h' tk' hK hrows hold h88
    have old : ∀ b o, h₀.get? b = some o → h'.get? b = some o := fun b o e => hold b o (fun e2 => by rw [e2, n88.2.2] at e; cases e) (F.keep b o e)
    refine h KR tab c3 h' tk' hK (fun p hp q hq e => ?_) ⟨F.ns.at' fun o e => hold L o (Ne.symm n88.2.1) e, old, F.above⟩ fun p hp => ?_
    · have z := (hrows p hp).2
      rcases List.mem_cons.mp hq with rfl | hq
      · rw [e, n88.1] at z; cases z
      · rw [e, (N q (.tail _ hq)).1] at z; cases z
    · rcases List.mem_append.mp hp with hp | hp
      · obtain ⟨z1, z2⟩ := hrows p hp
        refine ⟨z1, fun e => ?_, ?_⟩
        · obtain ⟨o, _, _, e2, _⟩ := F.ns
          rw [e, e2] at z2; cases z2
        · cases q : h₀.get? p.1 with
          | none => rfl
          | some o => rw [F.keep _ _ q] at z2; cases z2
      · rcases List.mem_cons.mp hp with rfl | hp
        · exact ⟨h88, n88.2.1, n88.2.2⟩
        · have z := N p (.tail _ hp)
          exact ⟨hold _ _ (hR p hp) z.1, z.2⟩

end
end
section
example : True := by
  k_with_none
  trivial

example : True := by
  (k_with "my_binds" => first | exact BindsTo.of_eq rfl | exact binds_K (by k_in) rfl (by k_is) rfl rfl rfl | fail "k_enter: no rule for these arguments")
  (k_with "my_entered" => ((case kA => exact rfl); (case kF => exact rfl); (case kK => first | assumption | exact rfl); (case k1 => k_asm); (case k2 => k_asm); (case k3 => k_asm); (case k4 => k_asm); (case k5 => k_asm); (case k6 => k_is); (case k7 => k_is); (case k8 => k_room); (case k9 => walk_at "my_binds"); (case c5 => decide); (case kB => exact locs rfl); (case c2 => exact rfl); (case c3 => exact rfl); (case c4 => exact rfl); k_whole))
  (k_with "my_in" => (intro g'_q L'_q h'_q FG'_q F'_q N'_q B'_q X'_q T'_q; (dsimp only at F'_q ⊢); (try k_fold)))
  (k_with "my_enter1" => (refine wpAny_call ?_; refine' code_def1 ?k1 ?k2 ?k3 ?k4 ?k5 ?kA ?kF ?kK ?k6 ?k7 ?k8 ?k9 ?kB ?_ ?c2 ?c3 ?c4 ?c5; walk_at "my_entered"))
  (k_with "my_enter2" => (refine wpAny_call ?_; refine' code_def2 ?k1 ?k2 ?k3 ?k4 ?k5 ?kA ?kF ?kK ?k6 ?k7 ?k8 ?k9 ?kB ?_ ?c2 ?c3 ?c4 ?c5; walk_at "my_entered"))
  (k_with "my_enter3" => (refine wpAny_call ?_; refine' code_def3 ?k1 ?k2 ?k3 ?k4 ?k5 ?kA ?kF ?kK ?k6 ?k7 ?k8 ?k9 ?kB ?_ ?c2 ?c3 ?c4 ?c5; walk_at "my_entered"))
  (k_with "call ref" => (k_here; (with_reducible show wpAny _ _ (call (Value.ref _) [_]) _ _ _); k_dflt (walk_at "my_enter1"); walk_at "my_in"))
  (k_with "call ref" => (k_here; (with_reducible show wpAny _ _ (call (Value.ref _) [_, _]) _ _ _); k_dflt (walk_at "my_enter2"); walk_at "my_in"))
  (k_with "call ref" => (k_here; (with_reducible show wpAny _ _ (call (Value.ref _) [_, _, _]) _ _ _); k_dflt (walk_at "my_enter3"); walk_at "my_in"))
  (k_with "my_use" => ((case hh => rfl); (case hf => rfl); (case hg => rfl); (case hd => exact Nat.le_of_ble_eq_true rfl); (case hu => exact Nat.le_of_ble_eq_true rfl); (case B => k_asm); (case F => k_asm); (case X => k_asm); (case N => k_asm); (case T => k_asm); (case K => first | assumption | exact rfl)))
  (k_with "my_var" => first | assumption | exact if_pos rfl | (refine (if_neg (by decide)).trans ?_; walk_at "my_var") | rfl)
  (k_with "eval Name" => (k_here; k_dflt (refine' ld ?F_h ?v_h ?_; (case F_h => k_asm); (case v_h => walk_at "my_var"); k_whole)))
  (k_with "subscriptTail" => (k_here; (with_reducible show wpAny _ _ (subscriptTail _ (PySem.Expr.Slice (some _) (some _) none _) (Value.str _ _) (Value.ref _)) _ _ _); k_dflt (refine' cut_ss ?F_h ?N_h ?hsz_h ?_; (case F_h => k_asm); (case N_h => k_asm); (case hsz_h => walk_at "my_len"); k_whole; intro h'_q t'_q tk'_q F'_q N'_q)))
  (k_with "subscriptTail" => (k_here; (with_reducible show wpAny _ _ (subscriptTail _ (PySem.Expr.Slice none (some _) none _) (Value.str _ _) (Value.ref _)) _ _ _); k_dflt (refine' cut_ns ?F_h ?N_h ?hsz_h ?_; (case F_h => k_asm); (case N_h => k_asm); (case hsz_h => walk_at "my_len"); k_whole; intro h'_q t'_q tk'_q F'_q N'_q)))
  (k_with "subscriptTail" => (k_here; (with_reducible show wpAny _ _ (subscriptTail _ (PySem.Expr.Slice (some _) none none _) (Value.str _ _) (Value.ref _)) _ _ _); k_dflt (refine' cut_sn ?F_h ?N_h ?hsz_h ?_; (case F_h => k_asm); (case N_h => k_asm); (case hsz_h => walk_at "my_len"); k_whole; intro h'_q t'_q tk'_q F'_q N'_q)))
  (k_with "my_len" => first | omega | ((try simp only [Txt.len_slice_le]); size_fits))
  (k_with "execs cons" => (k_here; (with_reducible show wpAny _ _ (execs [_] _) _ _ _); with_reducible refine execs_one ?_))
  trivial
section
noncomputable abbrev W0 : Str := Str.ofString "abcdfeghijklmnopqrstuvwxyzABCDEFGHIJKLMNOPQRSTUVWXYZ0123456789_ßàáâãäåæçèéêëìíîïðñòóôõöøùúûüýþÿÀÁÂÃÄÅÆÇÈÉÊËÌÍÎÏÐÑÒÓÔÕÖØÙÚÛÜÝÞ"
noncomputable abbrev lexObj (dl : Addr) : Obj := ⟨.ref 790, some dl, .plain, #[]⟩
noncomputable abbrev lexDict (g : Nat → Int) (k u : Nat → Tok) (so pb fs : Addr) (st : Value) (ln : Int) (tok : Value) : Obj := dictOf [⟨g 0, .str "instream" (k 0), .ref so⟩, ⟨g 1, .str "infile" (k 1), .none⟩, ⟨g 2, .str "posix" (k 2), .bool true⟩,
  ⟨g 3, .str "eof" (k 3), .none⟩, ⟨g 4, .str "commenters" (k 4), .str "" (u 4)⟩, ⟨g 5, .str "wordchars" (k 5), .str W0 (u 5)⟩, ⟨g 6, .str "whitespace" (k 6), .str " \t\r\n" (u 6)⟩, ⟨g 7, .str "whitespace_split" (k 7), .bool true⟩,
  ⟨g 8, .str "quotes" (k 8), .str "'\"" (u 8)⟩, ⟨g 9, .str "escape" (k 9), .str "\\" (u 9)⟩, ⟨g 10, .str "escapedquotes" (k 10), .str "\"" (u 10)⟩, ⟨g 11, .str "state" (k 11), st⟩, ⟨g 12, .str "pushback" (k 12), .ref pb⟩,
  ⟨g 13, .str "lineno" (k 13), .int ln (u 13)⟩, ⟨g 14, .str "debug" (k 14), .int 0 (u 14)⟩, ⟨g 15, .str "token" (k 15), tok⟩, ⟨g 16, .str "filestack" (k 16), .ref fs⟩, ⟨g 17, .str "source" (k 17), .none⟩, ⟨g 18, .str "_punctuation_chars" (k 18), .str "" (u 18)⟩] 19
example : True := by
  (k_with "k_inst" => (refine' InstAt.of_news ?N_h ?h1_h ?h2_h; (case N_h => k_asm); (case h1_h => k_mem); (case h2_h => k_mem)))
  (k_with "my_apart" => first | assumption | (refine List.forall_mem_cons.mpr ⟨?_, ?_⟩; (assumption); (walk_at "my_apart")))
  (k_with "my_step" => (first | (k_unfold; (try dsimp only)) | ((with_reducible show wpAny _ _ (exec (Stmt.If _ _ _ _) _) _ _ _); (try k_fold); walk1) | walk1 | (dsimp only; walk1) | (leave1; try dsimp only)))
  (k_with "my_upd" => first | (refine' Upd.head ?a_h; (case a_h => walk_at "my_apart")) | (refine' Upd.tail ?a_h ?b_h; (case a_h => first | assumption | k_ne); (case b_h => walk_at "my_upd")))
  (k_with "setAttr ref" => (k_here; k_dflt (refine' set_dict ?k1_h ?k2_h ?k3_h ?k4_h ?k5_h ?k6_h ?k7_h ?k8_h ?k9_h ?k10_h ?k11_h ?k12_h ?k13_h ?_; (case k1_h => k_asm); (case k2_h => k_asm); (case k3_h => k_asm); (case k4_h => k_inst); (case k5_h => exact rfl); (case k6_h => k_is); (case k7_h => k_is); (case k8_h => k_is); (case k9_h => k_is); (case k10_h => k_get); (case k11_h => k_put); (case k12_h => walk_at "my_upd"); (case k13_h => exact Nat.le_of_ble_eq_true rfl); k_whole); intro h'_q F'_q N'_q; (try k_sweep)))
  (k_with "call ref" => (k_here; k_dflt ((show wpAny _ _ (call (Value.ref 601) _) _ _ _); refine' Sat.use (read_eof _ _ _ _ ?hp_h ?hl_h _ _ _ _ _ _ _ _ _ _ _ _ ?hR_h) ?hh ?hd ?hu ?hf ?hg ?B ?F ?X ?N ?T ?K ?_; walk_at "my_use"; (case hp_h => assumption); (case hl_h => assumption); (case hR_h => walk_at "my_apart"); k_whole; rintro v'_q news'_q h'_q tk'_q ⟨t'_q, e1_q, e2_q⟩ F'_q N'_q; subst e1_q; subst e2_q; (try k_sweep))))
  (k_with "call ref" => (k_here; k_dflt ((show wpAny _ _ (call (Value.ref 601) _) _ _ _); refine' Sat.use (read_is _ _ _ _ ?hp_h ?hl_h _ _ _ _ _ _ _ _ _ _ _ _ ?hR_h _ ?hc_h) ?hh ?hd ?hu ?hf ?hg ?B ?F ?X ?N ?T ?K ?_; walk_at "my_use"; (case hp_h => assumption); (case hc_h => assumption); (case hl_h => assumption); (case hR_h => walk_at "my_apart"); k_whole; rintro v'_q news'_q h'_q tk'_q ⟨t'_q, t''_q, e1_q, e2_q⟩ F'_q N'_q; subst e1_q; subst e2_q; (try k_sweep))))
  trivial
theorem in_lit {prog : Program} {w : World} {A : Around} {E : Value → Shared → Prop} {s : Shared} {x y : Str} {t u : Tok} (b : Bool) {Q : Value → Shared → Prop} (e : Txt.contains x y = b) (h : Q (.bool b) s) : wpAny (model prog w) A (compareOp .In (.str y u) (.str x t)) Q E s := SB.contains (by rw [e]; exact h)
example : True := by
  (k_with "compareOp In str str" => (k_here; first | (refine' in_lit true ?e_h ?_; (case e_h => assumption)) | (refine' in_lit false ?e_h ?_; (case e_h => assumption)) | (refine' in_lit false ?e_h ?_; (case e_h => decide +kernel)) | (refine' in_lit true ?e_h ?_; (case e_h => decide +kernel))))
  trivial
theorem truthy_tx {prog : Program} {w : World} {A : Around} {E : Value → Shared → Prop} {s : Shared} {x : List Nat} {t : Tok} {Q : Bool → Shared → Prop} (hl : x.length ≤ 1000) (h : ∀ k, Q (!x.isEmpty) { s with toks := k }) : wpAny (model prog w) A (PySem.truthy (.str (tx x) t)) Q E s :=
  KXt.truthy (by rw [tx_len]; cases x with
    | nil => rfl
    | cons a r => rw [List.length_cons]; exact bne_iff_ne.mpr (by omega)) (by rw [tx_len]; omega) h
example : True := by
  (k_with "truthy str" => (k_here; (with_reducible show wpAny _ _ (PySem.truthy (Value.str (tx _) _)) _ _ _); (refine' truthy_tx ?hl_h ?_; (case hl_h => first | assumption | exact Nat.le_of_ble_eq_true rfl); k_whole; intro tk'_q)))
  trivial
theorem truthy_one {prog : Program} {w : World} {A : Around} {E : Value → Shared → Prop} {s : Shared} {x : Nat} {t : Tok} {Q : Bool → Shared → Prop} (h : ∀ k, Q true { s with toks := k }) : wpAny (model prog w) A (PySem.truthy (.str (tx [x]) t)) Q E s :=
  truthy_tx (Nat.le_of_ble_eq_true rfl) h
example : True := by
  (k_with "truthy str" => (k_here; (with_reducible show wpAny _ _ (PySem.truthy (Value.str (tx [_]) _)) _ _ _); (refine' truthy_one ?_; k_whole; intro tk'_q)))
  trivial
theorem my_tt {P Q : Prop} (h : P) : (if true = true then P else Q) := by rw [if_pos rfl]; exact h
theorem my_ff {P Q : Prop} (h : Q) : (if false = true then P else Q) := by rw [if_neg Bool.false_ne_true]; exact h
example : True := by
  (k_with "ite" => first | with_reducible refine my_ff ?_ | with_reducible refine my_tt ?_)
  trivial
theorem cut_after {M : Model} {A : Around} {t : Sem Flow} {E : Value → Shared → Prop} {s : Shared} {Q : Flow → Shared → Prop} (P : Shared → Prop) (k : ∀ s', P s' → Q .next s') (h : wpAny M A t (fun fl s' => fl = .next ∧ P s') E s) : wpAny M A t Q E s :=
  wpAny_mono h (fun _ s' x => by obtain ⟨rfl, p⟩ := x; exact k s' p) fun _ _ x => x
noncomputable def outOf (q : Bool) (tok : List Nat) : Option (List Nat) := if q = false ∧ tok = [] then none else some tok
theorem iadd_tx {prog : Program} {w : World} {A : Around} {E : Value → Shared → Prop} {s : Shared} {x y : List Nat} {t u : Tok} {Q : Value → Shared → Prop} (hl : x.length ≤ 1000) (hy : y.length ≤ 1000) (h : ∀ t' k, Q (.str (tx (x ++ y)) t') { s with toks := k }) : wpAny (model prog w) A (inplaceOp .Add (.str (tx x) t) (.str (tx y) u)) Q E s :=
  SB.iadd (fun t' k => by
    have e : tx x ++ tx y = tx (x ++ y) := by
      show (⟨x.toArray ++ y.toArray⟩ : Str) = _
      rw [List.append_toArray]
    rw [e]; exact h t' k) (by rw [tx_len, tx_len, sizeLine_eq]; omega)
example : True := by
  (k_with "inplaceOp Add str str" => (k_here; k_dflt (refine' iadd_tx ?hl_h ?hy_h ?_; (case hl_h => assumption); (case hy_h => exact Nat.le_of_ble_eq_true rfl); k_whole; intro t'_q tk'_q)))
  trivial
theorem eq_lit {prog : Program} {w : World} {A : Around} {E : Value → Shared → Prop} {s : Shared} {x y : Str} {t u : Tok} (b : Bool) {Q : Value → Shared → Prop} (e : (x == y) = b) (h : Q (.bool b) s) : wpAny (model prog w) A (compareOp .Eq (.str x t) (.str y u)) Q E s := eq_str (by rw [e]; exact h)
example : True := by
  (k_with "compareOp Eq str str" => (k_here; first | (refine' eq_lit false ?e_h ?_; (case e_h => assumption)) | (refine' eq_lit false ?e_h ?_; (case e_h => decide +kernel)) | (refine' eq_lit true ?e_h ?_; (case e_h => decide +kernel))))
  trivial
theorem news_tl {h h' : Heap} {L : Addr} {p : Addr × Obj} {l : List (Addr × Obj)} (N : News h L h' (p :: l)) : News h L h' l := fun q hq => N q (.tail _ hq)
example : True := by
  (k_with "my_news" => first | k_asm | exact news_tl (by k_asm))
  trivial
theorem tx_ne {tok : List Nat} (h : ¬ tok = []) : (tx tok == Str.ofString "") = false := by
  rw [beq_eq_false_iff_ne]
  intro e
  have e2 : tx tok = tx [] := e
  injection e2 with e2
  have := congrArg Array.toList e2
  exact h (by simpa using this)
theorem wd_out {q : Bool} {tok : List Nat} (h : okst .wd q tok) : outOf q tok = some tok := by
  unfold outOf
  rw [if_neg]
  rintro ⟨rfl, rfl⟩
  rcases h with h | h
  · cases h
  · exact h rfl
theorem wd_no {q : Bool} {tok : List Nat} (h1 : tok.isEmpty = true) (h2 : q = false) : ¬ okst .wd q tok := by
  subst h2
  intro h
  rcases h with h | h
  · cases h
  · cases tok with
    | nil => exact h rfl
    | cons a r => cases h1
inductive TokJ (R : List (Addr × Obj)) (l : List Nat) (so dx dl xo pb fs : Addr) (g1 g2 g3 : Int) (k1 k2 k3 v1 : Tok) (nl : Value) (g : Nat → Int) (k u : Nat → Tok) (ln : Int) (r : Option (List Nat)) (e : Bool) (rest : List Nat) : Nat → (Str → Option Value) → List (Addr × Obj) → Prop
  | mk {m : Str → Option Value} (p' : Nat) (q : Bool) (tok : List Nat) (st : LS) (te tv t3 t4 : Tok) (hp' : p' ≤ l.length) (y1 : m (Str.ofString "self") = some (.ref xo)) (y2 : m (Str.ofString "quoted") = some (.bool q)) (y3 : m (Str.ofString "escapedstate") = some (.str (Str.ofString " ") te)) (hsc : scan st q tok (l.drop p') = some (r, e, rest)) (hok : okst st q tok) (htl : tok.length ≤ p') : TokJ R l so dx dl xo pb fs g1 g2 g3 k1 k2 k3 v1 nl g k u ln r e rest (l.length - p') m ((dx, ioDict g1 g2 g3 k1 k2 k3 v1 tv nl (tx l) (p' : Nat)) :: (so, ioObj dx) :: (dl, lexDict g k u so pb fs (st.v t3) ln (.str (tx tok) t4)) :: (xo, lexObj dl) :: R)
inductive TokP (g' : Heap) (L' : Addr) (s : Shared) (R : List (Addr × Obj)) (l : List Nat) (so dx dl xo pb fs : Addr) (g1 g2 g3 : Int) (k1 k2 k3 v1 : Tok) (nl : Value) (g : Nat → Int) (k u : Nat → Tok) (ln : Int) (r : Option (List Nat)) (e : Bool) (rest : List Nat) : Shared → Prop
  | mk (h₂ : Heap) (tk' : Tok) (m' : Str → Option Value) (p' : Nat) (q : Bool) (tok : List Nat) (te tv : Tok) (st : Value) (t4 : Tok) (F : Fr g' L' h₂ m') (N : News g' L' h₂ ((dx, ioDict g1 g2 g3 k1 k2 k3 v1 tv nl (tx l) (p' : Nat)) :: (so, ioObj dx) :: (dl, lexDict g k u so pb fs st ln (.str (tx tok) t4)) :: (xo, lexObj dl) :: R)) (y1 : m' (Str.ofString "self") = some (.ref xo)) (y2 : m' (Str.ofString "quoted") = some (.bool q)) (hr : r = outOf q tok) (hrest : rest = l.drop p') (hp' : p' ≤ l.length) (hst : st = (LS.go e).v te) (htk : tok.length ≤ 1000) : TokP g' L' s R l so dx dl xo pb fs g1 g2 g3 k1 k2 k3 v1 nl g k u ln r e rest { s with heap := h₂, toks := tk' }
theorem or2 {P : Nat → Prop} {a b c : Nat} (h : c = a ∨ c = b) (ha : P a) (hb : P b) : P c := by rcases h with rfl | rfl <;> assumption
theorem scan_ne {st : LS} {q : Bool} {t r : List Nat} {c : Nat} {z : Option (List Nat) × Bool × List Nat} (h : scan st q t (c :: r) = some z) : ¬ c = 10 := by
  rintro rfl
  cases st <;> unfold scan at h <;> simp at h
noncomputable def TK0_s : {P : World → (List (Addr × Obj)) → (List Nat) → Nat → Addr → Addr → Addr → Addr → Addr → Addr → Int → Int → Int → Tok → Tok → Tok → Tok → Tok → Value → (Nat → Int) → (Nat → Tok) → (Nat → Tok) → Tok → Tok → Int → (Option (List Nat)) → Bool → (List Nat) → LS → Program → (List Str) → (ExcName → Option Value) → (Str → Option Value) → (Str → Option Value) → (Option (List Code)) → Str → Scope → Addr → Value → (List (Str × Addr)) → (List Env) → Around → Heap → Heap → Addr → (Str → Option Value) → Shared → (Value → Shared → Prop) → (Value → Shared → Prop) → Heap → Addr → Heap → Prop // (∀ w R l p so dx dl xo pb fs g1 g2 g3 k1 k2 k3 v1 v3 nl g k u t1 t2 ln r e rest st0 pp ll mean mg mb gd cn cs a ccd cl outer A₀ base h₀ L m s Q E g' L' h', P w R l p so dx dl xo pb fs g1 g2 g3 k1 k2 k3 v1 v3 nl g k u t1 t2 ln r e rest st0 pp ll mean mg mb gd cn cs a ccd cl outer A₀ base h₀ L m s Q E g' L' h') → (∀ (w : World) (R : List (Addr × Obj)) (l : List Nat) (p : Nat) (hpl : p ≤ l.length) (hl : l.length ≤ 1000) (so dx dl xo pb fs : Addr) (g1 g2 g3 : Int) (k1 k2 k3 v1 v3 : Tok) (nl : Value) (g : Nat → Int) (k u : Nat → Tok) (t1 t2 : Tok) (ln : Int) (a1 : so ≠ dx) (a2 : dl ≠ dx) (a3 : xo ≠ dx) (a4 : ∀ q ∈ R, q.1 ≠ dx) (b1 : dx ≠ dl) (b2 : so ≠ dl) (b3 : xo ≠ dl) (b4 : ∀ q ∈ R, q.1 ≠ dl) (r : Option (List Nat)) (e : Bool) (rest : List Nat) (st0 : LS) (hok0 : okst st0 false []) (hs : scan st0 false [] (l.drop p) = some (r, e, rest)), Sat w 600 4000 758 [.ref xo] ((dx, ioDict g1 g2 g3 k1 k2 k3 v1 v3 nl (tx l) p) :: (so, ioObj dx) :: (dl, lexDict g k u so pb fs (st0.v t1) ln (.str (tx []) t2)) :: (xo, lexObj dl) :: R)
      (fun v news' => ∃ p' te tv t4 t5, r.elim (v = .none) (fun z => v = .str (tx z) t5) ∧ news' = (dx, ioDict g1 g2 g3 k1 k2 k3 v1 tv nl (tx l) (p' : Nat)) :: (so, ioObj dx) :: (dl, lexDict g k u so pb fs ((LS.go e).v te) ln (.str (tx []) t4)) :: (xo, lexObj dl) :: R ∧ rest = l.drop p' ∧ p' ≤ l.length))} := by
  refine' ⟨_, fun HC1 => ?hcut⟩
  case hcut =>
    intro w R l p hpl hl so dx dl xo pb fs g1 g2 g3 k1 k2 k3 v1 v3 nl g k u t1 t2 ln a1 a2 a3 a4 b1 b2 b3 b4 r e rest st0 hok0 hs
    intro pp ll mean mg mb gd cn cs a ccd cl outer A₀ base h₀ L m s Q E B' F X N T hk hret
    k_dflt (walk_at "my_enter1")
    intro g' L' h' FG' F' N' BB' X' T'
    dsimp only at F' ⊢
    revert hpl hl a1 a2 a3 a4 b1 b2 b3 b4 hok0 hs B' F X N T hk hret FG' F' N' BB' X' T'
    exact HC1 w R l p so dx dl xo pb fs g1 g2 g3 k1 k2 k3 v1 v3 nl g k u t1 t2 ln r e rest st0 pp ll mean mg mb gd cn cs a ccd cl outer A₀ base h₀ L m s Q E g' L' h'
@[irreducible] noncomputable def TK0_e : (World × (List (Addr × Obj)) × (List Nat) × Nat × Addr × Addr × Addr × Addr) × (Addr × Addr × Int × Int × Int × Tok × Tok × Tok) × (Tok × Tok × Value × (Nat → Int) × (Nat → Tok) × (Nat → Tok) × Tok × Tok) × (Int × (Option (List Nat)) × Bool × (List Nat) × LS × Program × (List Str) × (ExcName → Option Value)) × ((Str → Option Value) × (Str → Option Value) × (Option (List Code)) × Str × Scope × Addr × Value × (List (Str × Addr))) × ((List Env) × Around × Heap × Heap × Addr × (Str → Option Value) × Shared × (Value → Shared → Prop)) × ((Value → Shared → Prop) × Heap × Addr × Heap) := Ep (by first | infer_instance | (repeat' (first | exact neW | exact neA | exact neS | infer_instance | refine neP ?_ ?_ | (refine ⟨?_⟩; constructor <;> exact default) | (refine ⟨?_⟩; constructor)))) fun x => TK0_s.1 x.1.1 x.1.2.1 x.1.2.2.1 x.1.2.2.2.1 x.1.2.2.2.2.1 x.1.2.2.2.2.2.1 x.1.2.2.2.2.2.2.1 x.1.2.2.2.2.2.2.2 x.2.1.1 x.2.1.2.1 x.2.1.2.2.1 x.2.1.2.2.2.1 x.2.1.2.2.2.2.1 x.2.1.2.2.2.2.2.1 x.2.1.2.2.2.2.2.2.1 x.2.1.2.2.2.2.2.2.2 x.2.2.1.1 x.2.2.1.2.1 x.2.2.1.2.2.1 x.2.2.1.2.2.2.1 x.2.2.1.2.2.2.2.1 x.2.2.1.2.2.2.2.2.1 x.2.2.1.2.2.2.2.2.2.1 x.2.2.1.2.2.2.2.2.2.2 x.2.2.2.1.1 x.2.2.2.1.2.1 x.2.2.2.1.2.2.1 x.2.2.2.1.2.2.2.1 x.2.2.2.1.2.2.2.2.1 x.2.2.2.1.2.2.2.2.2.1 x.2.2.2.1.2.2.2.2.2.2.1 x.2.2.2.1.2.2.2.2.2.2.2 x.2.2.2.2.1.1 x.2.2.2.2.1.2.1 x.2.2.2.2.1.2.2.1 x.2.2.2.2.1.2.2.2.1 x.2.2.2.2.1.2.2.2.2.1 x.2.2.2.2.1.2.2.2.2.2.1 x.2.2.2.2.1.2.2.2.2.2.2.1 x.2.2.2.2.1.2.2.2.2.2.2.2 x.2.2.2.2.2.1.1 x.2.2.2.2.2.1.2.1 x.2.2.2.2.2.1.2.2.1 x.2.2.2.2.2.1.2.2.2.1 x.2.2.2.2.2.1.2.2.2.2.1 x.2.2.2.2.2.1.2.2.2.2.2.1 x.2.2.2.2.2.1.2.2.2.2.2.2.1 x.2.2.2.2.2.1.2.2.2.2.2.2.2 x.2.2.2.2.2.2.1 x.2.2.2.2.2.2.2.1 x.2.2.2.2.2.2.2.2.1 x.2.2.2.2.2.2.2.2.2
namespace TK0
noncomputable section
 @[irreducible] def w := TK0_e.1.1
 @[irreducible] def R := TK0_e.1.2.1
 @[irreducible] def l := TK0_e.1.2.2.1
 @[irreducible] def p := TK0_e.1.2.2.2.1
 @[irreducible] def so := TK0_e.1.2.2.2.2.1
 @[irreducible] def dx := TK0_e.1.2.2.2.2.2.1
 @[irreducible] def dl := TK0_e.1.2.2.2.2.2.2.1
 @[irreducible] def xo := TK0_e.1.2.2.2.2.2.2.2
 @[irreducible] def pb := TK0_e.2.1.1
 @[irreducible] def fs := TK0_e.2.1.2.1
 @[irreducible] def g1 := TK0_e.2.1.2.2.1
 @[irreducible] def g2 := TK0_e.2.1.2.2.2.1
 @[irreducible] def g3 := TK0_e.2.1.2.2.2.2.1
 @[irreducible] def k1 := TK0_e.2.1.2.2.2.2.2.1
 @[irreducible] def k2 := TK0_e.2.1.2.2.2.2.2.2.1
 @[irreducible] def k3 := TK0_e.2.1.2.2.2.2.2.2.2
 @[irreducible] def v1 := TK0_e.2.2.1.1
 @[irreducible] def v3 := TK0_e.2.2.1.2.1
 @[irreducible] def nl := TK0_e.2.2.1.2.2.1
 @[irreducible] def g := TK0_e.2.2.1.2.2.2.1
 @[irreducible] def k := TK0_e.2.2.1.2.2.2.2.1
 @[irreducible] def u := TK0_e.2.2.1.2.2.2.2.2.1
 @[irreducible] def t1 := TK0_e.2.2.1.2.2.2.2.2.2.1
 @[irreducible] def t2 := TK0_e.2.2.1.2.2.2.2.2.2.2
 @[irreducible] def ln := TK0_e.2.2.2.1.1
 @[irreducible] def r := TK0_e.2.2.2.1.2.1
 @[irreducible] def e := TK0_e.2.2.2.1.2.2.1
 @[irreducible] def rest := TK0_e.2.2.2.1.2.2.2.1
 @[irreducible] def st0 := TK0_e.2.2.2.1.2.2.2.2.1
 @[irreducible] def pp := TK0_e.2.2.2.1.2.2.2.2.2.1
 @[irreducible] def ll := TK0_e.2.2.2.1.2.2.2.2.2.2.1
 @[irreducible] def mean := TK0_e.2.2.2.1.2.2.2.2.2.2.2
 @[irreducible] def mg := TK0_e.2.2.2.2.1.1
 @[irreducible] def mb := TK0_e.2.2.2.2.1.2.1
 @[irreducible] def gd := TK0_e.2.2.2.2.1.2.2.1
 @[irreducible] def cn := TK0_e.2.2.2.2.1.2.2.2.1
 @[irreducible] def cs := TK0_e.2.2.2.2.1.2.2.2.2.1
 @[irreducible] def a := TK0_e.2.2.2.2.1.2.2.2.2.2.1
 @[irreducible] def ccd := TK0_e.2.2.2.2.1.2.2.2.2.2.2.1
 @[irreducible] def cl := TK0_e.2.2.2.2.1.2.2.2.2.2.2.2
 @[irreducible] def outer := TK0_e.2.2.2.2.2.1.1
 @[irreducible] def A₀ := TK0_e.2.2.2.2.2.1.2.1
 @[irreducible] def base := TK0_e.2.2.2.2.2.1.2.2.1
 @[irreducible] def h₀ := TK0_e.2.2.2.2.2.1.2.2.2.1
 @[irreducible] def L := TK0_e.2.2.2.2.2.1.2.2.2.2.1
 @[irreducible] def m := TK0_e.2.2.2.2.2.1.2.2.2.2.2.1
 @[irreducible] def s := TK0_e.2.2.2.2.2.1.2.2.2.2.2.2.1
 @[irreducible] def Q := TK0_e.2.2.2.2.2.1.2.2.2.2.2.2.2
 @[irreducible] def E := TK0_e.2.2.2.2.2.2.1
 @[irreducible] def g' := TK0_e.2.2.2.2.2.2.2.1
 @[irreducible] def L' := TK0_e.2.2.2.2.2.2.2.2.1
 @[irreducible] def h' := TK0_e.2.2.2.2.2.2.2.2.2
end
end TK0
section
open TK0
noncomputable def TK1_s : {P : Nat → Heap → (Str → Option Value) → Heap → Nat → Nat → Tok → Tok → Tok → Tok → Prop // (∀ tk h9 m₁ h₁ tk₁ p' te tv t3 t4, P tk h9 m₁ h₁ tk₁ p' te tv t3 t4) → (TK0_s.1 TK0.w TK0.R TK0.l TK0.p TK0.so TK0.dx TK0.dl TK0.xo TK0.pb TK0.fs TK0.g1 TK0.g2 TK0.g3 TK0.k1 TK0.k2 TK0.k3 TK0.v1 TK0.v3 TK0.nl TK0.g TK0.k TK0.u TK0.t1 TK0.t2 TK0.ln TK0.r TK0.e TK0.rest TK0.st0 TK0.pp TK0.ll TK0.mean TK0.mg TK0.mb TK0.gd TK0.cn TK0.cs TK0.a TK0.ccd TK0.cl TK0.outer TK0.A₀ TK0.base TK0.h₀ TK0.L TK0.m TK0.s TK0.Q TK0.E TK0.g' TK0.L' TK0.h')} := by
  refine' ⟨_, fun HC1 => ?hcut⟩
  case hcut =>
    intro hpl hl a1 a2 a3 a4 b1 b2 b3 b4 hok0 hs B' F X N T hk hret FG' F' N' BB' X' T'
    repeat (first | (fail_if_success (with_reducible show wpAny _ _ (exec (Stmt.While _ _ _ _) _) _ _ _)); walk1)
    refine cut_after (TokP g' L' s R l so dx dl xo pb fs g1 g2 g3 k1 k2 k3 v1 nl g k u ln r e rest) ?k ?h
    case h =>
      rename Heap => h9
      refine' While_inv2 (TokJ R l so dx dl xo pb fs g1 g2 g3 k1 k2 k3 v1 nl g k u ln r e rest) (n₀ := l.length - p) ?F ?N ?J ?turn ?E
      case F => k_asm
      case N => k_asm
      case E => passes_own
      case J =>
        refine' TokJ.mk p false [] st0 _ _ _ _ hpl ?a1 ?a2 ?a3 hs hok0 (Nat.zero_le _)
        case a1 => walk_at "my_var"
        case a2 => walk_at "my_var"
        case a3 => walk_at "my_var"
      case turn =>
        rintro n m₁ news₁ h₁ tk₁ F₁ N₁ ⟨p', q, tok, st, te, tv, t3, t4, hp', y1, y2, y3, hsc, hok, htl⟩
        have htl' : tok.length ≤ 1000 := by omega
        revert hpl hl a1 a2 a3 a4 b1 b2 b3 b4 B' X T hk hret FG' BB' X' T' F₁ q tok st hp' hsc hok htl y1 y2 y3 N₁ htl'
        exact HC1 tk h9 m₁ h₁ tk₁ p' te tv t3 t4
    case k =>
      rintro s' ⟨h₂, tk', m', p', q, tok, te, tv, st, t4, F₂, N₂, y1, y2, er, et, hp', hst, htk⟩
      subst hst
      by_cases hq : q = true
      · subst hq
        repeat' walk_at "my_step"
        exact hret _ _ _ _ ⟨p', te, tv, _, _, by rw [er]; rfl, rfl, et, hp'⟩ (by k_asm) (by walk_at "my_news")
      · have hq' : q = false := by simpa using hq
        subst hq'
        by_cases ht : tok = []
        · subst ht
          repeat' walk_at "my_step"
          exact hret _ _ _ _ ⟨p', te, tv, _, 0, by rw [er]; rfl, rfl, et, hp'⟩ (by k_asm) (by walk_at "my_news")
        · have ht' : (tx tok == Str.ofString "") = false := tx_ne ht
          repeat' walk_at "my_step"
          exact hret _ _ _ _ ⟨p', te, tv, _, _, by rw [er, outOf, if_neg (fun z => ht z.2)]; rfl, rfl, et, hp'⟩ (by k_asm) (by walk_at "my_news")
  
  
@[irreducible] noncomputable def TK1_e : (Nat × Heap × (Str → Option Value) × Heap × Nat × Nat × Tok × Tok) × (Tok × Tok) := Ep (by first | infer_instance | (repeat' (first | exact neW | exact neA | exact neS | infer_instance | refine neP ?_ ?_ | (refine ⟨?_⟩; constructor <;> exact default) | (refine ⟨?_⟩; constructor)))) fun x => TK1_s.1 x.1.1 x.1.2.1 x.1.2.2.1 x.1.2.2.2.1 x.1.2.2.2.2.1 x.1.2.2.2.2.2.1 x.1.2.2.2.2.2.2.1 x.1.2.2.2.2.2.2.2 x.2.1 x.2.2
namespace TK1
noncomputable section
 @[irreducible] def tk := TK1_e.1.1
 @[irreducible] def h9 := TK1_e.1.2.1
 @[irreducible] def m₁ := TK1_e.1.2.2.1
 @[irreducible] def h₁ := TK1_e.1.2.2.2.1
 @[irreducible] def tk₁ := TK1_e.1.2.2.2.2.1
 @[irreducible] def p' := TK1_e.1.2.2.2.2.2.1
 @[irreducible] def te := TK1_e.1.2.2.2.2.2.2.1
 @[irreducible] def tv := TK1_e.1.2.2.2.2.2.2.2
 @[irreducible] def t3 := TK1_e.2.1
 @[irreducible] def t4 := TK1_e.2.2
end
end TK1
section
open TK1
theorem TK1_b : TK1_s.1 TK1.tk TK1.h9 TK1.m₁ TK1.h₁ TK1.tk₁ TK1.p' TK1.te TK1.tv TK1.t3 TK1.t4 := by
  intro hpl hl a1 a2 a3 a4 b1 b2 b3 b4 B' X T hk hret FG' BB' X' T' F₁ q tok st hp' hsc hok htl y1 y2 y3 N₁ htl'
  by_cases hlt : p' < l.length
  · rw [List.drop_eq_getElem_cons hlt] at hsc
    generalize hcv : l[p'] = cv at hsc
    have hc : tx [l[p']] = tx [cv] := by rw [hcv]
    have h10 : ¬ cv = 10 := scan_ne hsc
    have n10 : (tx [cv] == Str.ofString "\n") = false := one_ne (h := h10)
    repeat (first | (fail_if_success (with_reducible show wpAny _ _ (exec (Stmt.If (PySem.Expr.Compare (PySem.Expr.Attribute _ (Str.ofString "state") _) [CmpOp.Is] _ _) _ _ _) _) _ _ _)); walk_at "my_step")
    rename News _ _ _ _ => N₂
    clear hcv hc
    cases st with
    | sp =>
      obtain ⟨rfl, rfl⟩ := hok
      dsimp only [LS.v] at N₂
      unfold scan at hsc
      by_cases h1 : cv = 32
      · subst h1
        rw [if_pos rfl] at hsc
        repeat' walk_at "my_step"
        refine' ws_next (n' := l.length - (p' + 1)) ?F ?N ?lt (TokJ.mk (p' + 1) false ([]) .sp _ _ _ _ hlt ?a1 ?a2 ?a3 (hsc) (⟨rfl, rfl⟩) (Nat.zero_le _))
        case F => k_asm
        case N => walk_at "my_news"
        case lt => omega
        case a1 => walk_at "my_var"
        case a2 => walk_at "my_var"
        case a3 => walk_at "my_var"
      rw [if_neg h1] at hsc
      by_cases h2 : cv = 39
      · subst h2
        rw [if_pos rfl] at hsc
        repeat' walk_at "my_step"
        refine' ws_next (n' := l.length - (p' + 1)) ?F ?N ?lt (TokJ.mk (p' + 1) false ([]) .sq _ _ _ _ hlt ?a1 ?a2 ?a3 (hsc) (trivial) (Nat.zero_le _))
        case F => k_asm
        case N => walk_at "my_news"
        case lt => omega
        case a1 => walk_at "my_var"
        case a2 => walk_at "my_var"
        case a3 => walk_at "my_var"
      rw [if_neg h2] at hsc
      by_cases h3 : cv = 97 ∨ cv = 98 ∨ cv = 43 ∨ cv = 45
      · rw [if_pos h3] at hsc
        by_cases h4 : cv = 97 ∨ cv = 98
        · clear h3
          have w0 : Txt.contains (Str.ofString " \t\r\n") (tx [cv]) = false := or2 (P := fun c => Txt.contains (Str.ofString " \t\r\n") (tx [c]) = false) h4 (by decide +kernel) (by decide +kernel)
          have w1 : Txt.contains (Str.ofString "") (tx [cv]) = false := or2 (P := fun c => Txt.contains (Str.ofString "") (tx [c]) = false) h4 (by decide +kernel) (by decide +kernel)
          have w2 : Txt.contains (Str.ofString "\\") (tx [cv]) = false := or2 (P := fun c => Txt.contains (Str.ofString "\\") (tx [c]) = false) h4 (by decide +kernel) (by decide +kernel)
          have w3 : Txt.contains W0 (tx [cv]) = true := or2 (P := fun c => Txt.contains W0 (tx [c]) = true) h4 (by decide +kernel) (by decide +kernel)
          repeat' walk_at "my_step"
          refine' ws_next (n' := l.length - (p' + 1)) ?F ?N ?lt (TokJ.mk (p' + 1) false ([cv]) .wd _ _ _ _ hlt ?a1 ?a2 ?a3 (hsc) ((.inr (List.cons_ne_nil _ _))) ((Nat.succ_le_succ (Nat.zero_le _))))
          case F => k_asm
          case N => walk_at "my_news"
          case lt => omega
          case a1 => walk_at "my_var"
          case a2 => walk_at "my_var"
          case a3 => walk_at "my_var"
        · have h5 : cv = 43 ∨ cv = 45 := by omega
          clear h3 h4
          have w0 : Txt.contains (Str.ofString " \t\r\n") (tx [cv]) = false := or2 (P := fun c => Txt.contains (Str.ofString " \t\r\n") (tx [c]) = false) h5 (by decide +kernel) (by decide +kernel)
          have w1 : Txt.contains (Str.ofString "") (tx [cv]) = false := or2 (P := fun c => Txt.contains (Str.ofString "") (tx [c]) = false) h5 (by decide +kernel) (by decide +kernel)
          have w2 : Txt.contains (Str.ofString "\\") (tx [cv]) = false := or2 (P := fun c => Txt.contains (Str.ofString "\\") (tx [c]) = false) h5 (by decide +kernel) (by decide +kernel)
          have w3 : Txt.contains W0 (tx [cv]) = false := or2 (P := fun c => Txt.contains W0 (tx [c]) = false) h5 (by decide +kernel) (by decide +kernel)
          have w4 : Txt.contains (Str.ofString "'\"") (tx [cv]) = false := or2 (P := fun c => Txt.contains (Str.ofString "'\"") (tx [c]) = false) h5 (by decide +kernel) (by decide +kernel)
          repeat' walk_at "my_step"
          refine' ws_next (n' := l.length - (p' + 1)) ?F ?N ?lt (TokJ.mk (p' + 1) false ([cv]) .wd _ _ _ _ hlt ?a1 ?a2 ?a3 (hsc) ((.inr (List.cons_ne_nil _ _))) ((Nat.succ_le_succ (Nat.zero_le _))))
          case F => k_asm
          case N => walk_at "my_news"
          case lt => omega
          case a1 => walk_at "my_var"
          case a2 => walk_at "my_var"
          case a3 => walk_at "my_var"
      · rw [if_neg h3] at hsc; cases hsc
    | wd =>
      dsimp only [LS.v] at N₂
      unfold scan at hsc
      by_cases h1 : cv = 32
      · subst h1
        rw [if_pos rfl] at hsc
        obtain ⟨zr, ze, zt⟩ : some tok = r ∧ false = e ∧ l.drop (p' + 1) = rest := by
          injection hsc with hsc; injection hsc with z1 z2; injection z2 with z2 z3; exact ⟨z1, z2, z3⟩
        have hout : some tok = outOf q tok := (wd_out hok).symm
        repeat' walk_at "my_step"
        · show Flow.next = Flow.next ∧ _
          refine' ⟨rfl, TokP.mk _ _ _ (p' + 1) q (tok) _ _ _ _ ?F ?N ?a1 ?a2 (zr.symm.trans hout) (zt.symm.trans rfl) hlt ?zs ?tl⟩
          case tl => first | assumption | exact Nat.le_of_ble_eq_true rfl
          case F => k_asm
          case N => walk_at "my_news"
          case a1 => walk_at "my_var"
          case a2 => walk_at "my_var"
          case zs => refine Eq.trans ?_ (congrArg (fun z => (LS.go z).v _) ze); rfl
        · exact absurd hok (wd_no (by assumption) (by assumption))
        · show Flow.next = Flow.next ∧ _
          refine' ⟨rfl, TokP.mk _ _ _ (p' + 1) q (tok) _ _ _ _ ?F ?N ?a1 ?a2 (zr.symm.trans hout) (zt.symm.trans rfl) hlt ?zs ?tl⟩
          case tl => first | assumption | exact Nat.le_of_ble_eq_true rfl
          case F => k_asm
          case N => walk_at "my_news"
          case a1 => walk_at "my_var"
          case a2 => walk_at "my_var"
          case zs => refine Eq.trans ?_ (congrArg (fun z => (LS.go z).v _) ze); rfl
      rw [if_neg h1] at hsc
      by_cases h2 : cv = 39
      · subst h2
        rw [if_pos rfl] at hsc
        repeat' walk_at "my_step"
        refine' ws_next (n' := l.length - (p' + 1)) ?F ?N ?lt (TokJ.mk (p' + 1) q (tok) .sq _ _ _ _ hlt ?a1 ?a2 ?a3 (hsc) (trivial) ((by omega)))
        case F => k_asm
        case N => walk_at "my_news"
        case lt => omega
        case a1 => walk_at "my_var"
        case a2 => walk_at "my_var"
        case a3 => walk_at "my_var"
      rw [if_neg h2] at hsc
      by_cases h3 : cv = 34
      · subst h3
        rw [if_pos rfl] at hsc
        repeat' walk_at "my_step"
        refine' ws_next (n' := l.length - (p' + 1)) ?F ?N ?lt (TokJ.mk (p' + 1) q (tok) .dq _ _ _ _ hlt ?a1 ?a2 ?a3 (hsc) (trivial) ((by omega)))
        case F => k_asm
        case N => walk_at "my_news"
        case lt => omega
        case a1 => walk_at "my_var"
        case a2 => walk_at "my_var"
        case a3 => walk_at "my_var"
      rw [if_neg h3] at hsc
      by_cases h4 : cv = 97 ∨ cv = 98
      · rw [if_pos h4] at hsc
        have w0 : Txt.contains (Str.ofString " \t\r\n") (tx [cv]) = false := or2 (P := fun c => Txt.contains (Str.ofString " \t\r\n") (tx [c]) = false) h4 (by decide +kernel) (by decide +kernel)
        have w1 : Txt.contains (Str.ofString "") (tx [cv]) = false := or2 (P := fun c => Txt.contains (Str.ofString "") (tx [c]) = false) h4 (by decide +kernel) (by decide +kernel)
        have w2 : Txt.contains (Str.ofString "\\") (tx [cv]) = false := or2 (P := fun c => Txt.contains (Str.ofString "\\") (tx [c]) = false) h4 (by decide +kernel) (by decide +kernel)
        have w3 : Txt.contains (Str.ofString "'\"") (tx [cv]) = false := or2 (P := fun c => Txt.contains (Str.ofString "'\"") (tx [c]) = false) h4 (by decide +kernel) (by decide +kernel)
        have w4 : Txt.contains W0 (tx [cv]) = true := or2 (P := fun c => Txt.contains W0 (tx [c]) = true) h4 (by decide +kernel) (by decide +kernel)
        repeat' walk_at "my_step"
        refine' ws_next (n' := l.length - (p' + 1)) ?F ?N ?lt (TokJ.mk (p' + 1) q ((tok ++ [cv])) .wd _ _ _ _ hlt ?a1 ?a2 ?a3 (hsc) ((.inr (by simp))) ((by simp; omega)))
        case F => k_asm
        case N => walk_at "my_news"
        case lt => omega
        case a1 => walk_at "my_var"
        case a2 => walk_at "my_var"
        case a3 => walk_at "my_var"
      · rw [if_neg h4] at hsc; cases hsc
    | sq =>
      dsimp only [LS.v] at N₂
      unfold scan at hsc
      by_cases h1 : cv = 39
      · subst h1
        rw [if_pos rfl] at hsc
        repeat' walk_at "my_step"
        refine' ws_next (n' := l.length - (p' + 1)) ?F ?N ?lt (TokJ.mk (p' + 1) true (tok) .wd _ _ _ _ hlt ?a1 ?a2 ?a3 (hsc) ((.inl rfl)) ((by omega)))
        case F => k_asm
        case N => walk_at "my_news"
        case lt => omega
        case a1 => walk_at "my_var"
        case a2 => walk_at "my_var"
        case a3 => walk_at "my_var"
      rw [if_neg h1] at hsc
      by_cases h2 : cv = 92 ∨ cv = 10 ∨ 128 ≤ cv
      · rw [if_pos h2] at hsc; cases hsc
      rw [if_neg h2] at hsc
      have n1 : (tx [cv] == Str.ofString "'") = false   := one_ne (h := h1)
      have n2 : Txt.contains (Str.ofString "\\") (tx [cv]) = false := one_not h2
      repeat' walk_at "my_step"
      refine' ws_next (n' := l.length - (p' + 1)) ?F ?N ?lt (TokJ.mk (p' + 1) true ((tok ++ [cv])) .sq _ _ _ _ hlt ?a1 ?a2 ?a3 (hsc) (trivial) ((by simp; omega)))
      case F => k_asm
      case N => walk_at "my_news"
      case lt => omega
      case a1 => walk_at "my_var"
      case a2 => walk_at "my_var"
      case a3 => walk_at "my_var"
    | dq =>
      dsimp only [LS.v] at N₂
      unfold scan at hsc
      by_cases h1 : cv = 34
      · subst h1
        rw [if_pos rfl] at hsc
        repeat' walk_at "my_step"
        refine' ws_next (n' := l.length - (p' + 1)) ?F ?N ?lt (TokJ.mk (p' + 1) true (tok) .wd _ _ _ _ hlt ?a1 ?a2 ?a3 (hsc) ((.inl rfl)) ((by omega)))
        case F => k_asm
        case N => walk_at "my_news"
        case lt => omega
        case a1 => walk_at "my_var"
        case a2 => walk_at "my_var"
        case a3 => walk_at "my_var"
      rw [if_neg h1] at hsc
      by_cases h2 : cv = 92 ∨ cv = 10 ∨ 128 ≤ cv
      · rw [if_pos h2] at hsc; cases hsc
      rw [if_neg h2] at hsc
      have n1 : (tx [cv] == Str.ofString "\"") = false   := one_ne (h := h1)
      have n2 : Txt.contains (Str.ofString "\\") (tx [cv]) = false := one_not h2
      repeat' walk_at "my_step"
      refine' ws_next (n' := l.length - (p' + 1)) ?F ?N ?lt (TokJ.mk (p' + 1) true ((tok ++ [cv])) .dq _ _ _ _ hlt ?a1 ?a2 ?a3 (hsc) (trivial) ((by simp; omega)))
      case F => k_asm
      case N => walk_at "my_news"
      case lt => omega
      case a1 => walk_at "my_var"
      case a2 => walk_at "my_var"
      case a3 => walk_at "my_var"
    | fin =>
      unfold scan at hsc
      cases hsc
  · have hpe : p' = l.length := by omega
    rw [List.drop_eq_nil_of_le (by omega)] at hsc
    repeat (first | (fail_if_success (with_reducible show wpAny _ _ (exec (Stmt.If (PySem.Expr.Compare (PySem.Expr.Attribute _ (Str.ofString "state") _) [CmpOp.Is] _ _) _ _ _) _) _ _ _)); walk_at "my_step")
    rename News _ _ _ _ => N₂
    cases st with
    | sp =>
      obtain ⟨rfl, rfl⟩ := hok
      dsimp only [LS.v] at N₂
      unfold scan at hsc
      obtain ⟨zr, ze, zt⟩ : none = r ∧ true = e ∧ [] = rest := by
        injection hsc with hsc; injection hsc with z1 z2; injection z2 with z2 z3; exact ⟨z1, z2, z3⟩
      repeat' walk_at "my_step"
      show Flow.next = Flow.next ∧ _
      refine' ⟨rfl, TokP.mk _ _ _ p' false ([]) 0 _ _ _ ?F ?N ?a1 ?a2 (zr.symm.trans rfl) (zt.symm.trans (List.drop_eq_nil_of_le (by omega)).symm) hp' ?zs ?tl⟩
      case tl => first | assumption | exact Nat.le_of_ble_eq_true rfl
      case F => k_asm
      case N => walk_at "my_news"
      case a1 => walk_at "my_var"
      case a2 => walk_at "my_var"
      case zs => refine Eq.trans ?_ (congrArg (fun z => (LS.go z).v _) ze); rfl
    | wd =>
      dsimp only [LS.v] at N₂
      unfold scan at hsc
      obtain ⟨zr, ze, zt⟩ : some tok = r ∧ true = e ∧ [] = rest := by
        injection hsc with hsc; injection hsc with z1 z2; injection z2 with z2 z3; exact ⟨z1, z2, z3⟩
      have hout : some tok = outOf q tok := (wd_out hok).symm
      repeat' walk_at "my_step"
      show Flow.next = Flow.next ∧ _
      refine' ⟨rfl, TokP.mk _ _ _ p' q (tok) 0 _ _ _ ?F ?N ?a1 ?a2 (zr.symm.trans hout) (zt.symm.trans (List.drop_eq_nil_of_le (by omega)).symm) hp' ?zs ?tl⟩
      case tl => first | assumption | exact Nat.le_of_ble_eq_true rfl
      case F => k_asm
      case N => walk_at "my_news"
      case a1 => walk_at "my_var"
      case a2 => walk_at "my_var"
      case zs => refine Eq.trans ?_ (congrArg (fun z => (LS.go z).v _) ze); rfl
    | sq =>
      unfold scan at hsc
      cases hsc
    | dq =>
      unfold scan at hsc
      cases hsc
    | fin =>
      obtain ⟨rfl, rfl⟩ := hok
      dsimp only [LS.v] at N₂
      unfold scan at hsc
      obtain ⟨zr, ze, zt⟩ : none = r ∧ true = e ∧ [] = rest := by
        injection hsc with hsc; injection hsc with z1 z2; injection z2 with z2 z3; exact ⟨z1, z2, z3⟩
      repeat' walk_at "my_step"
      show Flow.next = Flow.next ∧ _
      refine' ⟨rfl, TokP.mk _ _ _ p' false ([]) 0 _ _ _ ?F ?N ?a1 ?a2 (zr.symm.trans rfl) (zt.symm.trans (List.drop_eq_nil_of_le (by omega)).symm) hp' ?zs ?tl⟩
      case tl => first | assumption | exact Nat.le_of_ble_eq_true rfl
      case F => k_asm
      case N => walk_at "my_news"
      case a1 => walk_at "my_var"
      case a2 => walk_at "my_var"
      case zs => refine Eq.trans ?_ (congrArg (fun z => (LS.go z).v _) ze); rfl
end
theorem TK0_b : TK0_s.1 TK0.w TK0.R TK0.l TK0.p TK0.so TK0.dx TK0.dl TK0.xo TK0.pb TK0.fs TK0.g1 TK0.g2 TK0.g3 TK0.k1 TK0.k2 TK0.k3 TK0.v1 TK0.v3 TK0.nl TK0.g TK0.k TK0.u TK0.t1 TK0.t2 TK0.ln TK0.r TK0.e TK0.rest TK0.st0 TK0.pp TK0.ll TK0.mean TK0.mg TK0.mb TK0.gd TK0.cn TK0.cs TK0.a TK0.ccd TK0.cl TK0.outer TK0.A₀ TK0.base TK0.h₀ TK0.L TK0.m TK0.s TK0.Q TK0.E TK0.g' TK0.L' TK0.h' := by
  exact TK1_s.2 (fun tk h9 m₁ h₁ tk₁ p' te tv t3 t4 => ep_all _ (P := fun x => TK1_s.1 x.1.1 x.1.2.1 x.1.2.2.1 x.1.2.2.2.1 x.1.2.2.2.2.1 x.1.2.2.2.2.2.1 x.1.2.2.2.2.2.2.1 x.1.2.2.2.2.2.2.2 x.2.1 x.2.2) (by with_unfolding_all exact TK1_b) ((tk, h9, m₁, h₁, tk₁, p', te, tv), (t3, t4))) 
end
theorem token_go (w : World) (R : List (Addr × Obj)) (l : List Nat) (p : Nat) (hpl : p ≤ l.length) (hl : l.length ≤ 1000) (so dx dl xo pb fs : Addr) (g1 g2 g3 : Int) (k1 k2 k3 v1 v3 : Tok) (nl : Value) (g : Nat → Int) (k u : Nat → Tok) (t1 t2 : Tok) (ln : Int)
    (a1 : so ≠ dx) (a2 : dl ≠ dx) (a3 : xo ≠ dx) (a4 : ∀ q ∈ R, q.1 ≠ dx) (b1 : dx ≠ dl) (b2 : so ≠ dl) (b3 : xo ≠ dl) (b4 : ∀ q ∈ R, q.1 ≠ dl)
    (r : Option (List Nat)) (e : Bool) (rest : List Nat) (st0 : LS) (hok0 : okst st0 false []) (hs : scan st0 false [] (l.drop p) = some (r, e, rest)) :
    Sat w 600 4000 758 [.ref xo] ((dx, ioDict g1 g2 g3 k1 k2 k3 v1 v3 nl (tx l) p) :: (so, ioObj dx) :: (dl, lexDict g k u so pb fs (st0.v t1) ln (.str (tx []) t2)) :: (xo, lexObj dl) :: R)
      (fun v news' => ∃ p' te tv t4 t5, r.elim (v = .none) (fun z => v = .str (tx z) t5) ∧ news' = (dx, ioDict g1 g2 g3 k1 k2 k3 v1 tv nl (tx l) (p' : Nat)) :: (so, ioObj dx) :: (dl, lexDict g k u so pb fs ((LS.go e).v te) ln (.str (tx []) t4)) :: (xo, lexObj dl) :: R ∧ rest = l.drop p' ∧ p' ≤ l.length) := by
  exact TK0_s.2 (fun w R l p so dx dl xo pb fs g1 g2 g3 k1 k2 k3 v1 v3 nl g k u t1 t2 ln r e rest st0 pp ll mean mg mb gd cn cs a ccd cl outer A₀ base h₀ L m s Q E g' L' h' => ep_all _ (P := fun x => TK0_s.1 x.1.1 x.1.2.1 x.1.2.2.1 x.1.2.2.2.1 x.1.2.2.2.2.1 x.1.2.2.2.2.2.1 x.1.2.2.2.2.2.2.1 x.1.2.2.2.2.2.2.2 x.2.1.1 x.2.1.2.1 x.2.1.2.2.1 x.2.1.2.2.2.1 x.2.1.2.2.2.2.1 x.2.1.2.2.2.2.2.1 x.2.1.2.2.2.2.2.2.1 x.2.1.2.2.2.2.2.2.2 x.2.2.1.1 x.2.2.1.2.1 x.2.2.1.2.2.1 x.2.2.1.2.2.2.1 x.2.2.1.2.2.2.2.1 x.2.2.1.2.2.2.2.2.1 x.2.2.1.2.2.2.2.2.2.1 x.2.2.1.2.2.2.2.2.2.2 x.2.2.2.1.1 x.2.2.2.1.2.1 x.2.2.2.1.2.2.1 x.2.2.2.1.2.2.2.1 x.2.2.2.1.2.2.2.2.1 x.2.2.2.1.2.2.2.2.2.1 x.2.2.2.1.2.2.2.2.2.2.1 x.2.2.2.1.2.2.2.2.2.2.2 x.2.2.2.2.1.1 x.2.2.2.2.1.2.1 x.2.2.2.2.1.2.2.1 x.2.2.2.2.1.2.2.2.1 x.2.2.2.2.1.2.2.2.2.1 x.2.2.2.2.1.2.2.2.2.2.1 x.2.2.2.2.1.2.2.2.2.2.2.1 x.2.2.2.2.1.2.2.2.2.2.2.2 x.2.2.2.2.2.1.1 x.2.2.2.2.2.1.2.1 x.2.2.2.2.2.1.2.2.1 x.2.2.2.2.2.1.2.2.2.1 x.2.2.2.2.2.1.2.2.2.2.1 x.2.2.2.2.2.1.2.2.2.2.2.1 x.2.2.2.2.2.1.2.2.2.2.2.2.1 x.2.2.2.2.2.1.2.2.2.2.2.2.2 x.2.2.2.2.2.2.1 x.2.2.2.2.2.2.2.1 x.2.2.2.2.2.2.2.2.1 x.2.2.2.2.2.2.2.2.2) (by with_unfolding_all exact TK0_b) ((w, R, l, p, so, dx, dl, xo), (pb, fs, g1, g2, g3, k1, k2, k3), (v1, v3, nl, g, k, u, t1, t2), (ln, r, e, rest, st0, pp, ll, mean), (mg, mb, gd, cn, cs, a, ccd, cl), (outer, A₀, base, h₀, L, m, s, Q), (E, g', L', h'))) w R l p hpl hl so dx dl xo pb fs g1 g2 g3 k1 k2 k3 v1 v3 nl g k u t1 t2 ln a1 a2 a3 a4 b1 b2 b3 b4 r e rest st0 hok0 hs

end
section
noncomputable abbrev lexL (R : List (Addr × Obj)) (l : List Nat) (p : Nat) (so dx dl xo pb fs : Addr) (g1 g2 g3 : Int) (k1 k2 k3 v1 tv : Tok) (nl : Value) (g : Nat → Int) (k u : Nat → Tok) (ln : Int) (st tok : Value) : List (Addr × Obj) :=
  (dx, ioDict g1 g2 g3 k1 k2 k3 v1 tv nl (tx l) (p : Nat)) :: (so, ioObj dx) :: (dl, lexDict g k u so pb fs st ln tok) :: (xo, lexObj dl) :: R
example : True := by
  (k_with "my_step" => (first | (k_unfold; (try dsimp only)) | walk1 | (dsimp only; walk1) | (leave1; try dsimp only)))
  (k_with "k_inst" => (refine' InstAt.of_news ?N_h ?h1_h ?h2_h; (case N_h => k_asm); (case h1_h => k_mem); (case h2_h => k_mem)))
  (k_with "my_in_news" => first | assumption | (refine List.Mem.tail _ ?_; walk_at "my_in_news"))
  (k_with "truthy ref" => (k_here; k_dflt (refine' truthy_dq ?hl_h ?_; (case hl_h => (refine' News.get ?N_h ?hm_h; (case N_h => k_asm); (case hm_h => walk_at "my_in_news"))); k_whole; intro tk'_q)))
  (k_with "call ref" => (k_here; k_dflt ((show wpAny _ _ (call (Value.ref 758) _) _ _ _); refine' Sat.use (token_go _ _ _ _ ?c1_h ?c2_h _ _ _ _ _ _ _ _ _ _ _ _ _ _ _ _ _ _ _ _ _ ?a1_h ?a2_h ?a3_h ?a4_h ?b1_h ?b2_h ?b3_h ?b4_h _ _ _ _ ?ok_h ?hs_h) ?hh ?hd ?hu ?hf ?hg ?B ?F ?X ?N ?T ?K ?_; walk_at "my_use"; (case a1_h => assumption); (case a2_h => assumption); (case a3_h => assumption); (case a4_h => assumption); (case b1_h => assumption); (case b2_h => assumption); (case b3_h => assumption); (case b4_h => assumption); (case c1_h => assumption); (case c2_h => assumption); (case hs_h => assumption); (case ok_h => assumption); k_whole; rintro v'_q news'_q h'_q tk'_q ⟨p'_q, te_q, tv_q, t4_q, t5_q, e1_q, e2_q, e3_q, e4_q⟩ F'_q N'_q; dsimp only [Option.elim] at e1_q; subst e1_q; subst e2_q; subst e3_q; (try k_sweep))))
  trivial
theorem get_go (w : World) (R : List (Addr × Obj)) (l : List Nat) (p : Nat) (hpl : p ≤ l.length) (hl : l.length ≤ 1000) (so dx dl xo pb fs : Addr) (g1 g2 g3 : Int) (k1 k2 k3 v1 v3: Tok) (nl : Value) (g : Nat → Int) (k u : Nat → Tok) (t1 t2 : Tok) (ln : Int)
    (a1 : so ≠ dx) (a2 : dl ≠ dx) (a3 : xo ≠ dx) (a4 : ∀ q ∈ R, q.1 ≠ dx) (b1 : dx ≠ dl) (b2 : so ≠ dl) (b3 : xo ≠ dl) (b4 : ∀ q ∈ R, q.1 ≠ dl) (hpb : (pb, dqObj) ∈ R) (hfs : (fs, dqObj) ∈ R)
    (r : Option (List Nat)) (e : Bool) (rest : List Nat) (st0 : LS) (hok0 : okst st0 false []) (hs : scan st0 false [] (l.drop p) = some (r, e, rest)) :
    Sat w 550 3500 751 [.ref xo] (lexL R l p so dx dl xo pb fs g1 g2 g3 k1 k2 k3 v1 v3 nl g k u ln (st0.v t1) (.str (tx []) t2))
      (fun v news' => ∃ p' te tv t4 t5, r.elim (v = .none) (fun z => v = .str (tx z) t5) ∧ news' = lexL R l p' so dx dl xo pb fs g1 g2 g3 k1 k2 k3 v1 tv nl g k u ln ((LS.go e).v te) (.str (tx []) t4) ∧ rest = l.drop p' ∧ p' ≤ l.length) := by
  cases r with
  | none =>
    intro pp ll mean mg mb gd cn cs a ccd cl outer A₀ base h₀ L m s Q E B' F X N T hk hret
    dsimp only [lexL] at N
    k_dflt (walk_at "my_enter1"); walk_at "my_in"
    repeat' walk_at "my_step"
    exact hret _ _ _ _ ⟨_, _, _, _, 0, rfl, rfl, rfl, by assumption⟩ (by k_asm) (by k_asm)
  | some z =>
    intro pp ll mean mg mb gd cn cs a ccd cl outer A₀ base h₀ L m s Q E B' F X N T hk hret
    dsimp only [lexL] at N
    k_dflt (walk_at "my_enter1"); walk_at "my_in"
    repeat' walk_at "my_step"
    exact hret _ _ _ _ ⟨_, _, _, _, _, rfl, rfl, rfl, by assumption⟩ (by k_asm) (by k_asm)

end
section
example : True := by
  (k_with "my_step" => (first | (k_unfold; (try dsimp only)) | walk1 | (dsimp only; walk1) | (leave1; try dsimp only)))
  (k_with "k_inst" => (refine' InstAt.of_news ?N_h ?h1_h ?h2_h; (case N_h => k_asm); (case h1_h => k_mem); (case h2_h => k_mem)))
  (k_with "call ref" => (k_here; k_dflt ((show wpAny _ _ (call (Value.ref 751) _) _ _ _); refine' Sat.use (get_go _ _ _ _ ?c1_h ?c2_h _ _ _ _ _ _ _ _ _ _ _ _ _ _ _ _ _ _ _ _ _ ?a1_h ?a2_h ?a3_h ?a4_h ?b1_h ?b2_h ?b3_h ?b4_h ?pb_h ?fs_h _ _ _ _ ?ok_h ?hs_h) ?hh ?hd ?hu ?hf ?hg ?B ?F ?X ?N ?T ?K ?_; walk_at "my_use"; (case a1_h => assumption); (case a2_h => assumption); (case a3_h => assumption); (case a4_h => assumption); (case b1_h => assumption); (case b2_h => assumption); (case b3_h => assumption); (case b4_h => assumption); (case pb_h => assumption); (case fs_h => assumption); (case c1_h => assumption); (case c2_h => assumption); (case hs_h => assumption); (case ok_h => assumption); k_whole; rintro v'_q news'_q h'_q tk'_q ⟨p'_q, te_q, tv_q, t4_q, t5_q, e1_q, e2_q, e3_q, e4_q⟩ F'_q N'_q; dsimp only [Option.elim] at e1_q; subst e1_q; subst e2_q; subst e3_q; dsimp only [lexL] at N'_q; (try k_sweep))))
  trivial
theorem raised_stays {base h : Heap} {l : List Env} {e t : Addr} {cls : Value} {vs : List Value} {news : List (Addr × Obj)} (R : RaisedK base l e cls t vs news h) : base.StaysIn h := by
  obtain ⟨⟨B, hB, _, hfl, _⟩, _⟩ := R
  exact (flyingW_base hB hfl).1
theorem next_go (w : World) (R : List (Addr × Obj)) (l : List Nat) (p : Nat) (hpl : p ≤ l.length) (hl : l.length ≤ 1000) (so dx dl xo pb fs : Addr) (g1 g2 g3 : Int) (k1 k2 k3 v1 v3: Tok) (nl : Value) (g : Nat → Int) (k u : Nat → Tok) (t1 t2 : Tok) (ln : Int)
    (a1 : so ≠ dx) (a2 : dl ≠ dx) (a3 : xo ≠ dx) (a4 : ∀ q ∈ R, q.1 ≠ dx) (b1 : dx ≠ dl) (b2 : so ≠ dl) (b3 : xo ≠ dl) (b4 : ∀ q ∈ R, q.1 ≠ dl) (hpb : (pb, dqObj) ∈ R) (hfs : (fs, dqObj) ∈ R)
    (r : Option (List Nat)) (e : Bool) (rest : List Nat) (st0 : LS) (hok0 : okst st0 false []) (hs : scan st0 false [] (l.drop p) = some (r, e, rest))
    (pp : Program) (ll : List Str) (mean : ExcName → Option Value) (mg mb : Str → Option Value) (gd : Option (List Code)) (cn : Str) (cs : Scope) (a : Addr) (ccd : Value) (outer : List Env) (A₀ : Around) (base h₀ : Heap) (L : Addr) (m : Str → Option Value) (s : Shared)
    (hbL : base.objs.size ≤ L) (Q : Option Value → Shared → Prop) (E : Value → Shared → Prop)
    (B : Below A₀ base outer h₀) (F : Fr h₀ L s.heap m) (X : (hd.heap_1 w.params).In h₀) (N : News h₀ L s.heap (lexL R l p so dx dl xo pb fs g1 g2 g3 k1 k2 k3 v1 v3 nl g k u ln (st0.v t1) (.str (tx []) t2)))
    (T : Top pp ll mean mg mb h₀) (hk : cs.kind = .function)
    (hret : ∀ p' te tv t4 t5 h' tk', rest = l.drop p' → p' ≤ l.length → Fr h₀ L h' m → News h₀ L h' (lexL R l p' so dx dl xo pb fs g1 g2 g3 k1 k2 k3 v1 tv nl g k u ln ((LS.go e).v te) (.str (tx []) t4)) → r.isSome = true → Q (r.map fun z => .str (tx z) t5) { s with heap := h', toks := tk' })
    (hend : ∀ p' te tv t4 gm h' tk', r = none → rest = l.drop p' → p' ≤ l.length → Fr h₀ L gm m → gm.UpToSlots h' → base.StaysIn h' → News base L h' (lexL R l p' so dx dl xo pb fs g1 g2 g3 k1 k2 k3 v1 tv nl g k u ln ((LS.go e).v te) (.str (tx []) t4)) → (∀ q ∈ lexL R l p' so dx dl xo pb fs g1 g2 g3 k1 k2 k3 v1 tv nl g k u ln ((LS.go e).v te) (.str (tx []) t4), h₀.get? q.1 = none) → Q none { s with heap := h', toks := tk' }) :
    wpAny (model PySem.Challenge.pw_ij0186_01 w) (ktrTop 500 3000 gd cn cs L a ccd [] outer) (pyNext (.ref xo)) Q E s := by
  have keys : ∀ (p' : Nat) (tv : Tok) (st tok : Value), ∀ q ∈ lexL R l p' so dx dl xo pb fs g1 g2 g3 k1 k2 k3 v1 tv nl g k u ln st tok, h₀.get? q.1 = none := by
    intro p' tv st tok q hq
    rcases List.mem_cons.mp hq with rfl | hq
    · exact (N _ (.head _)).2.2
    rcases List.mem_cons.mp hq with rfl | hq
    · exact (N _ (.tail _ (.head _))).2.2
    rcases List.mem_cons.mp hq with rfl | hq
    · exact (N _ (.tail _ (.tail _ (.head _)))).2.2
    rcases List.mem_cons.mp hq with rfl | hq
    · exact (N _ (.tail _ (.tail _ (.tail _ (.head _))))).2.2
    · exact (N _ (.tail _ (.tail _ (.tail _ (.tail _ hq))))).2.2
  dsimp only [lexL] at N
  k_dflt (refine' owit_next ?F ?X ?I ?hs ?hf ?_; (case F => k_asm); (case X => k_asm); (case I => k_inst); (case hs => k_is); (case hf => k_is); k_whole)
  cases r with
  | none =>
    k_dflt (walk_at "my_enter1"); walk_at "my_in"
    repeat' walk_at "my_step"
    rename RaisedK _ _ _ _ _ _ _ _ => rkX
    rename Fr _ _ _ m => fgX
    have hst := raised_stays rkX
    k_dflt (refine' owit_stop (name := cn) (scope := cs) (a := a) (cd := ccd) rkX ?U (Fr.mk fgX.ns (fun b o e => fgX.keep b o (B.stays b o e)) hbL) (by kernel_rfl) ?_)
    case U => assumption
    intro F9 N9
    exact hend _ _ _ _ _ _ _ rfl rfl (by assumption) fgX (by assumption) hst N9 (keys _ _ _ _)
  | some z =>
    k_dflt (walk_at "my_enter1"); walk_at "my_in"
    repeat' walk_at "my_step"
    exact hret _ _ _ _ _ _ _ rfl (by assumption) (by k_asm) (by k_asm) rfl

end
section
noncomputable def IsTxts : List Value → List (List Nat) → Prop
  | [], [] => True
  | v :: vs, t :: ts => (∃ k, v = .str (tx t) k) ∧ IsTxts vs ts
  | _, _ => False
theorem iter_ctr (w : World) (R : List (Addr × Obj)) (x : Addr) : Sat w 500 3000 780 [.ref x] R (fun v news' => v = .ref x ∧ news' = R) := by
  intro pp ll mean mg mb gd cn cs a ccd cl outer A₀ base h₀ L m s Q E B' F X N T hk hret
  k_dflt (walk_at "my_enter1"); walk_at "my_in"
  k_steps
  exact hret _ _ _ _ ⟨rfl, rfl⟩ (by k_asm) (by k_asm)
section
variable {prog : Program} {w : World} {A : Around} {E : Value → Shared → Prop} {s : Shared} {h₀ : Heap} {L D : Addr} {m : Str → Option Value} {news news' : List (Addr × Obj)} {its its' : Array Value} {n n' : Nat}
theorem seq_upd {f : Array Value → Array Value} {Q : Unit → Shared → Prop} (F : Fr h₀ L s.heap m) (N : News h₀ L s.heap news) (U : Upd D (listOf its n) (listOf its' n') news news') (he : f its = its') (hn : (if its'.size == its.size then n else n + 1) = n') (hz : its.size ≤ 2000) (hz' : its'.size ≤ 2000)
    (h : ∀ h', Fr h₀ L h' m → News h₀ L h' news' → Q () { s with heap := h' }) : wpAny (model prog w) A (updateSeq D f) Q E s := by
  obtain ⟨pre, post, rfl, rfl, a, b⟩ := U.split
  have z := N (D, listOf its n) (List.mem_append.mpr (.inr (.head _)))
  refine wpAny_updateSeq z.1 rfl (h _ (F.change (Heap.SameBut.update ..) z.2.1 z.2.2) (ki_turn f N a b he hn)) (by rw [sizeLine_eq]; omega) (by rw [he, sizeLine_eq]; omega)
end
theorem weaken2 {prog : Program} {w : World} {α : Type} {A A' : Around} {t : Sem α} {Q : α → Shared → Prop} {E : Value → Shared → Prop} {s : Shared} (hh : A.handled = A'.handled) (hd : A.depth ≤ A'.depth) (hu : A.units ≤ A'.units)
    (hf : A'.frames = A.frames) (hg : A'.guards = none ∨ A'.guards = A.guards) (h : wpAny (model prog w) A' t Q E s) : wpAny (model prog w) A t Q E s :=
  fun Γ p hΓ => h Γ p ⟨hΓ.1.trans hh, Nat.le_trans hΓ.2.1 hd, fun l hl => hΓ.2.2.1 l (hf ▸ hl), fun g hl => hg.elim (fun z => by rw [z] at hl; cases hl) fun z => hΓ.2.2.2.1 g (z ▸ hl), Nat.le_trans hΓ.2.2.2.2 hu⟩
theorem ext_loop (w : World) (R : List (Addr × Obj)) (l : List Nat) (hl : l.length ≤ 1000) (so dx dl xo pb fs S : Addr) (g1 g2 g3 : Int) (k1 k2 k3 v1 : Tok) (nl : Value) (g : Nat → Int) (k u : Nat → Tok) (ln : Int)
    (a1 : so ≠ dx) (a2 : dl ≠ dx) (a3 : xo ≠ dx) (a4 : ∀ q ∈ R, q.1 ≠ dx) (a5 : S ≠ dx) (b1 : dx ≠ dl) (b2 : so ≠ dl) (b3 : xo ≠ dl) (b4 : ∀ q ∈ R, q.1 ≠ dl) (b5 : S ≠ dl) (c1 : so ≠ S) (c2 : xo ≠ S) (c3 : ∀ q ∈ R, q.1 ≠ S) (hpb : (pb, dqObj) ∈ R) (hfs : (fs, dqObj) ∈ R)
    (pp : Program) (ll : List Str) (mean : ExcName → Option Value) (mg mb : Str → Option Value) (gd : Option (List Code)) (cn : Str) (cs : Scope) (a : Addr) (ccd : Value) (outer : List Env) (A₀ A : Around) (base h₀ : Heap) (L : Addr) (m : Str → Option Value)
    (hh : A.handled = none) (hdp : A.depth ≤ 500) (hu : A.units + 1 ≤ 3000) (hf : A.frames = some (envX cn cs L a ccd [] :: outer)) (hgd : A.guards = gd)
    (hbL : base.objs.size ≤ L) (Rr : Result → Shared → Prop)
    (B : Below A₀ base outer h₀) (X : (hd.heap_1 w.params).In h₀)
    (T : Top pp ll mean mg mb h₀) (hk : cs.kind = .function) {e : Bool} {rest : List Nat} {ts : List (List Nat)} (hx : Lexes e rest ts) :
    ∀ (p : Nat) (te t2 v3 : Tok) (acc : Array Value) (c : Nat) (s : Shared), rest = l.drop p → p ≤ l.length → acc.size + ts.length ≤ 1000 → Fr h₀ L s.heap m →
      News h₀ L s.heap (lexL ((S, listOf acc c) :: R) l p so dx dl xo pb fs g1 g2 g3 k1 k2 k3 v1 v3 nl g k u ln ((LS.go e).v te) (.str (tx []) t2)) →
      (∀ (vs : List Value) (c' p' : Nat) (st : Value) (tv t4 : Tok) (gm h' : Heap) (tk' : Nat), IsTxts vs ts → Fr h₀ L gm m → gm.UpToSlots h' → base.StaysIn h' →
        News base L h' (lexL ((S, listOf (acc ++ vs.toArray) c') :: R) l p' so dx dl xo pb fs g1 g2 g3 k1 k2 k3 v1 tv nl g k u ln st (.str (tx []) t4)) →
        (∀ q ∈ lexL ((S, listOf (acc ++ vs.toArray) c') :: R) l p' so dx dl xo pb fs g1 g2 g3 k1 k2 k3 v1 tv nl g k u ln st (.str (tx []) t4), h₀.get? q.1 = none) → Rr (.ok (.ret .none)) { s with heap := h', toks := tk' }) →
      codeAny (model PySem.Challenge.pw_ij0186_01 w) A (.builtin "list.extend.loop" ⟨[.ref S, .ref xo, .none], []⟩) Rr s := by
  induction hx with
  | @done e e' r r' hs =>
    intro p te t2 v3 acc c s hrest hpl hsz F N hend
    subst hrest
    refine codeAny_builtin PySem.F.entry_extend_loop ?_
    rw [Around.under_plainId PySem.F.plain_extend_loop _]
    show wpAny _ A.in1 (pyNext (.ref xo) >>= _) _ _ s
    refine wpAny_bind (weaken (A' := ktrTop 500 3000 gd cn cs L a ccd [] outer) hh hdp hu hf.symm hgd.symm ?_)
    refine next_go w ((S, listOf acc c) :: R) l p hpl hl so dx dl xo pb fs g1 g2 g3 k1 k2 k3 v1 v3 nl g k u te t2 ln a1 a2 a3 (List.forall_mem_cons.mpr ⟨a5, a4⟩) b1 b2 b3 (List.forall_mem_cons.mpr ⟨b5, b4⟩) (.tail _ hpb) (.tail _ hfs) none _ _ _ (go_ok _) hs
      pp ll mean mg mb gd cn cs a ccd outer A₀ base h₀ L m s hbL _ _ B F X N T hk (fun _ _ _ _ _ _ _ _ _ _ _ z => by cases z) fun p' te' tv t4 gm h' tk' _ e1 e2 f1 f2 f3 f4 f5 => ?_
    refine wpAny_pure (hend [] c p' ((LS.go e').v te') tv t4 gm h' tk' trivial f1 f2 f3 ?_ ?_)
    · rw [show acc ++ ([] : List Value).toArray = acc by simp]; exact f4
    · rw [show acc ++ ([] : List Value).toArray = acc by simp]; exact f5
  | @tok e e' r r' t ts hs hx ih =>
    intro p te t2 v3 acc c s hrest hpl hsz F N hend
    subst hrest
    rw [List.length_cons] at hsz
    refine codeAny_builtin PySem.F.entry_extend_loop ?_
    rw [Around.under_plainId PySem.F.plain_extend_loop _]
    show wpAny _ A.in1 (pyNext (.ref xo) >>= _) _ _ s
    refine wpAny_bind (weaken (A' := ktrTop 500 3000 gd cn cs L a ccd [] outer) hh hdp hu hf.symm hgd.symm ?_)
    refine next_go w ((S, listOf acc c) :: R) l p hpl hl so dx dl xo pb fs g1 g2 g3 k1 k2 k3 v1 v3 nl g k u te t2 ln a1 a2 a3 (List.forall_mem_cons.mpr ⟨a5, a4⟩) b1 b2 b3 (List.forall_mem_cons.mpr ⟨b5, b4⟩) (.tail _ hpb) (.tail _ hfs) (some t) _ _ _ (go_ok _) hs
      pp ll mean mg mb gd cn cs a ccd outer A₀ base h₀ L m s hbL _ _ B F X N T hk (fun p' te' tv t4 t5 h' tk' e1 e2 f1 f2 _ => ?_) fun _ _ _ _ _ _ _ z => by cases z
    · show wpAny _ _ (updateSeq S (·.push (.str (tx t) t5)) >>= _) _ _ _
      have U : Upd S (listOf acc c) (listOf (acc.push (.str (tx t) t5)) (c + 1)) (lexL ((S, listOf acc c) :: R) l p' so dx dl xo pb fs g1 g2 g3 k1 k2 k3 v1 tv nl g k u ln ((LS.go e').v te') (.str (tx []) t4))
          (lexL ((S, listOf (acc.push (.str (tx t) t5)) (c + 1)) :: R) l p' so dx dl xo pb fs g1 g2 g3 k1 k2 k3 v1 tv nl g k u ln ((LS.go e').v te') (.str (tx []) t4)) :=
        .tail (Ne.symm a5) (.tail c1 (.tail (Ne.symm b5) (.tail c2 (.head c3))))
      refine wpAny_bind (seq_upd f1 f2 U rfl (if_neg (by rw [Array.size_push]; simp)) (by omega) (by rw [Array.size_push]; omega) fun h₂ F₂ N₂ => ?_)
      refine wpAny_pure ⟨plainId_quiet PySem.F.plain_extend_loop _, ?_⟩
      refine ih p' te' t4 tv _ _ _ e1 e2 (by rw [Array.size_push]; omega) F₂ N₂ fun vs c' p'' st tv' t4' gm h'' tk'' i1 i2 i3 i4 i5 i6 => ?_
      have e9 : acc.push (.str (tx t) t5) ++ vs.toArray = acc ++ (Value.str (tx t) t5 :: vs).toArray := by
        apply Array.ext'
        simp
      rw [e9] at i5 i6
      exact hend (.str (tx t) t5 :: vs) c' p'' st tv' t4' gm h'' tk'' ⟨⟨_, rfl⟩, i1⟩ i2 i3 i4 i5 i6

end
section
theorem lexL_in {R : List (Addr × Obj)} {l : List Nat} {p : Nat} {so dx dl xo pb fs : Addr} {g1 g2 g3 : Int} {k1 k2 k3 v1 v3 : Tok} {nl : Value} {g : Nat → Int} {k u : Nat → Tok} {ln : Int} {st tok : Value} {z q : Addr × Obj} (h : q ∈ lexL (z :: R) l p so dx dl xo pb fs g1 g2 g3 k1 k2 k3 v1 v3 nl g k u ln st tok) : q ∈ z :: lexL R l p so dx dl xo pb fs g1 g2 g3 k1 k2 k3 v1 v3 nl g k u ln st tok := by
  rcases List.mem_cons.mp h with rfl | h
  · exact .tail _ (.head _)
  rcases List.mem_cons.mp h with rfl | h
  · exact .tail _ (.tail _ (.head _))
  rcases List.mem_cons.mp h with rfl | h
  · exact .tail _ (.tail _ (.tail _ (.head _)))
  rcases List.mem_cons.mp h with rfl | h
  · exact .tail _ (.tail _ (.tail _ (.tail _ (.head _))))
  rcases List.mem_cons.mp h with rfl | h
  · exact .head _
  · exact .tail _ (.tail _ (.tail _ (.tail _ (.tail _ h))))
theorem list_lex (w : World) (R : List (Addr × Obj)) (l : List Nat) (hl : l.length ≤ 1000) (so dx dl xo pb fs : Addr) (g1 g2 g3 : Int) (k1 k2 k3 v1 v3 : Tok) (nl : Value) (g : Nat → Int) (k u : Nat → Tok) (ln : Int)
    (a1 : so ≠ dx) (a2 : dl ≠ dx) (a3 : xo ≠ dx) (a4 : ∀ q ∈ R, q.1 ≠ dx) (b1 : dx ≠ dl) (b2 : so ≠ dl) (b3 : xo ≠ dl) (b4 : ∀ q ∈ R, q.1 ≠ dl) (hpb : (pb, dqObj) ∈ R) (hfs : (fs, dqObj) ∈ R)
    (pp : Program) (ll : List Str) (mean : ExcName → Option Value) (mg mb : Str → Option Value) (gd : Option (List Code)) (cn : Str) (cs : Scope) (a : Addr) (ccd : Value) (outer : List Env) (A₀ : Around) (base h₀ : Heap) (L : Addr) (m : Str → Option Value)
    (hbL : base.objs.size ≤ L) (Q E : Value → Shared → Prop)
    (B : Below A₀ base outer h₀) (X : (hd.heap_1 w.params).In h₀)
    (T : Top pp ll mean mg mb h₀) (hk : cs.kind = .function) {ts : List (List Nat)} (hx : Lexes false l ts) (t1 t2 : Tok) (s : Shared) (hts : ts.length ≤ 1000) (F : Fr h₀ L s.heap m)
    (N : News h₀ L s.heap (lexL R l 0 so dx dl xo pb fs g1 g2 g3 k1 k2 k3 v1 v3 nl g k u ln ((LS.go false).v t1) (.str (tx []) t2)))
    (hend : ∀ (S : Addr) (vs : List Value) (c' p' : Nat) (st : Value) (tv t4 : Tok) (gm h' : Heap) (tk' : Nat), IsTxts vs ts → Fr h₀ L gm m → gm.UpToSlots h' → base.StaysIn h' →
        News base L h' (lexL ((S, listOf vs.toArray c') :: R) l p' so dx dl xo pb fs g1 g2 g3 k1 k2 k3 v1 tv nl g k u ln st (.str (tx []) t4)) →
        (∀ q ∈ lexL ((S, listOf vs.toArray c') :: R) l p' so dx dl xo pb fs g1 g2 g3 k1 k2 k3 v1 tv nl g k u ln st (.str (tx []) t4), h₀.get? q.1 = none) → Q (.ref S) { s with heap := h', toks := tk' }) :
    wpAny (model PySem.Challenge.pw_ij0186_01 w) (ktrTop 450 2500 gd cn cs L a ccd [] outer) (call (.type "list") [.ref xo]) Q E s := by
  have nS : ∀ q ∈ lexL R l 0 so dx dl xo pb fs g1 g2 g3 k1 k2 k3 v1 v3 nl g k u ln ((LS.go false).v t1) (.str (tx []) t2), q.1 ≠ s.heap.objs.size := fun q hq => Nat.ne_of_lt (Heap.lt_size (N q hq).1)
  refine callType_codes (Q₁ := fun obj s₁ => obj = .ref s.heap.objs.size ∧ s₁ = { s with heap := s.heap.push { cls := .type "list", data := .seq #[] } }) PySem.F.called_list (PySem.F.typeCall_list_1 _) PySem.F.entry_list_init
    (code_list_new _ ⟨rfl, rfl⟩) fun obj s₁ h₁ => ?_
  obtain ⟨rfl, rfl⟩ := h₁
  have F₁ := F.push { cls := .type "list", data := .seq #[] }
  have N₁ := N.push F { cls := .type "list", data := .seq #[] }
  generalize hS : s.heap.objs.size = S at *
  have hS₁ : (s.heap.push { cls := .type "list", data := .seq #[] }).get? S = some { cls := .type "list", data := .seq #[] } := (N₁ _ (.head _)).1
  refine ⟨⟨_, hS₁, rfl⟩, PySem.F.args_list_init_2 _ _, ?_⟩
  have N₂ : News h₀ L (s.heap.push { cls := .type "list", data := .seq #[] }) (lexL ((S, listOf #[] 0) :: R) l 0 so dx dl xo pb fs g1 g2 g3 k1 k2 k3 v1 v3 nl g k u ln ((LS.go false).v t1) (.str (tx []) t2)) := fun q hq => N₁ q (lexL_in hq)
  have s1 : dx ≠ S := nS _ (.head _)
  have s2 : so ≠ S := nS _ (.tail _ (.head _))
  have s3 : dl ≠ S := nS _ (.tail _ (.tail _ (.head _)))
  have s4 : xo ≠ S := nS _ (.tail _ (.tail _ (.tail _ (.head _))))
  have s5 : ∀ q ∈ R, q.1 ≠ S := fun q hq => nS _ (.tail _ (.tail _ (.tail _ (.tail _ hq))))
  show wpAny _ _ (do let old ← Builtin.List.listItems (.ref S); Builtin.List.listUpdate (.ref S) (fun _ => #[]); letGo old.toList.reverse; Builtin.List.listExtendWith (.ref S) (.ref xo) .none) _ _ _
  refine wpAny_bind ?_
  unfold Builtin.List.listItems
  refine wpAny_bind (wpAny_seqItems hS₁ rfl (wpAny_pure ?_))
  show wpAny _ _ (updateSeq S (fun _ => #[]) >>= fun _ => letGo (#[] : Array Value).toList.reverse >>= fun _ => Builtin.List.listExtendWith (.ref S) (.ref xo) .none) _ _ _
  have U : ∀ (its its' : Array Value) (n n' : Nat), Upd S (listOf its n) (listOf its' n') (lexL ((S, listOf its n) :: R) l 0 so dx dl xo pb fs g1 g2 g3 k1 k2 k3 v1 v3 nl g k u ln ((LS.go false).v t1) (.str (tx []) t2))
      (lexL ((S, listOf its' n') :: R) l 0 so dx dl xo pb fs g1 g2 g3 k1 k2 k3 v1 v3 nl g k u ln ((LS.go false).v t1) (.str (tx []) t2)) := fun its its' n n' => .tail s1 (.tail s2 (.tail s3 (.tail s4 (.head s5))))
  refine wpAny_bind (seq_upd F₁ N₂ (U #[] #[] 0 0) rfl rfl (by decide) (by decide) fun h₃ F₃ N₃ => ?_)
  refine wpAny_bind (wpAny_letGo ?_)
  unfold Builtin.List.listExtendWith
  have I : InstAt h₃ xo (lexObj dl) 790 (some (lexDict g k u so pb fs ((LS.go false).v t1) ln (.str (tx []) t2))) := InstAt.of_news N₃ (.tail _ (.tail _ (.tail _ (.head _)))) (.tail _ (.tail _ (.head _)))
  refine wpAny_bind (I.type.here ?_)
  have e1 : Builtin.List.listSameRef (.ref S) (.ref xo) = false := by simp [Builtin.List.listSameRef, Ne.symm s4]
  have e2 : (Value.ref 790 == Value.type "list") = false := by decide
  have e3 : (Value.ref 790 == Value.type "tuple") = false := by decide
  simp only [e1, e2, e3, Bool.or_false, Bool.false_eq_true, if_false]
  refine wpAny_bind ?_
  k_dflt (refine' owit_iter F₃ X I ?hs ?hf ?_; (case hs => k_is); (case hf => k_is))
  refine Sat.use (iter_ctr w _ xo) rfl (Nat.le_of_ble_eq_true rfl) (Nat.le_of_ble_eq_true rfl) rfl rfl B F₃ X N₃ T hk ?_
  rintro v' news' h₄ tk₄ ⟨rfl, rfl⟩ F₄ N₄
  have I₄ : InstAt h₄ xo (lexObj dl) 790 (some (lexDict g k u so pb fs ((LS.go false).v t1) ln (.str (tx []) t2))) := InstAt.of_news N₄ (.tail _ (.tail _ (.tail _ (.head _)))) (.tail _ (.tail _ (.head _)))
  k_dflt (refine' owit_it F₄ X I₄ ?hs ?_; (case hs => k_is))
  refine wpAny_bind (wpAny_holding ?_)
  unfold Builtin.List.listLengthHint
  have z1 : findIn (hd.heap_1 w.params) (.ref 790) "__len__" = some none := by k_is
  have z2 : findIn (hd.heap_1 w.params) (.ref 790) "__length_hint__" = some none := by k_is
  refine wpAny_bind (wpAny_bind (I₄.type.here ((looks_findIn (X.keeps F₄.keep) z1).here ?_)))
  show wpAny _ _ (specialOf (Value.ref xo) (Str.ofString "__length_hint__") >>= _) _ _ _
  refine wpAny_bind (wpAny_bind (I₄.type.here ((looks_findIn (X.keeps F₄.keep) z2).here ?_)))
  refine wpAny_pure ?_
  show wpAny _ _ (rule "list.extend.makes-room" >>= fun _ => Builtin.List.listTouch (.ref S) >>= fun _ => again (.builtin "list.extend.loop" ⟨[.ref S, .ref xo, .none], []⟩)) _ _ _
  refine wpAny_bind (wpAny_rule ?_)
  refine wpAny_bind ?_
  show wpAny _ _ (updateSeq S (·.push .none) >>= fun _ => updateSeq S (·.pop)) _ _ _
  refine wpAny_bind (seq_upd F₄ N₄ (U #[] #[.none] 0 1) rfl rfl (by decide) (by decide) fun h₅ F₅ N₅ => ?_)
  refine seq_upd F₅ N₅ (U #[.none] #[] 1 2) rfl rfl (by decide) (by decide) fun h₆ F₆ N₆ => ?_
  refine wpAny_pure ⟨plainId_quiet PySem.F.plain_extend_loop _, ?_⟩
  refine ext_loop w R l hl so dx dl xo pb fs S g1 g2 g3 k1 k2 k3 v1 nl g k u ln a1 a2 a3 a4 (Ne.symm s1) b1 b2 b3 b4 (Ne.symm s3) s2 s4 s5 hpb hfs pp ll mean mg mb gd cn cs a ccd outer A₀ _ base h₀ L m rfl (Nat.le_of_ble_eq_true rfl) (Nat.le_of_ble_eq_true rfl) rfl rfl hbL _ B X T hk hx 0 t1 t2 v3 #[] 2 _ rfl (Nat.zero_le _) (by simpa using hts) F₆ N₆ fun vs c' p' st tv t4 gm h' tk' i1 i2 i3 i4 i5 i6 => ?_
  have e9 : (#[] : Array Value) ++ vs.toArray = vs.toArray := by simp
  rw [e9] at i5 i6
  exact ⟨rfl, hend S vs c' p' st tv t4 gm h' tk' i1 i2 i3 i4 i5 i6⟩

end
section
noncomputable def qch (c : Nat) : List Nat := if c = 39 then [39, 34, 39, 34, 39] else [c]
noncomputable def qt (l : List Nat) : List Nat := if l = [] then [39, 39] else if safe l = true then l else 39 :: (l.flatMap qch ++ [39])
theorem truthy_txq {prog : Program} {w : World} {A : Around} {E : Value → Shared → Prop} {s : Shared} {x : List Nat} {t : Tok} {Q : Bool → Shared → Prop} (b : Bool) (hb : (!x.isEmpty) = b) (hl : x.length ≤ 1000) (h : ∀ k, Q b { s with toks := k }) : wpAny (model prog w) A (PySem.truthy (.str (tx x) t)) Q E s :=
  KXt.truthy (by rw [← hb, tx_len]; cases x with
    | nil => rfl
    | cons a r => rw [List.length_cons]; exact bne_iff_ne.mpr (by omega)) (by rw [tx_len]; omega) h
theorem keeps_B {M : Model} {K : Frag} {a : Addr} {d : Option Addr} {vs : Array Value} {sl : Array (Option Value)} (ho : K.lookup a = some ⟨.type "builtin_function_or_method", d, .fields vs, sl⟩) (h : Heap) (X : K.In h) : ∃ k, (k = Keeper.frame ∨ k = Keeper.machine ∨ k = Keeper.boundFrame) ∧ Looks M h (keeperOf (.ref a)) k :=
  ⟨.machine, .inr (.inl rfl), (Looks.ld (part := none) (X _ _ ho)).andThen .now⟩
theorem callWith_B {M : Model} {A : Around} {E : Value → Shared → Prop} {s : Shared} {K : Frag} {env : Env} {pos : Pos} {a : Addr} {first : List Value} {Q : Value → Shared → Prop} {h₀ : Heap} {e : PySem.Expr} {rest : List PySem.Expr} {d : Option Addr} {vs : Array Value} {sl : Array (Option Value)} (_X : K.In h₀) (ho : K.lookup a = some ⟨.type "builtin_function_or_method", d, .fields vs, sl⟩)
    (h : wpAny M A (spliced (backTo pos (starEach (e :: rest) env))) (fun vs s₁ => K.In s₁.heap ∧ wpAny M A (call (.ref a) (first ++ vs)) Q E s₁) E s)
    (he : starEach (e :: rest) env = (false, eval e env) :: starEach rest env := by rfl) (hplain : (backTo pos (starEach rest env)).any (·.1) = false := by rfl) :
    wpAny M A (callWith pos (.ref a) first (backTo pos (starEach (e :: rest) env)) []) Q E s := by
  rw [he] at h ⊢
  exact callWith_of (by show ((false || (backTo pos (starEach rest env)).any (·.1)) || false) = false; rw [hplain]; rfl) (keeps_B ho) (evalArgs_plain h)
example : True := by
  (k_with "callWith ref" => (k_here; k_dflt (refine' callWith_B ?k1_h ?k2_h ?_; (case k1_h => k_asm); (case k2_h => k_is); k_whole)))
  (k_with "truthy str" => (k_here; (with_reducible show wpAny _ _ (PySem.truthy (Value.str (tx _) _)) _ _ _); (refine' truthy_txq _ ?hb_h ?hl_h ?_; (case hb_h => assumption); (case hl_h => assumption); k_whole; intro tk'_q)))
  (k_with "my_step" => (first | (k_unfold; (try dsimp only)) | walk1 | (dsimp only; walk1) | (leave1; try dsimp only)))
  (k_with "my_max" => ((case hh => rfl); (case hf => rfl); (case hd => exact Nat.le_of_ble_eq_true rfl); (case hu => exact Nat.le_of_ble_eq_true rfl); (case F => k_asm); (case X => k_asm); (case N => k_asm)))
  (k_with "call ref" => (k_here; k_dflt ((show wpAny _ _ (call (Value.ref 803) [_]) _ _ _); refine' search_K ?hl_h ?hh ?hd ?hu ?hf ?F ?X ?N ?_; walk_at "my_max"; (case hl_h => assumption); k_whole; intro v'_q h'_q tk'_q hv'_q F'_q N'_q; (first | (rw [if_pos (by assumption)] at hv'_q; subst hv'_q) | (rw [if_neg (by assumption)] at hv'_q; obtain ⟨a'_q, hv'_q⟩ := hv'_q; subst hv'_q)); (try k_sweep))))
  trivial
theorem rep_len {l : List Nat} {z : Str} (h : l.length ≤ 1000) (hz : z.length ≤ 5 := by exact Nat.le_of_ble_eq_true rfl) : (tx l).length + ((tx l).length + 1) * z.length ≤ 16777216 := by
  rw [tx_len]
  have := Nat.mul_le_mul (Nat.succ_le_succ h) hz
  simp only [Nat.succ_eq_add_one] at this
  omega
theorem rep_ok : ∀ l ∈ texts ++ cmds, Txt.replace (tx l) (Str.ofString "'") (Str.ofString "'\"'\"'") = tx (l.flatMap qch) ∧ (l.flatMap qch).length ≤ 100 := by decide +kernel
example : True := by
  (k_with "call builtin:str.replace" => (k_here; k_dflt (refine' SC.replace ?h1_h ?h2_h ?h3_h ?h4_h ?h5_h ?_; (case h1_h => exact Nat.succ_ne_zero _); (case h2_h => exact Nat.succ_ne_zero _); (case h3_h => exact Nat.ne_of_lt (Nat.lt_succ_self _)); (case h4_h => decide +kernel); (case h5_h => exact rep_len (by assumption)); k_whole; intro t'_q tk'_q; rw [(rep_ok _ (by assumption)).1])))
  trivial
theorem add_any {prog : Program} {w : World} {A : Around} {E : Value → Shared → Prop} {s : Shared} {x y : Str} {t u : Tok} {Q : Value → Shared → Prop} (h1 : x.length ≤ 2000) (h2 : y.length ≤ 2000) (h : ∀ t' k, Q (.str (x ++ y) t') { s with toks := k }) : wpAny (model prog w) A (binaryOp .Add (.str x t) (.str y u)) Q E s := SB.add h (by rw [sizeLine_eq]; omega)
theorem q_len1 {l : List Nat} (h : l ∈ texts ++ cmds) : (tx (l.flatMap qch)).length ≤ 2000 := by rw [tx_len]; have := (rep_ok l h).2; omega
theorem q_len2 {l : List Nat} (h : l ∈ texts ++ cmds) : (Str.ofString "'" ++ tx (l.flatMap qch)).length ≤ 2000 := by
  have e : (Str.ofString "'" ++ tx (l.flatMap qch)).length = 1 + (l.flatMap qch).length := by
    show ((Str.ofString "'").cps ++ (tx (l.flatMap qch)).cps).size = _
    rw [Array.size_append]
    show (Str.ofString "'").cps.size + (l.flatMap qch).toArray.size = _
    rw [List.size_toArray]; rfl
  have := (rep_ok l h).2
  omega
theorem q_val {l : List Nat} : Str.ofString "'" ++ tx (l.flatMap qch) ++ Str.ofString "'" = tx (39 :: (l.flatMap qch ++ [39])) := by
  show (⟨(Str.ofString "'").cps ++ (l.flatMap qch).toArray ++ (Str.ofString "'").cps⟩ : Str) = _
  have e : (Str.ofString "'").cps = [39].toArray := by decide +kernel
  rw [e, List.append_toArray, List.append_toArray]
  rfl
example : True := by
  (k_with "binaryOp Add str str" => (k_here; k_dflt (refine' add_any ?h1_h ?h2_h ?_; (case h1_h => first | exact Nat.le_of_ble_eq_true rfl | exact q_len1 (by assumption) | exact q_len2 (by assumption)); (case h2_h => first | exact Nat.le_of_ble_eq_true rfl | exact q_len1 (by assumption)); k_whole; intro t'_q tk'_q)))
  trivial
theorem quote_ctr (w : World) (R : List (Addr × Obj)) (l : List Nat) (hl : l ∈ texts ++ cmds) (hl1 : l.length ≤ 1000) (t : Tok) :
    Sat w 500 3000 810 [.str (tx l) t] R (fun v news' => (∃ t, v = .str (tx (qt l)) t) ∧ news' = R) := by
  intro pp ll mean mg mb gd cn cs a ccd cl outer A₀ base h₀ L m s Q E B' F X N T hk hret
  by_cases he : l = []
  · have hb : (!l.isEmpty) = false := by rw [he]; rfl
    k_dflt (walk_at "my_enter1"); walk_at "my_in"
    repeat' walk_at "my_step"
    exact hret _ _ _ _ ⟨⟨_, by rw [qt, if_pos he]; rfl⟩, rfl⟩ (by k_asm) (by k_asm)
  · have hb : (!l.isEmpty) = true := by cases l with
      | nil => exact absurd rfl he
      | cons a r => rfl
    by_cases hs : safe l = true
    · k_dflt (walk_at "my_enter1"); walk_at "my_in"
      repeat' walk_at "my_step"
      exact hret _ _ _ _ ⟨⟨_, by rw [qt, if_neg he, if_pos hs]⟩, rfl⟩ (by k_asm) (by k_asm)
    · k_dflt (walk_at "my_enter1"); walk_at "my_in"
      repeat' walk_at "my_step"
      rw [q_val]
      exact hret _ _ _ _ ⟨⟨_, by rw [qt, if_neg he, if_neg hs]⟩, rfl⟩ (by k_asm) (by k_asm)

end
section
noncomputable def joinL (sep : List Nat) : List (List Nat) → List Nat
  | [] => []
  | [a] => a
  | a :: b :: r => a ++ (sep ++ joinL sep (b :: r))
theorem scan_sq (l : List Nat) (h : ∀ c ∈ l, ¬ (c = 92 ∨ c = 10 ∨ 128 ≤ c)) : ∀ (q : Bool) (t r : List Nat), scan .sq q t (l.flatMap qch ++ 39 :: r) = scan .wd true (t ++ l) r := by
  induction l with
  | nil =>
    intro q t r
    rw [List.append_nil]
    show scan .sq q t (39 :: r) = _
    rw [scan, if_pos rfl]
  | cons c l ih =>
    intro q t r
    have ih := ih (fun x hx => h x (.tail _ hx))
    have hc := h c (.head _)
    rw [List.flatMap_cons, List.append_assoc]
    by_cases h9 : c = 39
    · subst h9
      show scan .sq q t (39 :: 34 :: 39 :: 34 :: 39 :: (l.flatMap qch ++ 39 :: r)) = _
      rw [scan, if_pos rfl, scan, if_neg (by decide), if_neg (by decide), if_pos rfl, scan, if_neg (by decide), if_neg (by decide), scan, if_pos rfl, scan, if_neg (by decide), if_pos rfl, ih]
      rw [List.append_assoc]; rfl
    · rw [qch, if_neg h9]
      show scan .sq q t (c :: (l.flatMap qch ++ 39 :: r)) = _
      rw [scan, if_neg h9, if_neg hc, ih, List.append_assoc]; rfl
theorem scan_ab (l : List Nat) (h : ∀ c ∈ l, c = 97 ∨ c = 98) : ∀ (q : Bool) (t r : List Nat), scan .wd q t (l ++ r) = scan .wd q (t ++ l) r := by
  induction l with
  | nil => intro q t r; rw [List.append_nil]; rfl
  | cons c l ih =>
    intro q t r
    have hc := h c (.head _)
    show scan .wd q t (c :: (l ++ r)) = _
    rw [scan, if_neg (by omega), if_neg (by omega), if_neg (by omega), if_pos hc, ih (fun x hx => h x (.tail _ hx)), List.append_assoc]; rfl
noncomputable def okw (l : List Nat) : Bool := l.all (fun c => !(c == 92 || c == 10 || decide (128 ≤ c))) && (match l with
  | [] => true
  | c :: r => !(safe (c :: r)) || ((c == 97 || c == 98 || c == 43 || c == 45) && r.all fun x => x == 97 || x == 98))
theorem okw_all : ∀ l ∈ texts ++ cmds, okw l = true := by decide +kernel
theorem scan_word {l : List Nat} (h : okw l = true) : ∃ q : Bool, ∀ r : List Nat, scan .sp false [] (qt l ++ r) = scan .wd q l r := by
  obtain ⟨h1, h2⟩ := Bool.and_eq_true_iff.mp h
  have h1' : ∀ c ∈ l, ¬ (c = 92 ∨ c = 10 ∨ 128 ≤ c) := fun c hc => by
    have := List.all_eq_true.mp h1 c hc
    simp at this
    omega
  have quoted : ∀ r, scan .sp false [] ((39 :: (l.flatMap qch ++ [39])) ++ r) = scan .wd true l r := fun r => by
    show scan .sp false [] (39 :: ((l.flatMap qch ++ [39]) ++ r)) = _
    rw [scan, if_neg (by decide), if_pos rfl, List.append_assoc]
    exact scan_sq l h1' false [] r
  cases l with
  | nil => exact ⟨true, fun r => quoted r⟩
  | cons c l =>
    unfold qt
    rw [if_neg (List.cons_ne_nil _ _)]
    by_cases hs : safe (c :: l) = true
    · rw [if_pos hs]
      refine ⟨false, fun r => ?_⟩
      simp only [hs, Bool.not_true, Bool.false_or, Bool.and_eq_true, Bool.or_eq_true, beq_iff_eq, List.all_eq_true] at h2
      show scan .sp false [] (c :: (l ++ r)) = _
      have hc : c = 97 ∨ c = 98 ∨ c = 43 ∨ c = 45 := by omega
      rw [scan, if_neg (by omega), if_neg (by omega), if_pos hc, scan_ab l h2.2]; rfl
    · rw [if_neg hs]
      exact ⟨true, fun r => quoted r⟩
theorem lexes_sp {r : List Nat} {ts : List (List Nat)} (h : Lexes false r ts) : Lexes false (32 :: r) ts := by
  have e : scan (LS.go false) false [] (32 :: r) = scan (LS.go false) false [] r := by
    show scan .sp false [] (32 :: r) = _
    rw [scan, if_pos rfl]; rfl
  cases h with
  | done h => exact .done (e.trans h)
  | tok h h2 => exact .tok (e.trans h) h2
theorem lexes_join (sep : List Nat) (hsep : sep = [32] ∨ sep = [32, 32]) : ∀ ls : List (List Nat), (∀ l ∈ ls, okw l = true) → Lexes false (joinL sep (ls.map qt)) ls
  | [], _ => .done (e' := true) (r' := []) rfl
  | [a], h => by
    obtain ⟨q, hq⟩ := scan_word (h a (.head _))
    have e : scan (LS.go false) false [] (qt a) = some (some a, true, []) := by
      have := hq []
      rw [List.append_nil] at this
      exact this
    exact .tok e (.done (e' := true) (r' := []) rfl)
  | a :: b :: r, h => by
    obtain ⟨q, hq⟩ := scan_word (h a (.head _))
    have ih := lexes_join sep hsep (b :: r) fun l hl => h l (.tail _ hl)
    show Lexes false (qt a ++ (sep ++ joinL sep ((b :: r).map qt))) (a :: b :: r)
    rcases hsep with rfl | rfl
    · exact .tok (e' := false) ((hq _).trans (by show scan .wd q a (32 :: _) = _; rw [scan, if_pos rfl]; rfl)) ih
    · exact .tok (e' := false) ((hq _).trans (by show scan .wd q a (32 :: (32 :: _)) = _; rw [scan, if_pos rfl]; rfl)) (lexes_sp ih)

end
section
example : True := by
  (k_with "my_step" => (first | (k_unfold; (try dsimp only)) | walk1 | (dsimp only; walk1) | (leave1; try dsimp only)))
  trivial
theorem order_ctr (w : World) (R : List (Addr × Obj)) (a b : List Nat) (ha : a.length ≤ 1000) (hb : b.length ≤ 1000) (t1 t2 : Tok) :
    Sat w 800 7500 822 [.str (tx a) t1, .str (tx b) t2] R (fun v news' => (∃ t, v = .int (ordZ a b) t) ∧ news' = R) := by
  have ha1 : (tx a).length ≤ 1000 := (tx_len a).symm ▸ ha
  have hb1 : (tx b).length ≤ 1000 := (tx_len b).symm ▸ hb
  intro pp ll mean mg mb gd cn cs ad ccd cl outer A₀ base h₀ L m s Q E B' F X N T hk hret
  k_dflt (walk_at "my_enter2"); walk_at "my_in"
  have la := tx_len a
  have lb := tx_len b
  repeat' walk_at "my_step"
  · have h : a.length ≠ b.length := by omega
    have e : ((tx b).length : Int) - ((tx a).length : Int) = ordZ a b := by rw [ordZ, if_pos h, la, lb]
    rw [e]
    exact hret _ _ _ _ ⟨⟨_, rfl⟩, rfl⟩ (by k_asm) (by k_asm)
  · have h : ¬ a.length ≠ b.length := by omega
    have e : b2i (decide (b < a)) - b2i (decide (a < b)) = ordZ a b := by
      rw [ordZ, if_neg h]
      by_cases h1 : b < a <;> by_cases h2 : a < b <;> simp [h1, h2, b2i]
    rw [e]
    exact hret _ _ _ _ ⟨⟨_, rfl⟩, rfl⟩ (by k_asm) (by k_asm)

end
section
open PySem.W.X
example : True := by
  (k_with "my_inn" => first | exact List.Mem.head _ | (refine' List.Mem.tail _ ?_; walk_at "my_inn"))
  trivial
theorem objnew_x (w : World) (fr : List Env) (s : Shared) (X : (hd.heap_1 w.params).In s.heap) :
    wpAny (model PySem.Challenge.pw_ij0186_01 w) (Amax fr) (call (.builtin "object.__new__") [.ref 655]) (fun v s' => ∃ (so dx : Addr) (h' : Heap) (nw : List (Addr × Obj)) (tk' : Nat), v = .ref so ∧ s' = { s with heap := h', toks := tk' } ∧ Mem s.heap h' [] nw ∧ (so, ioObj dx) ∈ nw ∧ (dx, dictOf [] 0) ∈ nw) (fun _ _ => False) s := by
  have D := Mem.start s.heap
  obtain ⟨h, g, d, t0, os⟩ := s
  refine sb_callP (PySem.Code.call (Value.builtin "object.__new__") (PySem.Args.mk [(Value.ref 655)] [])) (by kernel_rfl) ?_
  refine sb_codeR ?_
  refine sf_run [(655, tob w 655), (178, tob w 178), (151, tob w 151)] [fun _ => .f 0, fun _ => .f 0, fun _ => .f 0, fun _ => .f 0, fun _ => .f 0, fun _ => .f 0, fun _ => .f 1, fun _ => .f 1, fun _ => .f 2, fun _ => .f 2, fun _ => .f 1, fun _ => .f 1, fun _ => .f 1, fun _ => .f 2, fun _ => .f 2, fun _ => .f 2, fun _ => .f 2, fun _ => .f 2] t0 D (fo_cons (tob_at (by assumption) (by kernel_rfl)) (by kernel_rfl) (fo_cons (tob_at (by assumption) (by kernel_rfl)) (by kernel_rfl) (fo_cons (tob_at (by assumption) (by kernel_rfl)) (by kernel_rfl) fo_nil))) (fun as => by kernel_rfl) ?_; intro as1 h1_ r1_ w1_ t1_ D1_
  refine sf_again (PySem.Code.builtin "object.__new__" (PySem.Args.mk [(Value.ref 655)] [])) (by kernel_rfl) (by first | rfl | exact PySem.Code.quiet_builtin _ (by decide +kernel)) ?_
  refine sb_codeB Builtin.«object.__new__» (entryFor_of_tree (by kernel_rfl)) ?_
  refine sf_run [(655, tob w 655), (178, tob w 178), (151, tob w 151)] [fun _ => .f 0, fun _ => .f 0, fun _ => .f 0, fun _ => .f 0, fun _ => .f 0, fun _ => .f 1, fun _ => .f 1, fun _ => .f 2, fun _ => .f 2, fun _ => .f 1, fun _ => .f 1, fun _ => .f 1, fun _ => .f 2, fun _ => .f 2, fun _ => .f 2, fun _ => .f 2, fun _ => .f 2, fun _ => .f 0, fun as => .a (Obj.mk (Value.type "dict") none (PySem.Data.dict #[] 0) #[]), fun as => .a (Obj.mk (Value.ref 655) (some (as 0)) PySem.Data.plain #[]), fun _ => .f 0] t0 D1_ (fo_cons (tob_at (by assumption) (by kernel_rfl)) (by kernel_rfl) (fo_cons (tob_at (by assumption) (by kernel_rfl)) (by kernel_rfl) (fo_cons (tob_at (by assumption) (by kernel_rfl)) (by kernel_rfl) fo_nil))) (fun as => by kernel_rfl) ?_; intro as2 h2_ r2_ w2_ t2_ D2_
  refine sf_done (.ret (.ref (as2 1))) (by kernel_rfl) ?_
  refine sb_ret ?_
  refine sf_pure (.ref (as2 1)) (by kernel_rfl) ?_
  exact ⟨as2 1, as2 0, _, _, _, rfl, rfl, D2_, List.mem_of_getElem? (i := 0) (by kernel_rfl), List.mem_of_getElem? (i := 1) (by kernel_rfl)⟩
noncomputable def AllNe (d : Nat) : List (Addr × Obj) → Prop
  | [] => True
  | p :: r => @Ne Nat p.1 d ∧ AllNe d r
theorem allNe_of {d : Addr} {l : List (Addr × Obj)} (h : ∀ p ∈ l, p.1 ≠ d) : AllNe d l := by
  induction l with
  | nil => trivial
  | cons p r ih => exact ⟨h p (.head _), ih fun q hq => h q (.tail _ hq)⟩
theorem allNe_to {d : Addr} {l : List (Addr × Obj)} (h : AllNe d l) : ∀ p ∈ l, p.1 ≠ d := by
  induction l with
  | nil => exact fun p hp => absurd hp List.not_mem_nil
  | cons q r ih =>
    intro p hp
    rcases List.mem_cons.mp hp with rfl | hp
    · exact h.1
    · exact ih h.2 p hp
theorem drop2 {h h' : Heap} {L : Addr} {p q r1 r2 : Addr × Obj} {R : List (Addr × Obj)} (N : News h L h' (p :: q :: r1 :: r2 :: R)) : News h L h' (p :: q :: R) := fun x hx => by
  rcases List.mem_cons.mp hx with rfl | hx
  · exact N _ (.head _)
  rcases List.mem_cons.mp hx with rfl | hx
  · exact N _ (.tail _ (.head _))
  · exact N _ (.tail _ (.tail _ (.tail _ (.tail _ hx))))
section
variable {w : World} {A : Around} {E : Value → Shared → Prop} {s : Shared} {h₀ : Heap} {L : Addr} {m : Str → Option Value} {news : List (Addr × Obj)} {fr : List Env}
theorem objnew_K {Q : Value → Shared → Prop} (hh : A.handled = none) (hdp : A.depth ≤ 900) (hu : A.units ≤ 8000) (hf : A.frames = some fr) (F : Fr h₀ L s.heap m) (X : (hd.heap_1 w.params).In h₀) (N : News h₀ L s.heap news)
    (h : ∀ so dx h' tk', Fr h₀ L h' m → News h₀ L h' ((so, ioObj dx) :: (dx, dictOf [] 0) :: news) → AllNe so ((dx, dictOf [] 0) :: news) → AllNe dx news → Q (.ref so) { s with heap := h', toks := tk' }) :
    wpAny (model PySem.Challenge.pw_ij0186_01 w) A (call (.builtin "object.__new__") [.ref 655]) Q E s := by
  refine weaken3 (A' := Amax fr) hh hdp hu hf.symm rfl (wpAny_mono (objnew_x w fr s (X.keeps F.keep)) (fun v s' z => ?_) fun _ _ z => z.elim)
  obtain ⟨so, dx, h', nw, tk', rfl, rfl, D, hm, hm2⟩ := z
  refine h so dx h' tk' (mem_fr D F) (fun p hp => ?_) ⟨fun e => ?_, allNe_of fun p hp => Ne.symm (mem_ne D N hm hp)⟩ (allNe_of fun p hp => Ne.symm (mem_ne D N hm2 hp))
  · rcases List.mem_cons.mp hp with rfl | hp
    · exact mem_news D F N _ (List.mem_append_left _ hm)
    rcases List.mem_cons.mp hp with rfl | hp
    · exact mem_news D F N _ (List.mem_append_left _ hm2)
    · exact mem_news D F N _ (List.mem_append_right _ hp)
  · have z1 := (D.nw _ hm).1
    have z2 := (D.nw _ hm2).1
    have z3 : h'.get? so = some (dictOf [] 0) := by rw [← z2]; exact congrArg _ e.symm
    rw [z3] at z1
    cases z1
end
example : True := by
  (k_with "my_step" => (first | (k_unfold; (try dsimp only)) | walk1 | (dsimp only; walk1) | (leave1; try dsimp only)))
  (k_with "my_both" => ((kp_kind "both"; (refine' kp_both ?k1_h ?k2_h ?k3_h ?k4_h ?k5_h ?kA_h ?kF_h ?kK_h ?k6_h ?k7_h ?k8_h ?kV_h ?kX_h ?kQ_h ?kM_h ?kN_h ?kD_h ?kR_h ?kP_h ?kS_h ?kT_h ?kB_h ?_ ?c2_h ?c3_h ?c4_h ?c5_h; (case kA_h => exact rfl); (case kF_h => exact rfl); (case kK_h => assumption); (case k1_h => k_asm); (case k2_h => k_asm); (case k3_h => k_asm); (case k4_h => k_asm); (case k5_h => k_asm); (case k6_h => k_is); (case k7_h => k_is); (case k8_h => k_room); (case kV_h => kp_lit); (case kX_h => kp_lit); (case kQ_h => exact rfl); (case kM_h => exact rfl); (case kN_h => exact rfl); (case kD_h => kp_flats); (case kR_h => exact rfl); (case kP_h => exact rfl); (case kS_h => exact fun _ => rfl); (case kT_h => exact fun _ _ => rfl); (case kB_h => exact fun _ _ => locs rfl); (case c5_h => decide); (case c2_h => exact rfl); (case c3_h => exact rfl); (case c4_h => exact rfl); k_whole; intro C'_q D'_q o'_q g'_q L'_q h'_q tk'_q l1_q l2_q lo'_q hs'_q fs'_q FG'_q F'_q N'_q B'_q X'_q T'_q; (try k_lt l1_q); (try k_lt2 l2_q); (try dsimp only); (try k_lift B'_q); (try k_fold)))))
  trivial
section
variable {w : World} {h : Heap}
theorem madeBy_l (X : (hd.heap_1 w.params).In h) : Looks (model PySem.Challenge.pw_ij0186_01 w) h (Bind.madeBy (.ref 655)) none := Looks.of_peek X (by kernel_rfl)
theorem mro_l (X : (hd.heap_1 w.params).In h) : Looks (model PySem.Challenge.pw_ij0186_01 w) h (List.isEmpty <$> mroOf (.ref 655)) false := Looks.of_peek X (by kernel_rfl)
theorem call_l (X : (hd.heap_1 w.params).In h) : Looks (model PySem.Challenge.pw_ij0186_01 w) h (specialOf (.ref 655) "__call__") (some (.builtin "type.__call__")) := by first | exact looks_specialIn X (by k_is) | exact Looks.of_peek X (by kernel_rfl)
theorem typ_l (X : (hd.heap_1 w.params).In h) : Looks (model PySem.Challenge.pw_ij0186_01 w) h (isInstance (.ref 655) (.type "type")) true := by first | exact looks_instIn X (by k_is) | exact Looks.of_peek X (by kernel_rfl)
theorem init_l (X : (hd.heap_1 w.params).In h) : Looks (model PySem.Challenge.pw_ij0186_01 w) h (typeLookup (.ref 655) "__init__") (some (.ref 425)) := by first | exact looks_findIn X (by k_is) | exact Looks.of_peek X (by kernel_rfl)
theorem new_l {m mg mb : Str → Option Value} {A : Around} {s : Shared} {h₀ : Heap} {L : Addr} {news : List (Addr × Obj)} {pp : Program} {ll : List Str} {mean : ExcName → Option Value} {Q : Value → Shared → Prop} {E : Value → Shared → Prop} (F : Fr h₀ L s.heap m) (X : (hd.heap_1 w.params).In h₀) (N : News h₀ L s.heap news) (T : Top pp ll mean mg mb h₀) (hq : ∀ tk', Q (.ref 148) { s with toks := tk' }) :
   wpAny (model PySem.Challenge.pw_ij0186_01 w) A (getAttr (.ref 655) "__new__") Q E s := by
  repeat' walk_at "my_step"
  all_goals exact hq _
end
example : True := by
  (k_with "my_max" => ((case hh => rfl); (case hf => rfl); (case hd => exact Nat.le_of_ble_eq_true rfl); (case hu => exact Nat.le_of_ble_eq_true rfl); (case F => k_asm); (case X => k_asm); (case N => k_asm)))
  trivial
theorem new_ctr (w : World) (R : List (Addr × Obj)) (x : Str) (t : Tok) :
    Sat w 800 7000 148 [.ref 655, .str x t] R (fun v news' => ∃ so dx, v = .ref so ∧ news' = (so, ioObj dx) :: (dx, dictOf [] 0) :: R ∧ AllNe so ((dx, dictOf [] 0) :: R) ∧ AllNe dx R) := by
  intro pp ll mean mg mb gd cn cs ad ccd cl outer A₀ base h₀ L m s Q E B' F X N T hk hret
  refine wpAny_call ?_
  k_dflt (walk_at "my_both")
  repeat (first | (fail_if_success (with_reducible show wpAny _ _ (call (Value.builtin _) _ _) _ _ _)); walk_at "my_step")
  k_dflt (refine' objnew_K ?hh ?hd ?hu ?hf ?F ?X ?N ?_; walk_at "my_max")
  intro so dx h' tk' F' N' ne1 ne2
  dsimp only [AllNe] at ne1 ne2
  repeat' walk_at "my_step"
  all_goals exact hret _ _ _ _ ⟨so, dx, rfl, rfl, ⟨ne1.1, ne1.2.2.2⟩, ne2.2.2⟩ (by k_asm) (drop2 (by assumption))

end
section
example : True := by
  (k_with "k_inst" => (refine' InstAt.of_news ?N_h ?h1_h ?h2_h; (case N_h => k_asm); (case h1_h => k_mem); (case h2_h => k_mem)))
  (k_with "my_step" => (first | (k_unfold; (try dsimp only)) | walk1 | (dsimp only; walk1) | (leave1; try dsimp only)))
  (k_with "my_apart" => first | assumption | (refine List.forall_mem_cons.mpr ⟨?_, ?_⟩; (first | assumption | k_ne); (walk_at "my_apart")) | exact allNe_to (by assumption))
  (k_with "my_upd" => first | (refine' Upd.head ?a_h; (case a_h => walk_at "my_apart")) | (refine' Upd.tail ?a_h ?b_h; (case a_h => first | assumption | k_ne); (case b_h => walk_at "my_upd")))
  (k_with "setAttr ref" => (k_here; k_dflt (refine' set_dict ?k1_h ?k2_h ?k3_h ?k4_h ?k5_h ?k6_h ?k7_h ?k8_h ?k9_h ?k10_h ?k11_h ?k12_h ?k13_h ?_; (case k1_h => k_asm); (case k2_h => k_asm); (case k3_h => k_asm); (case k4_h => k_inst); (case k5_h => exact rfl); (case k6_h => k_is); (case k7_h => k_is); (case k8_h => k_is); (case k9_h => k_is); (case k10_h => k_get); (case k11_h => k_put); (case k12_h => walk_at "my_upd"); (case k13_h => exact Nat.le_of_ble_eq_true rfl); k_whole); intro h'_q F'_q N'_q; (try k_sweep)))
  trivial
noncomputable def II1_s : {P : World → (List (Addr × Obj)) → Str → Tok → Addr → Addr → Program → (List Str) → (ExcName → Option Value) → (Str → Option Value) → (Str → Option Value) → (Option (List Code)) → Str → Scope → Addr → Value → (List (Str × Addr)) → (List Env) → Around → Heap → Heap → Addr → (Str → Option Value) → Shared → (Value → Shared → Prop) → (Value → Shared → Prop) → Prop // (∀ w R x t so dx pp ll mean mg mb gd cn cs ad ccd cl outer A₀ base h₀ L m s Q E, P w R x t so dx pp ll mean mg mb gd cn cs ad ccd cl outer A₀ base h₀ L m s Q E) → (∀ (w : World) (R : List (Addr × Obj)) (x : Str) (hx : x.length ≤ 1000) (t : Tok) (so dx : Addr) (h1 : @Ne Nat so dx) (h2 : ∀ q ∈ R, q.1 ≠ dx), Sat w 800 7000 425 [.ref so, .str x t] ((so, ioObj dx) :: (dx, dictOf [] 0) :: R) (fun v news' => v = .none ∧ ∃ (g1 g2 g3 : Int) (k1 k2 k3 v1 v3 : Tok) (nl : Value), news' = (so, ioObj dx) :: (dx, ioDict g1 g2 g3 k1 k2 k3 v1 v3 nl x 0) :: R))} := by
  refine' ⟨_, fun HC1 => ?hcut⟩
  case hcut =>
    intro w R x hx t so dx h1 h2
    intro pp ll mean mg mb gd cn cs ad ccd cl outer A₀ base h₀ L m s Q E B' F X N T hk hret
    revert hx h1 h2 B' F X N T hk hret
    exact HC1 w R x t so dx pp ll mean mg mb gd cn cs ad ccd cl outer A₀ base h₀ L m s Q E
@[irreducible] noncomputable def II1_e : (World × (List (Addr × Obj)) × Str × Tok × Addr × Addr × Program × (List Str)) × ((ExcName → Option Value) × (Str → Option Value) × (Str → Option Value) × (Option (List Code)) × Str × Scope × Addr × Value) × ((List (Str × Addr)) × (List Env) × Around × Heap × Heap × Addr × (Str → Option Value) × Shared) × ((Value → Shared → Prop) × (Value → Shared → Prop)) := Ep (by first | infer_instance | (repeat' (first | exact neW | exact neA | exact neS | infer_instance | refine neP ?_ ?_ | (refine ⟨?_⟩; constructor <;> exact default) | (refine ⟨?_⟩; constructor)))) fun x => II1_s.1 x.1.1 x.1.2.1 x.1.2.2.1 x.1.2.2.2.1 x.1.2.2.2.2.1 x.1.2.2.2.2.2.1 x.1.2.2.2.2.2.2.1 x.1.2.2.2.2.2.2.2 x.2.1.1 x.2.1.2.1 x.2.1.2.2.1 x.2.1.2.2.2.1 x.2.1.2.2.2.2.1 x.2.1.2.2.2.2.2.1 x.2.1.2.2.2.2.2.2.1 x.2.1.2.2.2.2.2.2.2 x.2.2.1.1 x.2.2.1.2.1 x.2.2.1.2.2.1 x.2.2.1.2.2.2.1 x.2.2.1.2.2.2.2.1 x.2.2.1.2.2.2.2.2.1 x.2.2.1.2.2.2.2.2.2.1 x.2.2.1.2.2.2.2.2.2.2 x.2.2.2.1 x.2.2.2.2
namespace II1
noncomputable section
 @[irreducible] def w := II1_e.1.1
 @[irreducible] def R := II1_e.1.2.1
 @[irreducible] def x := II1_e.1.2.2.1
 @[irreducible] def t := II1_e.1.2.2.2.1
 @[irreducible] def so := II1_e.1.2.2.2.2.1
 @[irreducible] def dx := II1_e.1.2.2.2.2.2.1
 @[irreducible] def pp := II1_e.1.2.2.2.2.2.2.1
 @[irreducible] def ll := II1_e.1.2.2.2.2.2.2.2
 @[irreducible] def mean := II1_e.2.1.1
 @[irreducible] def mg := II1_e.2.1.2.1
 @[irreducible] def mb := II1_e.2.1.2.2.1
 @[irreducible] def gd := II1_e.2.1.2.2.2.1
 @[irreducible] def cn := II1_e.2.1.2.2.2.2.1
 @[irreducible] def cs := II1_e.2.1.2.2.2.2.2.1
 @[irreducible] def ad := II1_e.2.1.2.2.2.2.2.2.1
 @[irreducible] def ccd := II1_e.2.1.2.2.2.2.2.2.2
 @[irreducible] def cl := II1_e.2.2.1.1
 @[irreducible] def outer := II1_e.2.2.1.2.1
 @[irreducible] def A₀ := II1_e.2.2.1.2.2.1
 @[irreducible] def base := II1_e.2.2.1.2.2.2.1
 @[irreducible] def h₀ := II1_e.2.2.1.2.2.2.2.1
 @[irreducible] def L := II1_e.2.2.1.2.2.2.2.2.1
 @[irreducible] def m := II1_e.2.2.1.2.2.2.2.2.2.1
 @[irreducible] def s := II1_e.2.2.1.2.2.2.2.2.2.2
 @[irreducible] def Q := II1_e.2.2.2.1
 @[irreducible] def E := II1_e.2.2.2.2
end
end II1
section
open II1
theorem II1_b : II1_s.1 II1.w II1.R II1.x II1.t II1.so II1.dx II1.pp II1.ll II1.mean II1.mg II1.mb II1.gd II1.cn II1.cs II1.ad II1.ccd II1.cl II1.outer II1.A₀ II1.base II1.h₀ II1.L II1.m II1.s II1.Q II1.E := by
  intro hx h1 h2 B' F X N T hk hret
  k_dflt (walk_at "my_enter3"); walk_at "my_in"
  repeat' walk_at "my_step"
  all_goals exact hret _ _ _ _ ⟨rfl, _, _, _, _, _, _, _, _, _, rfl⟩ (by k_asm) (by k_asm)

end
theorem init_ctr (w : World) (R : List (Addr × Obj)) (x : Str) (hx : x.length ≤ 1000) (t : Tok) (so dx : Addr) (h1 : @Ne Nat so dx) (h2 : ∀ q ∈ R, q.1 ≠ dx) :
    Sat w 800 7000 425 [.ref so, .str x t] ((so, ioObj dx) :: (dx, dictOf [] 0) :: R) (fun v news' => v = .none ∧ ∃ (g1 g2 g3 : Int) (k1 k2 k3 v1 v3 : Tok) (nl : Value), news' = (so, ioObj dx) :: (dx, ioDict g1 g2 g3 k1 k2 k3 v1 v3 nl x 0) :: R) := by
  exact II1_s.2 (fun w R x t so dx pp ll mean mg mb gd cn cs ad ccd cl outer A₀ base h₀ L m s Q E => ep_all _ (P := fun x => II1_s.1 x.1.1 x.1.2.1 x.1.2.2.1 x.1.2.2.2.1 x.1.2.2.2.2.1 x.1.2.2.2.2.2.1 x.1.2.2.2.2.2.2.1 x.1.2.2.2.2.2.2.2 x.2.1.1 x.2.1.2.1 x.2.1.2.2.1 x.2.1.2.2.2.1 x.2.1.2.2.2.2.1 x.2.1.2.2.2.2.2.1 x.2.1.2.2.2.2.2.2.1 x.2.1.2.2.2.2.2.2.2 x.2.2.1.1 x.2.2.1.2.1 x.2.2.1.2.2.1 x.2.2.1.2.2.2.1 x.2.2.1.2.2.2.2.1 x.2.2.1.2.2.2.2.2.1 x.2.2.1.2.2.2.2.2.2.1 x.2.2.1.2.2.2.2.2.2.2 x.2.2.2.1 x.2.2.2.2) (by with_unfolding_all exact II1_b) ((w, R, x, t, so, dx, pp, ll), (mean, mg, mb, gd, cn, cs, ad, ccd), (cl, outer, A₀, base, h₀, L, m, s), (Q, E))) w R x hx t so dx h1 h2

end
section
section
variable {w : World} {h : Heap}
theorem mro_lk (X : (hd.heap_1 w.params).In h) : ∃ c l, Looks (model PySem.Challenge.pw_ij0186_01 w) h (mroOf (.ref 655)) (c :: l) := by
  have ⟨cd, hc, c, l, e⟩ : ∃ cd, clsIn (hd.heap_1 w.params) 655 = some cd ∧ ∃ c l, cd.mro = c :: l := ⟨_, rfl, _, _, rfl⟩
  exact ⟨c, l, e ▸ (looks_clsIn X hc).andThen .now⟩
end
noncomputable def IM1_s : {P : World → (List (Addr × Obj)) → Str → Tok → Program → (List Str) → (ExcName → Option Value) → (Str → Option Value) → (Str → Option Value) → (Option (List Code)) → Str → Scope → Addr → Value → (List (Str × Addr)) → (List Env) → Around → Heap → Heap → Addr → (Str → Option Value) → Shared → (Value → Shared → Prop) → (Value → Shared → Prop) → Prop // (∀ w R x t pp ll mean mg mb gd cn cs ad ccd cl outer A₀ base h₀ L m s Q E, P w R x t pp ll mean mg mb gd cn cs ad ccd cl outer A₀ base h₀ L m s Q E) → (∀ (w : World) (R : List (Addr × Obj)) (x : Str) (hx : x.length ≤ 1000) (t : Tok), Sat w 700 6000 655 [.str x t] R (fun v news' => ∃ so dx g1 g2 g3 k1 k2 k3 v1 v3 nl, v = .ref so ∧ news' = (so, ioObj dx) :: (dx, ioDict g1 g2 g3 k1 k2 k3 v1 v3 nl x 0) :: R ∧ @Ne Nat dx so ∧ AllNe so R ∧ AllNe dx R))} := by
  refine' ⟨_, fun HC1 => ?hcut⟩
  case hcut =>
    intro w R x hx t
    intro pp ll mean mg mb gd cn cs ad ccd cl outer A₀ base h₀ L m s Q E B' F X N T hk hret
    revert hx B' F X N T hk hret
    exact HC1 w R x t pp ll mean mg mb gd cn cs ad ccd cl outer A₀ base h₀ L m s Q E
@[irreducible] noncomputable def IM1_e : (World × (List (Addr × Obj)) × Str × Tok × Program × (List Str) × (ExcName → Option Value) × (Str → Option Value)) × ((Str → Option Value) × (Option (List Code)) × Str × Scope × Addr × Value × (List (Str × Addr)) × (List Env)) × (Around × Heap × Heap × Addr × (Str → Option Value) × Shared × (Value → Shared → Prop) × (Value → Shared → Prop)) := Ep (by first | infer_instance | (repeat' (first | exact neW | exact neA | exact neS | infer_instance | refine neP ?_ ?_ | (refine ⟨?_⟩; constructor <;> exact default) | (refine ⟨?_⟩; constructor)))) fun x => IM1_s.1 x.1.1 x.1.2.1 x.1.2.2.1 x.1.2.2.2.1 x.1.2.2.2.2.1 x.1.2.2.2.2.2.1 x.1.2.2.2.2.2.2.1 x.1.2.2.2.2.2.2.2 x.2.1.1 x.2.1.2.1 x.2.1.2.2.1 x.2.1.2.2.2.1 x.2.1.2.2.2.2.1 x.2.1.2.2.2.2.2.1 x.2.1.2.2.2.2.2.2.1 x.2.1.2.2.2.2.2.2.2 x.2.2.1 x.2.2.2.1 x.2.2.2.2.1 x.2.2.2.2.2.1 x.2.2.2.2.2.2.1 x.2.2.2.2.2.2.2.1 x.2.2.2.2.2.2.2.2.1 x.2.2.2.2.2.2.2.2.2
namespace IM1
noncomputable section
 @[irreducible] def w := IM1_e.1.1
 @[irreducible] def R := IM1_e.1.2.1
 @[irreducible] def x := IM1_e.1.2.2.1
 @[irreducible] def t := IM1_e.1.2.2.2.1
 @[irreducible] def pp := IM1_e.1.2.2.2.2.1
 @[irreducible] def ll := IM1_e.1.2.2.2.2.2.1
 @[irreducible] def mean := IM1_e.1.2.2.2.2.2.2.1
 @[irreducible] def mg := IM1_e.1.2.2.2.2.2.2.2
 @[irreducible] def mb := IM1_e.2.1.1
 @[irreducible] def gd := IM1_e.2.1.2.1
 @[irreducible] def cn := IM1_e.2.1.2.2.1
 @[irreducible] def cs := IM1_e.2.1.2.2.2.1
 @[irreducible] def ad := IM1_e.2.1.2.2.2.2.1
 @[irreducible] def ccd := IM1_e.2.1.2.2.2.2.2.1
 @[irreducible] def cl := IM1_e.2.1.2.2.2.2.2.2.1
 @[irreducible] def outer := IM1_e.2.1.2.2.2.2.2.2.2
 @[irreducible] def A₀ := IM1_e.2.2.1
 @[irreducible] def base := IM1_e.2.2.2.1
 @[irreducible] def h₀ := IM1_e.2.2.2.2.1
 @[irreducible] def L := IM1_e.2.2.2.2.2.1
 @[irreducible] def m := IM1_e.2.2.2.2.2.2.1
 @[irreducible] def s := IM1_e.2.2.2.2.2.2.2.1
 @[irreducible] def Q := IM1_e.2.2.2.2.2.2.2.2.1
 @[irreducible] def E := IM1_e.2.2.2.2.2.2.2.2.2
end
end IM1
section
open IM1
theorem IM1_b : IM1_s.1 IM1.w IM1.R IM1.x IM1.t IM1.pp IM1.ll IM1.mean IM1.mg IM1.mb IM1.gd IM1.cn IM1.cs IM1.ad IM1.ccd IM1.cl IM1.outer IM1.A₀ IM1.base IM1.h₀ IM1.L IM1.m IM1.s IM1.Q IM1.E := by
  intro hx B' F X N T hk hret
  have X1 := X.keeps F.keep
  have call1 := call_l X1
  have typ1 := typ_l X1
  have made1 := madeBy_l X1
  obtain ⟨c0, l0, mro1⟩ := mro_lk X1
  have hi : Looks (model PySem.Challenge.pw_ij0186_01 w) s.heap (typeLookup (.ref 655) "__init__") (some (.ref 425)) := init_l X1
  have self1 : Looks (model PySem.Challenge.pw_ij0186_01 w) s.heap (isSubtype (.ref 655) (.ref 655)) true := looks_mroIn X1 (by k_is)
  have b1 : ∀ self, Looks (model PySem.Challenge.pw_ij0186_01 w) s.heap (bindSpecial (.ref 425) self) (.ref 425, [self]) := fun self => bind_fn X1 self (by k_is)
  obtain ⟨oc, od, cd, sl, hC⟩ : ∃ oc od cd sl, s.heap.get? 655 = some ⟨oc, od, .cls cd, sl⟩ := ⟨_, _, _, _, X1 655 _ rfl⟩
  refine wpAny_call ?_
  refine codeAny_of_tree ?_
  show wpAny _ _ (callAny (.ref 655) _) _ _ _
  refine nd_load hC ?_
  show wpAny _ _ (callAny.viaDunder (.ref 655) _) _ _ _
  unfold callAny.viaDunder
  refine wpAny_bind (call1.at ?_)
  dsimp only
  rw [tc_bind]
  refine wpAny_bind (wpAny_pure (wpAny_bind (wpAny_pure ?_)))
  refine wpAny_pure (a := Fin.again (.call (.builtin "type.__call__") ⟨[.ref 655, .str x t], []⟩)) (And.intro rfl ?_)
  refine codeAny_call_builtin_at (Code.quiet_builtin _ (by decide +kernel)) entry_typeCall (check_slot tc_kind tc_split typ1 (tc_args _ _ _) ?_)
  unfold Builtin.«type.__call__»
  repeat (first | (fail_if_success (with_reducible show wpAny _ _ (getAttr _ _) _ _ _)); (first | simp only [List.isEmpty_cons, Bool.false_eq_true, if_false] | lk))
  refine new_l F X N T fun tk1 => ?_
  repeat ((fail_if_success (with_reducible show wpAny _ _ (call _ _ _) _ _ _)); lk)
  k_dflt (refine' (new_ctr w R x t).use ?hh ?hd ?hu ?hf ?hg ?B ?F ?X ?N ?T ?K ?_; walk_at "my_use")
  rintro v news' h2 tk2 ⟨so, dx, rfl, rfl, ne1, ne2⟩ F2 N2
  have hx2 := (N2 _ (.head _)).1
  dsimp only at hx2
  have t1 : Looks (model PySem.Challenge.pw_ij0186_01 w) h2 (typeOf (.ref so)) (.ref 655) := (Looks.ld hx2).andThen .now
  have X2 := X.keeps F2.keep
  have i1 := init_l X2
  have s1 : Looks (model PySem.Challenge.pw_ij0186_01 w) h2 (isSubtype (.ref 655) (.ref 655)) true := looks_mroIn X2 (by k_is)
  have b2 : Looks (model PySem.Challenge.pw_ij0186_01 w) h2 (bindSpecial (.ref 425) (.ref so)) (.ref 425, [.ref so]) := bind_fn X2 (.ref so) (by k_is)
  unfold isInstance callSpecial? specialOf
  repeat ((fail_if_success (with_reducible show wpAny _ _ (call _ _ _) _ _ _)); lk)

  k_dflt (refine' (init_ctr w R x hx t so dx ?a1 ?a2).use ?hh ?hd ?hu ?hf ?hg ?B ?F ?X ?N ?T ?K ?_; (case a1 => exact Ne.symm ne1.1); (case a2 => exact allNe_to ne2); walk_at "my_use")
  rintro v news' h3 tk3 ⟨rfl, g1, g2, g3, k1, k2, k3, v1, v3, nl, rfl⟩ F3 N3
  repeat lk

  exact hret _ _ _ _ ⟨so, dx, g1, g2, g3, k1, k2, k3, v1, v3, nl, rfl, rfl, ne1.1, ne1.2, ne2⟩ F3 N3

end
theorem mkio_c (w : World) (R : List (Addr × Obj)) (x : Str) (hx : x.length ≤ 1000) (t : Tok) :
    Sat w 700 6000 655 [.str x t] R (fun v news' => ∃ so dx g1 g2 g3 k1 k2 k3 v1 v3 nl, v = .ref so ∧ news' = (so, ioObj dx) :: (dx, ioDict g1 g2 g3 k1 k2 k3 v1 v3 nl x 0) :: R ∧ @Ne Nat dx so ∧ AllNe so R ∧ AllNe dx R) := by
  exact IM1_s.2 (fun w R x t pp ll mean mg mb gd cn cs ad ccd cl outer A₀ base h₀ L m s Q E => ep_all _ (P := fun x => IM1_s.1 x.1.1 x.1.2.1 x.1.2.2.1 x.1.2.2.2.1 x.1.2.2.2.2.1 x.1.2.2.2.2.2.1 x.1.2.2.2.2.2.2.1 x.1.2.2.2.2.2.2.2 x.2.1.1 x.2.1.2.1 x.2.1.2.2.1 x.2.1.2.2.2.1 x.2.1.2.2.2.2.1 x.2.1.2.2.2.2.2.1 x.2.1.2.2.2.2.2.2.1 x.2.1.2.2.2.2.2.2.2 x.2.2.1 x.2.2.2.1 x.2.2.2.2.1 x.2.2.2.2.2.1 x.2.2.2.2.2.2.1 x.2.2.2.2.2.2.2.1 x.2.2.2.2.2.2.2.2.1 x.2.2.2.2.2.2.2.2.2) (by with_unfolding_all exact IM1_b) ((w, R, x, t, pp, ll, mean, mg), (mb, gd, cn, cs, ad, ccd, cl, outer), (A₀, base, h₀, L, m, s, Q, E))) w R x hx t

end
section
section
variable {w : World} {A : Around} {E : Value → Shared → Prop} {s : Shared} {h₀ : Heap} {L : Addr} {m : Str → Option Value} {news : List (Addr × Obj)} {fr : List Env}
theorem mkdq_K {Q : Value → Shared → Prop} (hh : A.handled = none) (hdp : A.depth ≤ 900) (hu : A.units ≤ 8000) (hf : A.frames = some fr) (F : Fr h₀ L s.heap m) (X : (hd.heap_1 w.params).In h₀) (N : News h₀ L s.heap news)
    (h : ∀ a h' tk', Fr h₀ L h' m → News h₀ L h' ((a, dqObj) :: news) → AllNe a news → Q (.ref a) { s with heap := h', toks := tk' }) :
    wpAny (model PySem.Challenge.pw_ij0186_01 w) A (call (.type "collections.deque") []) Q E s := by
  refine weaken3 (A' := Amax fr) hh hdp hu hf.symm rfl (wpAny_mono (mkdq_x w fr s (X.keeps F.keep)) (fun v s' z => ?_) fun _ _ z => z.elim)
  obtain ⟨a, h', nw, tk', rfl, rfl, D, hm⟩ := z
  exact h a h' tk' (mem_fr D F) (fun p hp => by
    rcases List.mem_cons.mp hp with rfl | hp
    · exact mem_news D F N _ (List.mem_append_left _ hm)
    · exact mem_news D F N _ (List.mem_append_right _ hp)) (allNe_of fun p hp => Ne.symm (mem_ne D N hm hp))
end
example : True := by
  (k_with "k_inst" => (refine' InstAt.of_news ?N_h ?h1_h ?h2_h; (case N_h => k_asm); (case h1_h => k_mem); (case h2_h => k_mem)))
  (k_with "my_step" => (first | (k_unfold; (try dsimp only)) | walk1 | (dsimp only; walk1) | (leave1; try dsimp only)))
  trivial
theorem an1 {p q : Prop} (h : p ∧ q) : p := h.1
theorem an2 {p q r : Prop} (h : p ∧ q ∧ r) : q := h.2.1
theorem an3 {p q r t : Prop} (h : p ∧ q ∧ r ∧ t) : r := h.2.2.1
theorem an4 {p q r t u : Prop} (h : p ∧ q ∧ r ∧ t ∧ u) : t := h.2.2.2.1
theorem an5 {p q r t u v : Prop} (h : p ∧ q ∧ r ∧ t ∧ u ∧ v) : u := h.2.2.2.2.1
example : True := by
  (k_with "my_ne" => first | assumption | exact Ne.symm (by assumption) | exact an1 (by assumption) | exact Ne.symm (an1 (by assumption)) | exact an2 (by assumption) | exact Ne.symm (an2 (by assumption)) | exact an3 (by assumption) | exact Ne.symm (an3 (by assumption)) | exact an4 (by assumption) | exact Ne.symm (an4 (by assumption)) | exact an5 (by assumption) | exact Ne.symm (an5 (by assumption)) | exact Nat.ne_of_lt (by assumption) | exact (Nat.ne_of_lt (by assumption)).symm | k_ne)
  (k_with "my_apart" => first | assumption | (refine List.forall_mem_cons.mpr ⟨?_, ?_⟩; (walk_at "my_ne"); (walk_at "my_apart")) | exact allNe_to (by assumption))
  (k_with "my_upd" => first | (refine' Upd.head ?a_h; (case a_h => walk_at "my_apart")) | (refine' Upd.tail ?a_h ?b_h; (case a_h => walk_at "my_ne"); (case b_h => walk_at "my_upd")))
  (k_with "setAttr ref" => (k_here; k_dflt (refine' set_dict ?k1_h ?k2_h ?k3_h ?k4_h ?k5_h ?k6_h ?k7_h ?k8_h ?k9_h ?k10_h ?k11_h ?k12_h ?k13_h ?_; (case k1_h => k_asm); (case k2_h => k_asm); (case k3_h => k_asm); (case k4_h => k_inst); (case k5_h => exact rfl); (case k6_h => k_is); (case k7_h => k_is); (case k8_h => k_is); (case k9_h => k_is); (case k10_h => k_get); (case k11_h => k_put); (case k12_h => walk_at "my_upd"); (case k13_h => exact Nat.le_of_ble_eq_true rfl); k_whole); intro h'_q F'_q N'_q; (try k_sweep)))
  (k_with "my_max" => ((case hh => rfl); (case hf => rfl); (case hd => exact Nat.le_of_ble_eq_true rfl); (case hu => exact Nat.le_of_ble_eq_true rfl); (case F => k_asm); (case X => k_asm); (case N => k_asm)))
  (k_with "call type:collections.deque" => (k_here; k_dflt (refine' mkdq_K ?hh ?hd ?hu ?hf ?F ?X ?N ?_; walk_at "my_max"; k_whole; intro a'_q h'_q tk'_q F'_q N'_q ne'_q; dsimp only [AllNe] at ne'_q; (try k_sweep))))
  (k_with "call ref" => (k_here; k_dflt ((show wpAny _ _ (call (Value.ref 655) _) _ _ _); refine' (mkio_c _ _ _ ?hx_h _).use ?hh ?hd ?hu ?hf ?hg ?B ?F ?X ?N ?T ?K ?_; (case hx_h => assumption); walk_at "my_use"; k_whole; rintro _ _ h'_q tk'_q ⟨so'_q, dx'_q, g1'_q, g2'_q, g3'_q, k1'_q, k2'_q, k3'_q, v1'_q, v3'_q, nl'_q, e1'_q, e2'_q, z1'_q, ne1'_q, ne2'_q⟩ F'_q N'_q; subst e1'_q; subst e2'_q; dsimp only [AllNe] at ne1'_q ne2'_q; have r2' := allNe_to ne2'_q.2.2; (try k_sweep))))
  trivial
noncomputable abbrev gl (l : List Int) (i : Nat) : Int := l.getD i 0
noncomputable abbrev kl (l : List Nat) (i : Nat) : Nat := l.getD i 0
noncomputable abbrev lexDict1 (g : Nat → Int) (k u : Nat → Tok) (so pb fs : Addr) (wc : Str) (st : Value) (ln : Int) (tok cm ws : Value) : Obj := dictOf [⟨g 0, .str "instream" (k 0), .ref so⟩, ⟨g 1, .str "infile" (k 1), .none⟩, ⟨g 2, .str "posix" (k 2), .bool true⟩,
  ⟨g 3, .str "eof" (k 3), .none⟩, ⟨g 4, .str "commenters" (k 4), cm⟩, ⟨g 5, .str "wordchars" (k 5), .str wc (u 5)⟩, ⟨g 6, .str "whitespace" (k 6), .str " \t\r\n" (u 6)⟩, ⟨g 7, .str "whitespace_split" (k 7), ws⟩,
  ⟨g 8, .str "quotes" (k 8), .str "'\"" (u 8)⟩, ⟨g 9, .str "escape" (k 9), .str "\\" (u 9)⟩, ⟨g 10, .str "escapedquotes" (k 10), .str "\"" (u 10)⟩, ⟨g 11, .str "state" (k 11), st⟩, ⟨g 12, .str "pushback" (k 12), .ref pb⟩,
  ⟨g 13, .str "lineno" (k 13), .int ln (u 13)⟩, ⟨g 14, .str "debug" (k 14), .int 0 (u 14)⟩, ⟨g 15, .str "token" (k 15), tok⟩, ⟨g 16, .str "filestack" (k 16), .ref fs⟩, ⟨g 17, .str "source" (k 17), .none⟩, ⟨g 18, .str "_punctuation_chars" (k 18), .str "" (u 18)⟩] 19
noncomputable def LX1_s : {P : World → (List (Addr × Obj)) → Str → Tok → Program → (List Str) → (ExcName → Option Value) → (Str → Option Value) → (Str → Option Value) → (Option (List Code)) → Str → Scope → Addr → Value → (List (Str × Addr)) → (List Env) → Around → Heap → Heap → Addr → (Str → Option Value) → Shared → (Value → Shared → Prop) → (Value → Shared → Prop) → Addr → Addr → Heap → Heap → Addr → Heap → Prop // (∀ w R x t pp ll mean mg mb gd cn cs a ccd cl outer A₀ base h₀ L m s Q E xo dl h1 g'_q L'_q h'_q, P w R x t pp ll mean mg mb gd cn cs a ccd cl outer A₀ base h₀ L m s Q E xo dl h1 g'_q L'_q h'_q) → (∀ (w : World) (R : List (Addr × Obj)) (x : Str) (t : Tok) (hx : x.length ≤ 1000) (pp : Program) (ll : List Str) (mean : ExcName → Option Value) (mg mb : Str → Option Value) (gd : Option (List Code)) (cn : Str) (cs : Scope) (a : Addr) (ccd : Value) (cl : List (Str × Addr)) (outer : List Env) (A₀ : Around) (base h₀ : Heap) (L : Addr) (m : Str → Option Value) (s : Shared) (Q E : Value → Shared → Prop) (B : Below A₀ base outer h₀) (F : Fr h₀ L s.heap m) (X : (hd.heap_1 w.params).In h₀) (N : News h₀ L s.heap R) (T : Top pp ll mean mg mb h₀) (K : cs.kind = .function) (hret : ∀ (xo dl so dx pb fs : Addr) (g1 g2 g3 : Int) (k1 k2 k3 v1 v3 : Tok) (nl : Value) (gs : List Int) (ks us : List Nat) (wc : Str) (t1 t2 t3 : Tok) (h' : Heap) (tk' : Nat), wc = Str.ofString "abcdfeghijklmnopqrstuvwxyzABCDEFGHIJKLMNOPQRSTUVWXYZ0123456789_" ++ Str.ofString "ßàáâãäåæçèéêëìíîïðñòóôõöøùúûüýþÿÀÁÂÃÄÅÆÇÈÉÊËÌÍÎÏÐÑÒÓÔÕÖØÙÚÛÜÝÞ" →
      Fr h₀ L h' m → News h₀ L h' ((fs, dqObj) :: (pb, dqObj) :: (so, ioObj dx) :: (dx, ioDict g1 g2 g3 k1 k2 k3 v1 v3 nl x 0) :: (xo, instObj 790 dl) :: (dl, lexDict1 (gl gs) (kl ks) (kl us) so pb fs wc (.str " " t1) 1 (.str "" t2) (.str "#" t3) (.bool false)) :: R) →
      so ≠ dx → dl ≠ dx → xo ≠ dx → (∀ q ∈ (fs, dqObj) :: (pb, dqObj) :: R, q.1 ≠ dx) → so ≠ dl → xo ≠ dl → (∀ q ∈ (fs, dqObj) :: (pb, dqObj) :: R, q.1 ≠ dl) → Q (.ref xo) { s with heap := h', toks := tk' }), wpAny (model PySem.Challenge.pw_ij0186_01 w) (ktrTop 450 2500 gd cn cs L a ccd cl outer) (call (.ref 790) [.str x t] [(Str.ofString "posix", .bool true)]) Q E s)} := by
  refine' ⟨_, fun HC1 => ?hcut⟩
  case hcut =>
    intro w R x t hx pp ll mean mg mb gd cn cs a ccd cl outer A₀ base h₀ L m s Q E B F X N T K hret
    k_dflt (refine' call_cls ?k1 ?k2 ?k3 ?k4 ?k5 ?k6 ?_; (case k1 => k_asm); (case k2 => k_asm); (case k3 => k_asm); (case k4 => k_is); (case k5 => k_is); (case k6 => k_is); k_whole)
    intro xo dl h1 F1 N1 l1 l2
    have l2' : @LT.lt Nat _ dl xo := l2
    k_dflt (refine' code_def5 ?k1 ?k2 ?k3 ?k4 ?k5 ?kA ?kF ?kK ?k6 ?k7 ?k8 ?k9 ?kB ?_ ?c2 ?c3 ?c4 ?c5; walk_at "my_entered")
    walk_at "my_in"
    have n1 : ∀ q ∈ R, q.1 ≠ dl := fun q hq => Nat.ne_of_lt (l1 q hq)
    revert hx B F X N T K hret F1 N1 l1 l2 l2' FG'_q F'_q N'_q B'_q X'_q T'_q n1
    exact HC1 w R x t pp ll mean mg mb gd cn cs a ccd cl outer A₀ base h₀ L m s Q E xo dl h1 g'_q L'_q h'_q
@[irreducible] noncomputable def LX1_e : (World × (List (Addr × Obj)) × Str × Tok × Program × (List Str) × (ExcName → Option Value) × (Str → Option Value)) × ((Str → Option Value) × (Option (List Code)) × Str × Scope × Addr × Value × (List (Str × Addr)) × (List Env)) × (Around × Heap × Heap × Addr × (Str → Option Value) × Shared × (Value → Shared → Prop) × (Value → Shared → Prop)) × (Addr × Addr × Heap × Heap × Addr × Heap) := Ep (by first | infer_instance | (repeat' (first | exact neW | exact neA | exact neS | infer_instance | refine neP ?_ ?_ | (refine ⟨?_⟩; constructor <;> exact default) | (refine ⟨?_⟩; constructor)))) fun x => LX1_s.1 x.1.1 x.1.2.1 x.1.2.2.1 x.1.2.2.2.1 x.1.2.2.2.2.1 x.1.2.2.2.2.2.1 x.1.2.2.2.2.2.2.1 x.1.2.2.2.2.2.2.2 x.2.1.1 x.2.1.2.1 x.2.1.2.2.1 x.2.1.2.2.2.1 x.2.1.2.2.2.2.1 x.2.1.2.2.2.2.2.1 x.2.1.2.2.2.2.2.2.1 x.2.1.2.2.2.2.2.2.2 x.2.2.1.1 x.2.2.1.2.1 x.2.2.1.2.2.1 x.2.2.1.2.2.2.1 x.2.2.1.2.2.2.2.1 x.2.2.1.2.2.2.2.2.1 x.2.2.1.2.2.2.2.2.2.1 x.2.2.1.2.2.2.2.2.2.2 x.2.2.2.1 x.2.2.2.2.1 x.2.2.2.2.2.1 x.2.2.2.2.2.2.1 x.2.2.2.2.2.2.2.1 x.2.2.2.2.2.2.2.2
namespace LX1
noncomputable section
 @[irreducible] def w := LX1_e.1.1
 @[irreducible] def R := LX1_e.1.2.1
 @[irreducible] def x := LX1_e.1.2.2.1
 @[irreducible] def t := LX1_e.1.2.2.2.1
 @[irreducible] def pp := LX1_e.1.2.2.2.2.1
 @[irreducible] def ll := LX1_e.1.2.2.2.2.2.1
 @[irreducible] def mean := LX1_e.1.2.2.2.2.2.2.1
 @[irreducible] def mg := LX1_e.1.2.2.2.2.2.2.2
 @[irreducible] def mb := LX1_e.2.1.1
 @[irreducible] def gd := LX1_e.2.1.2.1
 @[irreducible] def cn := LX1_e.2.1.2.2.1
 @[irreducible] def cs := LX1_e.2.1.2.2.2.1
 @[irreducible] def a := LX1_e.2.1.2.2.2.2.1
 @[irreducible] def ccd := LX1_e.2.1.2.2.2.2.2.1
 @[irreducible] def cl := LX1_e.2.1.2.2.2.2.2.2.1
 @[irreducible] def outer := LX1_e.2.1.2.2.2.2.2.2.2
 @[irreducible] def A₀ := LX1_e.2.2.1.1
 @[irreducible] def base := LX1_e.2.2.1.2.1
 @[irreducible] def h₀ := LX1_e.2.2.1.2.2.1
 @[irreducible] def L := LX1_e.2.2.1.2.2.2.1
 @[irreducible] def m := LX1_e.2.2.1.2.2.2.2.1
 @[irreducible] def s := LX1_e.2.2.1.2.2.2.2.2.1
 @[irreducible] def Q := LX1_e.2.2.1.2.2.2.2.2.2.1
 @[irreducible] def E := LX1_e.2.2.1.2.2.2.2.2.2.2
 @[irreducible] def xo := LX1_e.2.2.2.1
 @[irreducible] def dl := LX1_e.2.2.2.2.1
 @[irreducible] def h1 := LX1_e.2.2.2.2.2.1
 @[irreducible] def g'_q := LX1_e.2.2.2.2.2.2.1
 @[irreducible] def L'_q := LX1_e.2.2.2.2.2.2.2.1
 @[irreducible] def h'_q := LX1_e.2.2.2.2.2.2.2.2
end
end LX1
section
open LX1
theorem LX1_b : LX1_s.1 LX1.w LX1.R LX1.x LX1.t LX1.pp LX1.ll LX1.mean LX1.mg LX1.mb LX1.gd LX1.cn LX1.cs LX1.a LX1.ccd LX1.cl LX1.outer LX1.A₀ LX1.base LX1.h₀ LX1.L LX1.m LX1.s LX1.Q LX1.E LX1.xo LX1.dl LX1.h1 LX1.g'_q LX1.L'_q LX1.h'_q := by
  intro hx B F X N T K hret F1 N1 l1 l2 l2' FG'_q F'_q N'_q B'_q X'_q T'_q n1
  repeat' walk_at "my_step"
  refine hret xo dl _ _ _ _ _ _ _ _ _ _ _ _ _ [_, _, _, _, _, _, _, _, _, _, _, _, _, _, _, _, _, _, _] [_, _, _, _, _, _, _, _, _, _, _, _, _, _, _, _, _, _, _] [0, 0, 0, 0, 0, _, _, 0, _, _, _, 0, 0, _, _, 0, 0, 0, _] _ _ _ _ _ _ rfl (by k_asm) (by k_asm) ?_ ?_ ?_ ?_ ?_ ?_ ?_
  · walk_at "my_ne"
  · walk_at "my_ne"
  · walk_at "my_ne"
  · walk_at "my_apart"
  · walk_at "my_ne"
  · walk_at "my_ne"
  · walk_at "my_apart"

end
theorem mklex_K (w : World) (R : List (Addr × Obj)) (x : Str) (t : Tok) (hx : x.length ≤ 1000) (pp : Program) (ll : List Str) (mean : ExcName → Option Value) (mg mb : Str → Option Value) (gd : Option (List Code)) (cn : Str) (cs : Scope) (a : Addr) (ccd : Value) (cl : List (Str × Addr)) (outer : List Env) (A₀ : Around) (base h₀ : Heap) (L : Addr) (m : Str → Option Value) (s : Shared)
    (Q E : Value → Shared → Prop)
    (B : Below A₀ base outer h₀) (F : Fr h₀ L s.heap m) (X : (hd.heap_1 w.params).In h₀) (N : News h₀ L s.heap R) (T : Top pp ll mean mg mb h₀) (K : cs.kind = .function)
    (hret : ∀ (xo dl so dx pb fs : Addr) (g1 g2 g3 : Int) (k1 k2 k3 v1 v3 : Tok) (nl : Value) (gs : List Int) (ks us : List Nat) (wc : Str) (t1 t2 t3 : Tok) (h' : Heap) (tk' : Nat), wc = Str.ofString "abcdfeghijklmnopqrstuvwxyzABCDEFGHIJKLMNOPQRSTUVWXYZ0123456789_" ++ Str.ofString "ßàáâãäåæçèéêëìíîïðñòóôõöøùúûüýþÿÀÁÂÃÄÅÆÇÈÉÊËÌÍÎÏÐÑÒÓÔÕÖØÙÚÛÜÝÞ" →
      Fr h₀ L h' m → News h₀ L h' ((fs, dqObj) :: (pb, dqObj) :: (so, ioObj dx) :: (dx, ioDict g1 g2 g3 k1 k2 k3 v1 v3 nl x 0) :: (xo, instObj 790 dl) :: (dl, lexDict1 (gl gs) (kl ks) (kl us) so pb fs wc (.str " " t1) 1 (.str "" t2) (.str "#" t3) (.bool false)) :: R) →
      so ≠ dx → dl ≠ dx → xo ≠ dx → (∀ q ∈ (fs, dqObj) :: (pb, dqObj) :: R, q.1 ≠ dx) → so ≠ dl → xo ≠ dl → (∀ q ∈ (fs, dqObj) :: (pb, dqObj) :: R, q.1 ≠ dl) → Q (.ref xo) { s with heap := h', toks := tk' }) :
    wpAny (model PySem.Challenge.pw_ij0186_01 w) (ktrTop 450 2500 gd cn cs L a ccd cl outer) (call (.ref 790) [.str x t] [(Str.ofString "posix", .bool true)]) Q E s := by
  exact LX1_s.2 (fun w R x t pp ll mean mg mb gd cn cs a ccd cl outer A₀ base h₀ L m s Q E xo dl h1 g'_q L'_q h'_q => ep_all _ (P := fun x => LX1_s.1 x.1.1 x.1.2.1 x.1.2.2.1 x.1.2.2.2.1 x.1.2.2.2.2.1 x.1.2.2.2.2.2.1 x.1.2.2.2.2.2.2.1 x.1.2.2.2.2.2.2.2 x.2.1.1 x.2.1.2.1 x.2.1.2.2.1 x.2.1.2.2.2.1 x.2.1.2.2.2.2.1 x.2.1.2.2.2.2.2.1 x.2.1.2.2.2.2.2.2.1 x.2.1.2.2.2.2.2.2.2 x.2.2.1.1 x.2.2.1.2.1 x.2.2.1.2.2.1 x.2.2.1.2.2.2.1 x.2.2.1.2.2.2.2.1 x.2.2.1.2.2.2.2.2.1 x.2.2.1.2.2.2.2.2.2.1 x.2.2.1.2.2.2.2.2.2.2 x.2.2.2.1 x.2.2.2.2.1 x.2.2.2.2.2.1 x.2.2.2.2.2.2.1 x.2.2.2.2.2.2.2.1 x.2.2.2.2.2.2.2.2) (by with_unfolding_all exact LX1_b) ((w, R, x, t, pp, ll, mean, mg), (mb, gd, cn, cs, a, ccd, cl, outer), (A₀, base, h₀, L, m, s, Q, E), (xo, dl, h1, g'_q, L'_q, h'_q))) w R x t hx pp ll mean mg mb gd cn cs a ccd cl outer A₀ base h₀ L m s Q E B F X N T K hret

end
section
theorem code_open3 {prog : Program} {w : World} {A A₀ : Around} {s : Shared} {K : Frag} {L : Addr} {h₀ base : Heap} {m mg mb : Str → Option Value} {news : List (Addr × Obj)} {p : Program} {loose : List Str} {mean : ExcName → Option Value} {env : Env} {outer : List Env} {R : Result → Shared → Prop} {name qual : Str} {params : Arguments} {body : List Stmt} {scope : Scope} {dV kV doc pm cdv ct oc : Value} {an od : Option Addr} {osl : Array (Option Value)} {f : Addr} {args : Args} {a1 a2 a3 : Str} {v1 v2 v3 : Value}
    (B : Below A₀ base outer h₀) (F : Fr h₀ L s.heap m) (X₀ : K.In h₀) (N : News h₀ L s.heap news) (T : Top p loose mean mg mb h₀) (hA : A.frames = some (env :: outer)) (hf : env.frame = some L) (hke : env.scope.kind = .function)
    (ho : K.lookup f = some ⟨oc, od, .func (fnOf name qual params body scope dV kV doc pm an cdv ct), osl⟩) (hcd : codeIn K cdv qual = true) (hroom : A.depth < recursionLimit)
    (hbind : BindsTo s (fnOf name qual params body scope dV kV doc pm an cdv ct) args [(a1, v1), (a2, v2), (a3, v3)]) (hloc : ∀ y ∈ [(a1, v1), (a2, v2), (a3, v3)], scope.names.lookup y.1 = some .local)
    (h : ∀ g L' h₁, Fr h₀ L g m → Fr g L' h₁ (fun y => if y = a3 then some v3 else if y = a2 then some v2 else if y = a1 then some v1 else none) → News g L' h₁ news → Below A base (env :: outer) g → K.In g → Top p loose mean mg mb g →
      wpAny (model prog w) (A.deeper (envOf qual scope L' f cdv)) (execs body (envOf qual scope L' f cdv))
        (fun fl s' => R (.ok (.ret (match fl with | .ret v => v | _ => .none))) s')
        (fun e s' => wpAny (model prog w) (A.deeper (envOf qual scope L' f cdv)) (leaving (envOf qual scope L' f cdv) e) (fun _ s'' => R (.error e) s'') (fun e' s'' => R (.error e') s'') s')
        { s with heap := h₁, toks := s.toks + 3 })
    (hco : scope.isCoroutine = false) (hgen : scope.isGenerator = false) (hk : scope.kind = .function)
    (hcell : ∀ x ∈ scope.names, x.2 ≠ .cell) : codeAny (model prog w) A (.call (.ref f) args) R s := by
  obtain ⟨FG, BG, st, _⟩ := groundX (R := R) B F N hA hf hke
  refine codeAny_call_def (fd := fnOf name qual params body scope dV kV doc pm an cdv ct) (body := body) hroom ((X₀.keeps F.keep) _ _ ho) rfl (T.nolimit.keeps F.keep) (codeRec_of (X₀.keeps F.keep) hcd) rfl hbind hcell hloc (fun h₁ hns hk₁ => ?_) hco hgen hk
  refine h _ s.heap.objs.size h₁ FG ⟨?_, fun b o e => hk₁ b o (of_hideAll _ e), Nat.le_of_eq (hideAll_size _ _)⟩
    (fun p hp => ⟨hk₁ _ _ (N p hp).1, Nat.ne_of_lt (Heap.lt_size (N p hp).1), hideAll_none _ (List.mem_map_of_mem hp)⟩) BG (X₀.keeps st) (T.keeps st)
  rw [look3_eq] at hns
  exact hns
theorem mklex_use (w : World) (R : List (Addr × Obj)) (x : Str) (t : Tok) (hx : x.length ≤ 1000) {pp : Program} {ll : List Str} {mean : ExcName → Option Value} {mg mb : Str → Option Value} {gd : Option (List Code)} {cn : Str} {cs : Scope} {a : Addr} {ccd : Value} {cl : List (Str × Addr)} {outer : List Env} {A₀ A : Around} {base h₀ : Heap} {L : Addr} {m : Str → Option Value} {s : Shared}
    {Q E : Value → Shared → Prop} (hh : A.handled = none) (hdp : A.depth ≤ 450) (hu : A.units ≤ 2500) (hf : A.frames = some (envX cn cs L a ccd cl :: outer)) (hg : A.guards = gd)
    (B : Below A₀ base outer h₀) (F : Fr h₀ L s.heap m) (X : (hd.heap_1 w.params).In h₀) (N : News h₀ L s.heap R) (T : Top pp ll mean mg mb h₀) (K : cs.kind = .function)
    (hret : ∀ (xo dl so dx pb fs : Addr) (g1 g2 g3 : Int) (k1 k2 k3 v1 v3 : Tok) (nl : Value) (gs : List Int) (ks us : List Nat) (wc : Str) (t1 t2 t3 : Tok) (h' : Heap) (tk' : Nat), wc = Str.ofString "abcdfeghijklmnopqrstuvwxyzABCDEFGHIJKLMNOPQRSTUVWXYZ0123456789_" ++ Str.ofString "ßàáâãäåæçèéêëìíîïðñòóôõöøùúûüýþÿÀÁÂÃÄÅÆÇÈÉÊËÌÍÎÏÐÑÒÓÔÕÖØÙÚÛÜÝÞ" →
      Fr h₀ L h' m → News h₀ L h' ((fs, dqObj) :: (pb, dqObj) :: (so, ioObj dx) :: (dx, ioDict g1 g2 g3 k1 k2 k3 v1 v3 nl x 0) :: (xo, instObj 790 dl) :: (dl, lexDict1 (gl gs) (kl ks) (kl us) so pb fs wc (.str " " t1) 1 (.str "" t2) (.str "#" t3) (.bool false)) :: R) →
      so ≠ dx → dl ≠ dx → xo ≠ dx → (∀ q ∈ (fs, dqObj) :: (pb, dqObj) :: R, q.1 ≠ dx) → so ≠ dl → xo ≠ dl → (∀ q ∈ (fs, dqObj) :: (pb, dqObj) :: R, q.1 ≠ dl) → Q (.ref xo) { s with heap := h', toks := tk' }) :
    wpAny (model PySem.Challenge.pw_ij0186_01 w) A (call (.ref 790) [.str x t] [(Str.ofString "posix", .bool true)]) Q E s :=
  weaken (A' := ktrTop 450 2500 gd cn cs L a ccd cl outer) hh hdp hu hf.symm hg.symm (mklex_K w R x t hx pp ll mean mg mb gd cn cs a ccd cl outer A₀ base h₀ L m s Q E B F X N T K hret)
example : True := by
  (k_with "k_inst" => (refine' InstAt.of_news ?N_h ?h1_h ?h2_h; (case N_h => k_asm); (case h1_h => k_mem); (case h2_h => k_mem)))
  (k_with "my_step" => (first | (k_unfold; (try dsimp only)) | walk1 | (dsimp only; walk1) | (leave1; try dsimp only)))
  (k_with "my_apart" => first | assumption | (refine List.forall_mem_cons.mpr ⟨?_, ?_⟩; (first | assumption | k_ne); (walk_at "my_apart")))
  (k_with "my_upd" => first | (refine' Upd.head ?a_h; (case a_h => walk_at "my_apart")) | (refine' Upd.tail ?a_h ?b_h; (case a_h => first | assumption | k_ne); (case b_h => walk_at "my_upd")))
  (k_with "setAttr ref" => (k_here; k_dflt (refine' set_dict ?k1_h ?k2_h ?k3_h ?k4_h ?k5_h ?k6_h ?k7_h ?k8_h ?k9_h ?k10_h ?k11_h ?k12_h ?k13_h ?_; (case k1_h => k_asm); (case k2_h => k_asm); (case k3_h => k_asm); (case k4_h => k_inst); (case k5_h => exact rfl); (case k6_h => k_is); (case k7_h => k_is); (case k8_h => k_is); (case k9_h => k_is); (case k10_h => k_get); (case k11_h => k_put); (case k12_h => walk_at "my_upd"); (case k13_h => exact Nat.le_of_ble_eq_true rfl); k_whole); intro h'_q F'_q N'_q; (try k_sweep)))
  trivial
theorem perm6 {h h' : Heap} {L : Addr} {f p s d x e : Addr × Obj} {R : List (Addr × Obj)} (N : News h L h' (f :: p :: s :: d :: x :: e :: R)) : News h L h' (d :: s :: e :: x :: f :: p :: R) := by
  intro q hq
  apply N
  rcases List.mem_cons.mp hq with rfl | hq
  · exact .tail _ (.tail _ (.tail _ (.head _)))
  rcases List.mem_cons.mp hq with rfl | hq
  · exact .tail _ (.tail _ (.head _))
  rcases List.mem_cons.mp hq with rfl | hq
  · exact .tail _ (.tail _ (.tail _ (.tail _ (.tail _ (.head _)))))
  rcases List.mem_cons.mp hq with rfl | hq
  · exact .tail _ (.tail _ (.tail _ (.tail _ (.head _))))
  rcases List.mem_cons.mp hq with rfl | hq
  · exact .head _
  rcases List.mem_cons.mp hq with rfl | hq
  · exact .tail _ (.head _)
  · exact .tail _ (.tail _ (.tail _ (.tail _ (.tail _ (.tail _ hq)))))
theorem w0_eq : Str.ofString "abcdfeghijklmnopqrstuvwxyzABCDEFGHIJKLMNOPQRSTUVWXYZ0123456789_" ++ Str.ofString "ßàáâãäåæçèéêëìíîïðñòóôõöøùúûüýþÿÀÁÂÃÄÅÆÇÈÉÊËÌÍÎÏÐÑÒÓÔÕÖØÙÚÛÜÝÞ" = W0 := by decide +kernel
theorem split_go (w : World) (R : List (Addr × Obj)) (l : List Nat) (hl : l.length ≤ 1000) (ts : List (List Nat)) (hx : Lexes false l ts) (hts : ts.length ≤ 1000) (t : Tok) (pp : Program) (ll : List Str) (mean : ExcName → Option Value) (mg mb : Str → Option Value) (gd : Option (List Code)) (cn : Str) (cs : Scope) (a : Addr) (ccd : Value) (cl : List (Str × Addr)) (outer : List Env) (A₀ : Around) (h₀ : Heap) (L : Addr) (m : Str → Option Value) (s : Shared)
    (Q E : Value → Shared → Prop)
    (B : Below A₀ h₀ outer h₀) (F : Fr h₀ L s.heap m) (X : (hd.heap_1 w.params).In h₀) (N : News h₀ L s.heap R) (T : Top pp ll mean mg mb h₀) (K : cs.kind = .function)
    (hret : ∀ S vs c' h' tk', IsTxts vs ts → Fr h₀ L h' m → News h₀ L h' ((S, listOf vs.toArray c') :: R) → Q (.ref S) { s with heap := h', toks := tk' }) :
    wpAny (model PySem.Challenge.pw_ij0186_01 w) (ktrTop 400 2000 gd cn cs L a ccd cl outer) (call (.ref 802) [.str (tx l) t]) Q E s := by
  have hx1 : (tx l).length ≤ 1000 := (tx_len l).symm ▸ hl
  refine wpAny_call ?_
  k_dflt (refine' code_open3 ?k1 ?k2 ?k3 ?k4 ?k5 ?kA ?kF ?kK ?k6 ?k7 ?k8 ?k9 ?kB ?_ ?c2 ?c3 ?c4 ?c5; walk_at "my_entered")
  intro g L' h₁ FG F' N' BB X' T'
  dsimp only at F' ⊢
  repeat (first | (fail_if_success (with_reducible show wpAny _ _ (call (Value.ref 790) _ _) _ _ _)); walk_at "my_step")
  k_dflt (refine' mklex_use w R (tx l) _ hx1 ?hh ?hd ?hu ?hf ?hg ?B ?F ?X ?N ?T ?K ?_; walk_at "my_use")
  intro xo dl so dx pb fs g1 g2 g3 k1 k2 k3 v1 v3 nl gs ks us wc t1 t2 t3 h₂ tk₂ hwc F₂ N₂ a1 a2 a3 a4 b2 b3 b4
  have q1 : fs ≠ dl := b4 _ (.head _)
  have q2 : pb ≠ dl := b4 _ (.tail _ (.head _))
  have q3 : ∀ q ∈ R, q.1 ≠ dl := fun q hq => b4 q (.tail _ (.tail _ hq))
  have b1 : dx ≠ dl := Ne.symm a2
  have ew : wc = W0 := hwc.trans w0_eq
  clear hwc
  subst ew
  repeat (first | (fail_if_success (with_reducible show wpAny _ _ (call (Value.type "list") _) _ _ _)); walk_at "my_step")
  rename News g L' _ _ => N8
  rename Fr g L' _ _ => F8
  have N9 := perm6 N8
  refine weaken (A' := ktrTop 450 2500 gd _ _ L' 802 (.ref 801) [] (envX cn cs L a ccd cl :: outer)) rfl (Nat.le_of_ble_eq_true rfl) (Nat.le_of_ble_eq_true rfl) rfl rfl ?_
  refine list_lex w ((fs, dqObj) :: (pb, dqObj) :: R) l hl so dx dl xo pb fs g1 g2 g3 k1 k2 k3 v1 v3 nl (gl gs) (kl ks) (fun i => if i = 4 then _ else kl us i) 1 a1 a2 a3 a4 b1 b2 b3 b4 (.tail _ (.head _)) (.head _) pp ll mean mg mb gd _ _ 802 (.ref 801) (envX cn cs L a ccd cl :: outer) _ h₀ g L' _
    (Nat.le_trans F.above (Nat.le_trans (Nat.le_of_lt FG.ns.lt) F8.above)) _ _ BB X' T' rfl hx t1 t2 _ hts F8 N9 fun S vs c' p' st tv t4 gm h' tk' i1 i2 i3 i4 i5 i6 => ?_
  have fin : ∀ q : Addr × Obj, (h'.get? q.1 = some q.2 ∧ q.1 ≠ L' ∧ h₀.get? q.1 = none) → g.get? q.1 = none → (h'.get? q.1 = some q.2 ∧ q.1 ≠ L ∧ h₀.get? q.1 = none) := fun q z5 z6 => ⟨z5.1, fun e => (by
    obtain ⟨o, _, _, ho, _⟩ := FG.ns
    rw [e, ho] at z6
    cases z6), z5.2.2⟩
  refine hret S vs c' h' tk' i1 ⟨i3.ns (FG.ns.keeps i2.keep), i4, F.above⟩ fun q hq => ?_
  rcases List.mem_cons.mp hq with rfl | hq
  · exact fin _ (i5 _ (.tail _ (.tail _ (.tail _ (.tail _ (.head _)))))) (i6 _ (.tail _ (.tail _ (.tail _ (.tail _ (.head _))))))
  · exact fin _ (i5 _ (.tail _ (.tail _ (.tail _ (.tail _ (.tail _ (.tail _ (.tail _ hq)))))))) (i6 _ (.tail _ (.tail _ (.tail _ (.tail _ (.tail _ (.tail _ (.tail _ hq))))))))

end
end
section
example : True := by
  k_with_none
  trivial
section
open PySem.W.X
noncomputable abbrev keyObj (c3 dd : Addr) (x : Str) (t : Tok) : Obj := ⟨.ref c3, some dd, .plain, #[some (.str x t)]⟩
noncomputable abbrev tupObj (k : Addr) (x : Str) (t : Tok) : Obj := ⟨.type "tuple", none, .seq #[.ref k, .str x t] 0, #[]⟩
theorem mem_key {p : Addr × Obj} {a c3 dd : Addr} {x : Str} {t : Tok} {sl : Array (Option Value)} {l : List (Addr × Obj)} (h : sl = #[some (.str x t)]) : ∃ dd', (a, keyObj c3 dd' x t) ∈ p :: (a, (⟨.ref c3, some dd, .plain, sl⟩ : Obj)) :: l := by subst h; exact ⟨_, .tail _ (.head _)⟩
section
example : True := by
  (k_with "x_close" => (refine' ⟨_, _, _, _, rfl, rfl, ?D_h, ?m_h⟩; (case D_h => assumption); (case m_h => refine mem_key ?_; kernel_rfl)))
  trivial
theorem mkkey_x (prog : Program) (w : World) (fr : List Env) (s : Shared) (X : (hd.heap_1 w.params).In s.heap) (c3 : Addr) (t : Tok) (c2 c4 a2 a3 a10 a11 a12 a13 a14 a15 a16 a17 a18 a19 a20 a21 a22 a23 a24 a25 a33 a34 a35 a36 a37 a38 a39 a40 a41 a49 a57 a58 : Addr) (g12 g13 : Int) (k12 k13 t3 : Tok) (r_c3 : s.heap.get? c3 = some (clsO c3 c2 a3 t (t + 9))) (r_c2 : s.heap.get? c2 = some (nsO c4 a10 a58 a17 a25 a33 a41 a49 a57 (t + 13) (t + 11) (t + 8) (t + 12) (t + 16) (t + 24) (t + 33) (t + 42) (t + 51) (t + 60) (t + 69) (t + 70) (t + 72) k12 k13 (hashX w "__module__") (hashX w "__firstlineno__") (hashR w "__slots__") (hashR w "__init__") (hashR w "__lt__") (hashR w "__gt__") (hashR w "__eq__") (hashR w "__le__") (hashR w "__ge__") (hashR w "__hash__") (hashX w "__static_attributes__") g12 g13)) (r_c4 : s.heap.get? c4 = some (mdO c3 t3)) (r_a16 : s.heap.get? a16 = some (ko16 t a11 a12 a13 a14 a15)) (r_a17 : s.heap.get? a17 = some (ko17 a16)) (x : Str) (tx : Tok) :
    wpAny (model prog w) { handled := none, depth := 700, frames := some fr, guards := none, units := 6000 } (call (.ref c3) [.str x tx]) (fun v s' => ∃ (a : Addr) (h' : Heap) (nw : List (Addr × Obj)) (tk' : Nat), v = .ref a ∧ s' = { s with heap := h', toks := tk' } ∧ Mem s.heap h' [] nw ∧ ∃ dd, (a, keyObj c3 dd x tx) ∈ nw) (fun _ _ => False) s := by
  dsimp only [clsO, nsO, mdO, ko16, ko17] at r_c3 r_c2 r_c4 r_a16 r_a17
  x_run
end
theorem attr_x (w : World) (A : Around) (s : Shared) (Q : Value → Shared → Prop) (E : Value → Shared → Prop) (X : (hd.heap_1 w.params).In s.heap) (c3 : Addr) (t : Tok) (c2 c4 a2 a3 a10 a11 a12 a13 a14 a15 a16 a17 a18 a19 a20 a21 a22 a23 a24 a25 a33 a34 a35 a36 a37 a38 a39 a40 a41 a49 a57 a58 : Addr) (g12 g13 : Int) (k12 k13 t3 : Tok) (r_c3 : s.heap.get? c3 = some (clsO c3 c2 a3 t (t + 9))) (r_c2 : s.heap.get? c2 = some (nsO c4 a10 a58 a17 a25 a33 a41 a49 a57 (t + 13) (t + 11) (t + 8) (t + 12) (t + 16) (t + 24) (t + 33) (t + 42) (t + 51) (t + 60) (t + 69) (t + 70) (t + 72) k12 k13 (hashX w "__module__") (hashX w "__firstlineno__") (hashR w "__slots__") (hashR w "__init__") (hashR w "__lt__") (hashR w "__gt__") (hashR w "__eq__") (hashR w "__le__") (hashR w "__ge__") (hashR w "__hash__") (hashX w "__static_attributes__") g12 g13)) (r_c4 : s.heap.get? c4 = some (mdO c3 t3)) (k dd : Addr) (x : Str) (tx : Tok) (q1 : s.heap.get? k = some (keyObj c3 dd x tx)) (hQ : ∀ tk, Q (.str x tx) { s with toks := tk }) :
    wpAny (model PySem.Challenge.pw_ij0186_01 w) A (getAttr (.ref k) (Str.ofString "obj") true) Q E s := by
  have D := Mem.start s.heap
  obtain ⟨h, g, d, t0, os⟩ := s
  refine sb_fresh ?_
  refine' sb_load ?ho ?_; (case ho => exact Mem.old D _ _ (by with_reducible assumption) rfl)
  refine' sb_load ?ho ?_; (case ho => exact Mem.old D _ _ (by with_reducible assumption) rfl)
  refine' sb_load ?ho ?_; (case ho => exact Mem.old D _ _ (by with_reducible assumption) rfl)
  refine' sb_load ?ho ?_; (case ho => exact Mem.old D _ _ (by with_reducible assumption) rfl)
  refine sb_callD "proto.getattr_hooked" rfl (by decide +kernel) (by intro h; cases h) ?_; refine sb_code ?_
  refine' sb_load ?ho ?_; (case ho => exact Mem.old D _ _ (by with_reducible assumption) rfl)
  refine' sb_load ?ho ?_; (case ho => exact Mem.old D _ _ (by with_reducible assumption) rfl)
  refine' sb_load ?ho ?_; (case ho => exact Mem.old D _ _ (by with_reducible assumption) rfl)
  refine' sb_load ?ho ?_; (case ho => exact Mem.old D _ _ (by with_reducible assumption) rfl)
  refine' sb_load ?ho ?_; (case ho => exact Mem.old D _ _ (by with_reducible assumption) rfl)
  refine' sb_load ?ho ?_; (case ho => exact Mem.old D _ _ (by with_reducible assumption) rfl)
  refine sb_rule ?_
  refine' sb_load ?ho ?_; (case ho => exact Mem.old D _ _ (by with_reducible assumption) rfl)
  refine' sb_load ?ho ?_; (case ho => exact Mem.old D _ _ (by with_reducible assumption) rfl)
  refine' sb_load ?ho ?_; (case ho => exact Mem.old D _ _ (by with_reducible assumption) rfl)
  refine sb_callB "member_descriptor.__get__" rfl rfl (by decide +kernel) (by intro h; cases h) ?_; refine sb_code ?_
  refine' sb_load ?ho ?_; (case ho => exact Mem.old D _ _ (by with_reducible assumption) rfl)
  refine sb_againD "member_descriptor.__get__" rfl (by decide +kernel) (by decide +kernel) ?_; refine sb_code ?_
  refine' sb_load ?ho ?_; (case ho => exact Mem.old D _ _ (by with_reducible assumption) rfl)
  refine' sb_load ?ho ?_; (case ho => exact Mem.old D _ _ (by with_reducible assumption) rfl)
  refine' sb_load ?ho ?_; (case ho => exact Mem.old D _ _ (by with_reducible assumption) rfl)
  refine' sb_load ?ho ?_; (case ho => exact Mem.old D _ _ (by with_reducible assumption) rfl)
  rw [beqH]; rotate_left; rfl
  refine sb_bind ?_
  refine sb_bind ?_
  refine sb_pure ?_
  refine sb_condF (ncont_self _ _) ?_
  refine sb_pure ?_
  refine' sb_load ?ho ?_; (case ho => exact Mem.old D _ _ (by with_reducible assumption) rfl)
  refine sb_rule ?_
  refine' sb_load ?ho ?_; (case ho => exact Mem.old D _ _ (by with_reducible assumption) rfl)
  refine sb_againD "proto.slot" rfl (by decide +kernel) (by decide +kernel) ?_; refine sb_code ?_
  refine' sb_load ?ho ?_; (case ho => exact Mem.old D _ _ (by with_reducible assumption) rfl)
  refine' sb_load ?ho ?_; (case ho => exact Mem.old D _ _ (by with_reducible assumption) rfl)
  refine' sb_load ?ho ?_; (case ho => exact Mem.old D _ _ (by with_reducible assumption) rfl)
  refine' sb_load ?ho ?_; (case ho => exact Mem.old D _ _ (by with_reducible assumption) rfl)
  refine' sb_load ?ho ?_; (case ho => exact Mem.old D _ _ (by with_reducible assumption) rfl)
  refine sb_done ?_
  refine sb_ret ?_
  refine sb_done ?_
  refine sb_ret ?_
  refine sb_keep ?_
  refine sb_bind ?_
  refine sb_pure ?_
  exact sb_endv (hQ _)
section
variable {w : World} {A : Around} {E : Value → Shared → Prop} {s : Shared} {h₀ : Heap} {L : Addr} {m : Str → Option Value} {news KR : List (Addr × Obj)} {fr : List Env} {c3 : Addr}
theorem mkkey_K {Q : Value → Shared → Prop} (hh : A.handled = none) (hdp : A.depth ≤ 700) (hu : A.units ≤ 6000) (hf : A.frames = some fr) (F : Fr h₀ L s.heap m) (X : (hd.heap_1 w.params).In h₀) (N : News h₀ L s.heap news) (hK : KIn w KR c3) (hKR : ∀ p ∈ KR, p ∈ news) (x : Str) (tx : Tok)
    (h : ∀ a dd h' tk', Fr h₀ L h' m → News h₀ L h' ((a, keyObj c3 dd x tx) :: news) → AllNe a news → Q (.ref a) { s with heap := h', toks := tk' }) :
    wpAny (model PySem.Challenge.pw_ij0186_01 w) A (call (.ref c3) [.str x tx]) Q E s := by
  obtain ⟨t, c2, c4, a2, a3, a10, a11, a12, a13, a14, a15, a16, a17, a18, a19, a20, a21, a22, a23, a24, a25, a33, a34, a35, a36, a37, a38, a39, a40, a41, a49, a57, a58, g12, g13, k12, k13, t3⟩ := hK
  have r_c3 := (N _ (hKR _ (List.mem_of_getElem? (i := 0) rfl))).1
  have r_c2 := (N _ (hKR _ (List.mem_of_getElem? (i := 1) rfl))).1
  have r_c4 := (N _ (hKR _ (List.mem_of_getElem? (i := 2) rfl))).1
  have r_a16 := (N _ (hKR _ (List.mem_of_getElem? (i := 9) rfl))).1
  have r_a17 := (N _ (hKR _ (List.mem_of_getElem? (i := 10) rfl))).1
  refine weaken3 (A' := { handled := none, depth := 700, frames := some fr, guards := none, units := 6000 }) hh hdp hu hf.symm rfl (wpAny_mono (mkkey_x _ w fr s (X.keeps F.keep) c3 t c2 c4 a2 a3 a10 a11 a12 a13 a14 a15 a16 a17 a18 a19 a20 a21 a22 a23 a24 a25 a33 a34 a35 a36 a37 a38 a39 a40 a41 a49 a57 a58 g12 g13 k12 k13 t3 r_c3 r_c2 r_c4 r_a16 r_a17 x tx) (fun v s' z => ?_) fun _ _ z => z.elim)
  obtain ⟨a, h', nw, tk', rfl, rfl, D, dd, hm⟩ := z
  refine h a dd h' tk' (mem_fr D F) (fun p hp => ?_) (allNe_of fun p hp => Ne.symm (mem_ne D N hm hp))
  rcases List.mem_cons.mp hp with rfl | hp
  · exact mem_news D F N _ (List.mem_append_left _ hm)
  · exact mem_news D F N _ (List.mem_append_right _ hp)
theorem attr_K {Q : Value → Shared → Prop} (F : Fr h₀ L s.heap m) (X : (hd.heap_1 w.params).In h₀) (N : News h₀ L s.heap news) (hK : KIn w KR c3) (hKR : ∀ p ∈ KR, p ∈ news) {k dd : Addr} {x : Str} {tx : Tok} (hk : (k, keyObj c3 dd x tx) ∈ news) (hQ : ∀ tk, Q (.str x tx) { s with toks := tk }) :
    wpAny (model PySem.Challenge.pw_ij0186_01 w) A (getAttr (.ref k) (Str.ofString "obj") true) Q E s := by
  obtain ⟨t, c2, c4, a2, a3, a10, a11, a12, a13, a14, a15, a16, a17, a18, a19, a20, a21, a22, a23, a24, a25, a33, a34, a35, a36, a37, a38, a39, a40, a41, a49, a57, a58, g12, g13, k12, k13, t3⟩ := hK
  have r_c3 := (N _ (hKR _ (List.mem_of_getElem? (i := 0) rfl))).1
  have r_c2 := (N _ (hKR _ (List.mem_of_getElem? (i := 1) rfl))).1
  have r_c4 := (N _ (hKR _ (List.mem_of_getElem? (i := 2) rfl))).1
  exact attr_x w A s Q E (X.keeps F.keep) c3 t c2 c4 a2 a3 a10 a11 a12 a13 a14 a15 a16 a17 a18 a19 a20 a21 a22 a23 a24 a25 a33 a34 a35 a36 a37 a38 a39 a40 a41 a49 a57 a58 g12 g13 k12 k13 t3 r_c3 r_c2 r_c4 k dd x tx (N _ hk).1 hQ
end

end
end
section
example : True := by
  k_with_none
  trivial

example : True := by
  (k_with "my_binds" => first | exact BindsTo.of_eq rfl | exact binds_K (by k_in) rfl (by k_is) rfl rfl rfl | fail "k_enter: no rule for these arguments")
  (k_with "my_entered" => ((case kA => exact rfl); (case kF => exact rfl); (case kK => first | assumption | exact rfl); (case k1 => k_asm); (case k2 => k_asm); (case k3 => k_asm); (case k4 => k_asm); (case k5 => k_asm); (case k6 => k_is); (case k7 => k_is); (case k8 => k_room); (case k9 => walk_at "my_binds"); (case c5 => decide); (case kB => exact locs rfl); (case c2 => exact rfl); (case c3 => exact rfl); (case c4 => exact rfl); k_whole))
  (k_with "my_in" => (intro g'_q L'_q h'_q FG'_q F'_q N'_q B'_q X'_q T'_q; (dsimp only at F'_q ⊢); (try k_fold)))
  (k_with "my_enter1" => (refine wpAny_call ?_; refine' code_def1 ?k1 ?k2 ?k3 ?k4 ?k5 ?kA ?kF ?kK ?k6 ?k7 ?k8 ?k9 ?kB ?_ ?c2 ?c3 ?c4 ?c5; walk_at "my_entered"))
  (k_with "my_enter2" => (refine wpAny_call ?_; refine' code_def2 ?k1 ?k2 ?k3 ?k4 ?k5 ?kA ?kF ?kK ?k6 ?k7 ?k8 ?k9 ?kB ?_ ?c2 ?c3 ?c4 ?c5; walk_at "my_entered"))
  (k_with "my_enter3" => (refine wpAny_call ?_; refine' code_def3 ?k1 ?k2 ?k3 ?k4 ?k5 ?kA ?kF ?kK ?k6 ?k7 ?k8 ?k9 ?kB ?_ ?c2 ?c3 ?c4 ?c5; walk_at "my_entered"))
  (k_with "call ref" => (k_here; (with_reducible show wpAny _ _ (call (Value.ref _) [_]) _ _ _); k_dflt (walk_at "my_enter1"); walk_at "my_in"))
  (k_with "call ref" => (k_here; (with_reducible show wpAny _ _ (call (Value.ref _) [_, _]) _ _ _); k_dflt (walk_at "my_enter2"); walk_at "my_in"))
  (k_with "call ref" => (k_here; (with_reducible show wpAny _ _ (call (Value.ref _) [_, _, _]) _ _ _); k_dflt (walk_at "my_enter3"); walk_at "my_in"))
  (k_with "my_use" => ((case hh => rfl); (case hf => rfl); (case hg => rfl); (case hd => exact Nat.le_of_ble_eq_true rfl); (case hu => exact Nat.le_of_ble_eq_true rfl); (case B => k_asm); (case F => k_asm); (case X => k_asm); (case N => k_asm); (case T => k_asm); (case K => first | assumption | exact rfl)))
  (k_with "my_var" => first | assumption | exact if_pos rfl | (refine (if_neg (by decide)).trans ?_; walk_at "my_var") | rfl)
  (k_with "eval Name" => (k_here; k_dflt (refine' ld ?F_h ?v_h ?_; (case F_h => k_asm); (case v_h => walk_at "my_var"); k_whole)))
  (k_with "subscriptTail" => (k_here; (with_reducible show wpAny _ _ (subscriptTail _ (PySem.Expr.Slice (some _) (some _) none _) (Value.str _ _) (Value.ref _)) _ _ _); k_dflt (refine' cut_ss ?F_h ?N_h ?hsz_h ?_; (case F_h => k_asm); (case N_h => k_asm); (case hsz_h => walk_at "my_len"); k_whole; intro h'_q t'_q tk'_q F'_q N'_q)))
  (k_with "subscriptTail" => (k_here; (with_reducible show wpAny _ _ (subscriptTail _ (PySem.Expr.Slice none (some _) none _) (Value.str _ _) (Value.ref _)) _ _ _); k_dflt (refine' cut_ns ?F_h ?N_h ?hsz_h ?_; (case F_h => k_asm); (case N_h => k_asm); (case hsz_h => walk_at "my_len"); k_whole; intro h'_q t'_q tk'_q F'_q N'_q)))
  (k_with "subscriptTail" => (k_here; (with_reducible show wpAny _ _ (subscriptTail _ (PySem.Expr.Slice (some _) none none _) (Value.str _ _) (Value.ref _)) _ _ _); k_dflt (refine' cut_sn ?F_h ?N_h ?hsz_h ?_; (case F_h => k_asm); (case N_h => k_asm); (case hsz_h => walk_at "my_len"); k_whole; intro h'_q t'_q tk'_q F'_q N'_q)))
  (k_with "my_len" => first | omega | ((try simp only [Txt.len_slice_le]); size_fits))
  (k_with "execs cons" => (k_here; (with_reducible show wpAny _ _ (execs [_] _) _ _ _); with_reducible refine execs_one ?_))
  trivial
section
section
variable {prog : Program} {w : World} {A A₀ : Around} {s : Shared} {K : Frag} {L : Addr} {h₀ base : Heap} {m mg mb : Str → Option Value} {news : List (Addr × Obj)} {p : Program} {loose : List Str} {mean : ExcName → Option Value}
theorem code_nest2 {env : Env} {outer : List Env} {R : Result → Shared → Prop} {name qual : Str} {params : Arguments} {body : List Stmt} {scope : Scope} {cl : List (Str × Addr)} {doc pm ctv : Value} {c' : Addr} {f : Addr} {args : Args} {a1 a2 : Str} {v1 v2 : Value}
    (B : Below A₀ base outer h₀) (F : Fr h₀ L s.heap m) (X₀ : K.In h₀) (N : News h₀ L s.heap news) (T : Top p loose mean mg mb h₀) (hA : A.frames = some (env :: outer)) (hf : env.frame = some L) (hke : env.scope.kind = .function)
    (ho : (f, fnMade name qual params body scope cl doc pm c' ctv) ∈ news) (hcd : s.heap.CodeRec (.ref c') qual) (hroom : A.depth < recursionLimit)
    (hbind : BindsTo s (fnX name qual params body scope cl .none .none doc pm none (.ref c') ctv) args [(a1, v1), (a2, v2)]) (hloc : ∀ y ∈ [(a1, v1), (a2, v2)], scope.names.lookup y.1 = some .local)
    (h : ∀ g L' h₁, Fr h₀ L g m → Fr g L' h₁ (fun y => if y = a2 then some v2 else if y = a1 then some v1 else none) → News g L' h₁ news → Below A base (env :: outer) g → K.In g → Top p loose mean mg mb g →
      wpAny (model prog w) (A.deeper (envX qual scope L' f (.ref c') cl)) (execs body (envX qual scope L' f (.ref c') cl))
        (fun fl s' => LeaveK h₀ L m g R (match fl with | .ret v => v | _ => .none) s')
        (fun e s' => wpAny (model prog w) (A.deeper (envX qual scope L' f (.ref c') cl)) (leaving (envX qual scope L' f (.ref c') cl) e) (fun _ s'' => R (.error e) s'') (fun e' s'' => R (.error e') s'') s')
        { s with heap := h₁, toks := s.toks + 2 })
    (hco : scope.isCoroutine = false) (hgen : scope.isGenerator = false) (hk : scope.kind = .function)
    (hcell : ∀ x ∈ scope.names, x.2 ≠ .cell) : codeAny (model prog w) A (.call (.ref f) args) R s :=
  code_nest B F X₀ N T hA hf hke ho hcd hroom hbind hloc (fun g L' h₁ FG F' N' B' X' T' => h g L' h₁ FG (by rw [look2_eq] at F'; exact F') N' B' X' T') hco hgen hk hcell
end
example : True := by
  (k_with "my_step" => (first | (k_unfold; (try dsimp only)) | walk1 | (dsimp only; walk1) | (leave1; try dsimp only)))
  (k_with "getAttr ref" => (k_here; (with_reducible show wpAny _ _ (getAttr (Value.ref _) _ true) _ _ _); k_dflt (refine' attr_K ?F_h ?X_h ?N_h ?hK_h ?hKR_h ?hk_h ?_; (case F_h => k_asm); (case X_h => k_asm); (case N_h => k_asm); (case hK_h => assumption); (case hKR_h => assumption); (case hk_h => assumption); k_whole; intro tk'_q)))
  (k_with "call ref" => (k_here; k_dflt ((show wpAny _ _ (call (Value.ref 822) _) _ _ _); refine' (order_ctr _ _ _ _ ?ha_h ?hb_h _ _).useT ?hh ?hd ?hu ?hf ?hg ?B ?F ?X ?N ?T ?K ?_; walk_at "my_use"; (case ha_h => assumption); (case hb_h => assumption); k_whole; intro t'_q h'_q tk'_q F'_q N'_q; (try k_sweep))))
  (k_with "eval Name" => (k_here; k_dflt (refine' nameX_F ?N_h ?c_h ?m_h ?d_h ?_ ?a_h ?b_h; (case a_h => rfl); (case b_h => rfl); (case N_h => k_asm); (case c_h => rfl); (case m_h => assumption); (case d_h => rfl); k_whole)))
  (k_with "my_meth" => (refine wpAny_call ?_; refine' code_nest2 ?k1_h ?k2_h ?k3_h ?k4_h ?k5_h ?kA_h ?kF_h ?kK_h ?k6_h ?k7_h ?k8_h ?k9_h ?kB_h ?_ ?c2_h ?c3_h ?c4_h ?c5_h; (case kA_h => exact rfl); (case kF_h => exact rfl); (case kK_h => first | assumption | exact rfl); (case k1_h => k_asm); (case k2_h => k_asm); (case k3_h => k_asm); (case k4_h => k_asm); (case k5_h => k_asm); (case k6_h => assumption); (case k7_h => exact codeRec_news (by k_asm) (by assumption) rfl rfl); (case k8_h => k_room); (case k9_h => exact BindsTo.of_eq rfl); (case c5_h => decide); (case kB_h => exact locs rfl); (case c2_h => exact rfl); (case c3_h => exact rfl); (case c4_h => exact rfl); k_whole; intro g'_q L'_q h'_q FG'_q F'_q N'_q B'_q X'_q T'_q; dsimp only at F'_q ⊢; (try k_fold)))
  trivial
theorem keq_ctr (w : World) (KR R : List (Addr × Obj)) (c3 : Addr) (hK : KIn w KR c3) (hKR : ∀ p ∈ KR, p ∈ R) (a2 a34 a35 a36 a37 a38 a39 a40 a41 : Addr) (t : Tok) (m2 : (a2, ko2) ∈ R) (mf : (a41, ko41 a2 a34 a40) ∈ R) (mc : (a40, ko40 t a35 a36 a37 a38 a39) ∈ R)
    (k1 k2 d1 d2 : Addr) (x y : List Nat) (t1 t2 : Tok) (hx : x.length ≤ 1000) (hy : y.length ≤ 1000) (q1 : (k1, keyObj c3 d1 (tx x) t1) ∈ R) (q2 : (k2, keyObj c3 d2 (tx y) t2) ∈ R) :
    Sat w 780 7300 a41 [.ref k1, .ref k2] R (fun v news' => v = .bool (ordZ x y == 0) ∧ news' = R) := by
  intro pp ll mean mg mb gd cn cs ad ccd cl outer A₀ base h₀ L m s Q E B' F X N T hk hret
  k_dflt (walk_at "my_meth")
  repeat' walk_at "my_step"
  all_goals first | exact hret _ _ _ _ ⟨rfl, rfl⟩ (by k_asm) (by k_asm) | exact Str.empty | exact (0 : Nat) | exact Value.none
theorem klt_ctr (w : World) (KR R : List (Addr × Obj)) (c3 : Addr) (hK : KIn w KR c3) (hKR : ∀ p ∈ KR, p ∈ R) (a2 a18 a19 a20 a21 a22 a23 a24 a25 : Addr) (t : Tok) (m2 : (a2, ko2) ∈ R) (mf : (a25, ko25 a2 a18 a24) ∈ R) (mc : (a24, ko24 t a19 a20 a21 a22 a23) ∈ R)
    (k1 k2 d1 d2 : Addr) (x y : List Nat) (t1 t2 : Tok) (hx : x.length ≤ 1000) (hy : y.length ≤ 1000) (q1 : (k1, keyObj c3 d1 (tx x) t1) ∈ R) (q2 : (k2, keyObj c3 d2 (tx y) t2) ∈ R) :
    Sat w 780 7300 a25 [.ref k1, .ref k2] R (fun v news' => v = .bool (tlt x y) ∧ news' = R) := by
  intro pp ll mean mg mb gd cn cs ad ccd cl outer A₀ base h₀ L m s Q E B' F X N T hk hret
  k_dflt (walk_at "my_meth")
  repeat' walk_at "my_step"
  all_goals first | exact hret _ _ _ _ ⟨rfl, rfl⟩ (by k_asm) (by k_asm) | exact Str.empty | exact (0 : Nat) | exact Value.none

end
section
noncomputable abbrev xs (i : It) : List Nat := i.x.cps.toList
/-- a heap item that is what the law makes: (K(text), text) -/
inductive ItOk (R : List (Addr × Obj)) (c3 : Addr) (i : It) : Prop | mk (k dd : Addr) (t1 t2 : Tok) (hl : (xs i).length ≤ 1000) (m1 : (i.a, tupObj k i.x t1) ∈ R) (m2 : (k, keyObj c3 dd i.x t2) ∈ R) : ItOk R c3 i
inductive KRows (w : World) (KR : List (Addr × Obj)) (c3 : Addr) : Prop
  | mk (t : Tok) (c2 c4 a2 a3 a10 a11 a12 a13 a14 a15 a16 a17 a18 a19 a20 a21 a22 a23 a24 a25 a33 a34 a35 a36 a37 a38 a39 a40 a41 a49 a57 a58 : Addr) (g12 g13 : Int) (k12 k13 t3 : Tok) (h : ∀ p ∈ kRows w c3 t c2 c4 a2 a3 a10 a11 a12 a13 a14 a15 a16 a17 a18 a19 a20 a21 a22 a23 a24 a25 a33 a34 a35 a36 a37 a38 a39 a40 a41 a49 a57 a58 g12 g13 k12 k13 t3, p ∈ KR) : KRows w KR c3
theorem kin_rows {w : World} {KR : List (Addr × Obj)} {c3 : Addr} (hK : KIn w KR c3) : KRows w KR c3 := by
  cases hK with
  | mk t c2 c4 a2 a3 a10 a11 a12 a13 a14 a15 a16 a17 a18 a19 a20 a21 a22 a23 a24 a25 a33 a34 a35 a36 a37 a38 a39 a40 a41 a49 a57 a58 g12 g13 k12 k13 t3 => exact ⟨t, c2, c4, a2, a3, a10, a11, a12, a13, a14, a15, a16, a17, a18, a19, a20, a21, a22, a23, a24, a25, a33, a34, a35, a36, a37, a38, a39, a40, a41, a49, a57, a58, g12, g13, k12, k13, t3, fun p hp => hp⟩
theorem obj_mro : mroOf (.type "object") = pure [.type "object"] := by kernel_rfl
theorem ns_of {h : Heap} {a : Addr} {c : Value} {od : Option Addr} {es : Array DictEntry} {ep : Nat} {sl : Array (Option Value)} (e : h.get? a = some ⟨c, od, .dict es ep, sl⟩) (hk : StrKeys es) : h.Ns a (nsFind es) := ⟨_, es, ep, e, rfl, hk, fun _ => rfl⟩
theorem str_keys {es : List DictEntry} (h : es.all (fun e => match e.key with | .str _ _ => true | _ => false) = true) : StrKeys es.toArray := fun e he => by
  have z := List.all_eq_true.mp h e (by simpa using he)
  cases q : e.key with
  | str n t => exact ⟨n, t, rfl⟩
  | _ => rw [q] at z; cases z
theorem own_K {w : World} {h : Heap} {k c3 dd f : Addr} {x : Str} {tk : Tok} {t : Tok} {c2 c4 a3 a10 a17 a25 a33 a41 a49 a57 a58 : Addr} {g12 g13 : Int} {k12 k13 : Tok} {name : Str} {y : Option Value} {of : Obj} (rk : h.get? k = some (keyObj c3 dd x tk)) (rc : h.get? c3 = some (clsO c3 c2 a3 t (t + 9))) (rn : h.get? c2 = some (nsO c4 a10 a58 a17 a25 a33 a41 a49 a57 (t + 13) (t + 11) (t + 8) (t + 12) (t + 16) (t + 24) (t + 33) (t + 42) (t + 51) (t + 60) (t + 69) (t + 70) (t + 72) k12 k13 (hashX w "__module__") (hashX w "__firstlineno__") (hashR w "__slots__") (hashR w "__init__") (hashR w "__lt__") (hashR w "__gt__") (hashR w "__eq__") (hashR w "__le__") (hashR w "__ge__") (hashR w "__hash__") (hashX w "__static_attributes__") g12 g13)) (rf : h.get? f = some of) (hf : of.cls = .type "function")
    (hn : (match (nsO c4 a10 a58 a17 a25 a33 a41 a49 a57 (t + 13) (t + 11) (t + 8) (t + 12) (t + 16) (t + 24) (t + 33) (t + 42) (t + 51) (t + 60) (t + 69) (t + 70) (t + 72) k12 k13 (hashX w "__module__") (hashX w "__firstlineno__") (hashR w "__slots__") (hashR w "__init__") (hashR w "__lt__") (hashR w "__gt__") (hashR w "__eq__") (hashR w "__le__") (hashR w "__ge__") (hashR w "__hash__") (hashX w "__static_attributes__") g12 g13 : Obj).data with | .dict es _ => nsFind es name | _ => none) = some (.ref f)) (ho : typeLookup (.type "object") name = pure y) : h.OwnSpecial k c3 f "object" name := by
  refine ⟨_, of, _, _, c2, _, [.type "object"], _, _, _, _, _, _, _, _, _, _, _, _, _, y, rk, rfl, rc, ns_of rn (str_keys (by kernel_rfl)), hn, rf, hf, obj_mro, ho⟩
noncomputable def TU1_s : {P : World → (List (Addr × Obj)) → (List (Addr × Obj)) → Addr → Prop // (∀ w KR R c3, P w KR R c3) → (∀ (w : World) (KR R : List (Addr × Obj)) (c3 : Addr) (hK : KIn w KR c3) (hKR : ∀ p ∈ KR, p ∈ R), CmpOk w R (fun i j => tlt (xs i) (xs j)) (ItOk R c3))} := by
  refine' ⟨_, fun HC1 => ?hcut⟩
  case hcut =>
    intro w KR R c3 hK hKR
    revert hK hKR
    exact HC1 w KR R c3
@[irreducible] noncomputable def TU1_e : (World × (List (Addr × Obj)) × (List (Addr × Obj)) × Addr) := Ep (by first | infer_instance | (repeat' (first | exact neW | exact neA | exact neS | infer_instance | refine neP ?_ ?_ | (refine ⟨?_⟩; constructor <;> exact default) | (refine ⟨?_⟩; constructor)))) fun x => TU1_s.1 x.1 x.2.1 x.2.2.1 x.2.2.2
namespace TU1
noncomputable section
 @[irreducible] def w := TU1_e.1
 @[irreducible] def KR := TU1_e.2.1
 @[irreducible] def R := TU1_e.2.2.1
 @[irreducible] def c3 := TU1_e.2.2.2
end
end TU1
section
open TU1
theorem TU1_b : TU1_s.1 TU1.w TU1.KR TU1.R TU1.c3 := by
  intro hK hKR
  intro i j hi hj pp ll mean mg mb cn cs a ccd cl outer A₀ base A h₀ L m s Q E news hA1 hA2 hA3 hA4 B F N hRn X T K hret
  obtain ⟨k1, d1, t1, t2, lx, ri, rk1⟩ := hi
  obtain ⟨k2, d2, t3, t4, ly, rj, rk2⟩ := hj
  have hi := (N _ (hRn _ ri)).1
  have hj := (N _ (hRn _ rj)).1
  dsimp only at hi hj
  have Ti : s.TypeIs (.ref i.a) "tuple" := ⟨_, hi, rfl⟩
  have Tj : s.TypeIs (.ref j.a) "tuple" := ⟨_, hj, rfl⟩
  show wpAny _ _ (richCompare .Lt _ _) _ _ _
  refine wpAny_richCompare_same_or Ti Tj PySem.F.slot_tuple_lt ?_ (.inr (Nat.lt_of_le_of_lt hA3 (by decide)))
  refine wpAny_call (codeAny_call_builtin PySem.F.slot_tuple_lt.plain PySem.F.entry_tuple_lt (PySem.F.slot_tuple_lt.check _ _ _ _ _ _ _ _ Ti (PySem.F.args_tuple_lt_2 _ _) ?_))
  unfold Builtin.«tuple.__lt__»
  have tt := PySem.isSubtype_type
  repeat ((fail_if_success (with_reducible show wpAny _ _ (eqBool _ _) _ _ _)); lk)
  dsimp only
  by_cases hk : k1 = k2
  · subst hk
    have hxy : i.x = j.x := by
      have z1 := (N _ (hRn _ rk1)).1
      have z2 := (N _ (hRn _ rk2)).1
      dsimp only at z1 z2
      rw [z1] at z2
      have z3 := congrArg Obj.slots (Option.some.inj z2)
      simp at z3
      exact z3.1
    have b1 : (Value.ref k1 == Value.ref k1) = true := by simp
    unfold eqBool
    simp only [b1, if_true]
    repeat ((fail_if_success (with_reducible show wpAny _ _ (ite _ _ _) _ _ _)); lk)
    simp only [Bool.not_true, Bool.false_eq_true, if_false]
    repeat ((fail_if_success (with_reducible show wpAny _ _ (eqBool _ _) _ _ _)); lk)
    dsimp only
    refine eqBool_str ?_
    have b2 : (i.x == j.x) = true := by rw [hxy]; simp
    rw [b2]
    simp only [Bool.not_true, Bool.false_eq_true, if_false]
    repeat lk
    refine ⟨nofun, ?_⟩
    have e : tlt (xs i) (xs j) = false := by
      show tlt i.x.cps.toList j.x.cps.toList = false
      rw [hxy]; exact tlt_irr _
    have z := hret s.heap s.toks F N
    dsimp only at z
    rw [e] at z
    exact z
  · have b1 : (Value.ref k1 == Value.ref k2) = false := by simp [hk]
    obtain ⟨t, c2, c4, a2, a3, a10, a11, a12, a13, a14, a15, a16, a17, a18, a19, a20, a21, a22, a23, a24, a25, a33, a34, a35, a36, a37, a38, a39, a40, a41, a49, a57, a58, g12, g13, k12, k13, t3, hrows⟩ := kin_rows hK
    have r1 := (N _ (hRn _ rk1)).1
    have r2 := (N _ (hRn _ rk2)).1
    have rc := (N _ (hRn _ (hKR _ (hrows _ (List.mem_of_getElem? (i := 0) rfl))))).1
    have rn := (N _ (hRn _ (hKR _ (hrows _ (List.mem_of_getElem? (i := 1) rfl))))).1
    have rf := (N _ (hRn _ (hKR _ (hrows _ (List.mem_of_getElem? (i := 26) rfl))))).1
    have u1 : A.in1.units ≤ 7300 := Nat.le_trans (Nat.succ_le_succ hA3) (by decide)
    have u2 : A.in1.units < cLine := Nat.lt_of_le_of_lt u1 (by decide)
    unfold eqBool
    simp only [b1, Bool.false_eq_true, if_false]
    repeat ((fail_if_success (with_reducible show wpAny _ _ (richCompare _ _ _) _ _ _)); lk)
    refine richCompare_own_same (h := s.heap) (g := s.gens) (d := s.drawn) (t := s.toks) (os := s.os) rfl (own_K r1 rc rn rf rfl (by kernel_rfl) (y := some (.builtin "object.__eq__")) (by rw [typeLookup_type, builtinLookup_eq_fast]; kernel_rfl)) r2 rfl u2 ?_
    refine (keq_ctr w KR news c3 hK (fun p hp => hRn p (hKR p hp)) _ _ _ _ _ _ _ _ _ _ (hRn _ (hKR _ (hrows _ (List.mem_of_getElem? (i := 3) rfl)))) (hRn _ (hKR _ (hrows _ (List.mem_of_getElem? (i := 26) rfl)))) (hRn _ (hKR _ (hrows _ (List.mem_of_getElem? (i := 25) rfl)))) k1 k2 d1 d2 (xs i) (xs j) t2 t4 lx ly (hRn _ rk1) (hRn _ rk2)).use hA1 (Nat.le_trans hA2 (by decide)) u1 hA4 rfl B F X N T K ?_
    rintro v news' h' tk' ⟨rfl, rfl⟩ F' N'
    refine ⟨_, rfl, ?_⟩
    cases hb : (ordZ (xs i) (xs j) == 0)
    · repeat ((fail_if_success (with_reducible show wpAny _ _ (ite _ _ _) _ _ _)); lk)
      simp only [Bool.not_false, if_true]
      repeat ((fail_if_success (with_reducible show wpAny _ _ (richCompare _ _ _) _ _ _)); lk)
      have r1' := (N' _ (hRn _ rk1)).1
      have r2' := (N' _ (hRn _ rk2)).1
      have rc' := (N' _ (hRn _ (hKR _ (hrows _ (List.mem_of_getElem? (i := 0) rfl))))).1
      have rn' := (N' _ (hRn _ (hKR _ (hrows _ (List.mem_of_getElem? (i := 1) rfl))))).1
      have rf' := (N' _ (hRn _ (hKR _ (hrows _ (List.mem_of_getElem? (i := 18) rfl))))).1
      refine richCompare_own_same (h := h') (g := s.gens) (d := s.drawn) (t := tk') (os := s.os) rfl (own_K r1' rc' rn' rf' rfl (by kernel_rfl) (y := some (.builtin "object.__lt__")) (by rw [typeLookup_type, builtinLookup_eq_fast]; kernel_rfl)) r2' rfl u2 ?_
      refine (klt_ctr w KR news' c3 hK (fun p hp => hRn p (hKR p hp)) _ _ _ _ _ _ _ _ _ _ (hRn _ (hKR _ (hrows _ (List.mem_of_getElem? (i := 3) rfl)))) (hRn _ (hKR _ (hrows _ (List.mem_of_getElem? (i := 18) rfl)))) (hRn _ (hKR _ (hrows _ (List.mem_of_getElem? (i := 17) rfl)))) k1 k2 d1 d2 (xs i) (xs j) t2 t4 lx ly (hRn _ rk1) (hRn _ rk2)).use hA1 (Nat.le_trans hA2 (by decide)) u1 hA4 rfl B F' X N' T K ?_
      rintro v news'' h'' tk'' ⟨rfl, rfl⟩ F'' N''
      refine ⟨_, rfl, ?_⟩
      repeat lk
      exact ⟨nofun, hret _ _ F'' N''⟩
    · have hxy : i.x = j.x := by
        have z := (ordZ_zero _ _).mp (beq_iff_eq.mp hb)
        have z2 : i.x.cps = j.x.cps := Array.toList_inj.mp z
        show (⟨i.x.cps⟩ : Str) = ⟨j.x.cps⟩
        rw [z2]
      repeat ((fail_if_success (with_reducible show wpAny _ _ (ite _ _ _) _ _ _)); lk)
      simp only [Bool.not_true, Bool.false_eq_true, if_false]
      repeat ((fail_if_success (with_reducible show wpAny _ _ (eqBool _ _) _ _ _)); lk)
      dsimp only
      refine eqBool_str ?_
      have b2 : (i.x == j.x) = true := by rw [hxy]; simp
      rw [b2]
      simp only [Bool.not_true, Bool.false_eq_true, if_false]
      repeat lk
      refine ⟨nofun, ?_⟩
      have e : tlt (xs i) (xs j) = false := by
        show tlt i.x.cps.toList j.x.cps.toList = false
        rw [hxy]; exact tlt_irr _
      have z := hret h' tk' F' N'
      dsimp only at z
      rw [e] at z
      exact z

end
theorem tup_lt (w : World) (KR R : List (Addr × Obj)) (c3 : Addr) (hK : KIn w KR c3) (hKR : ∀ p ∈ KR, p ∈ R) : CmpOk w R (fun i j => tlt (xs i) (xs j)) (ItOk R c3) := by
  exact TU1_s.2 (fun w KR R c3 => ep_all _ (P := fun x => TU1_s.1 x.1 x.2.1 x.2.2.1 x.2.2.2) (by with_unfolding_all exact TU1_b) (w, KR, R, c3)) w KR R c3 hK hKR

end
end
section
example : True := by
  k_with_none
  trivial

example : True := by
  (k_with "my_enter" => (refine wpAny_call ?_; refine' code_def ?k1_h ?k2_h ?k3_h ?k4_h ?k5_h ?kA_h ?kF_h ?kK_h ?k6_h ?k7_h ?k8_h ?k9_h ?kB_h ?_ ?c2_h ?c3_h ?c4_h ?c5_h; (case kA_h => exact rfl); (case kF_h => exact rfl); (case kK_h => assumption); (case k1_h => k_asm); (case k2_h => k_asm); (case k3_h => k_asm); (case k4_h => k_asm); (case k5_h => k_asm); (case k6_h => k_is); (case k7_h => k_is); (case k8_h => k_room); (case k9_h => first | exact BindsTo.of_eq rfl | exact binds_K (by k_in) rfl (by k_is) rfl rfl rfl | fail "k_enter: no rule for these arguments"); (case c5_h => decide); (case kB_h => exact locs rfl); (case c2_h => exact rfl); (case c3_h => exact rfl); (case c4_h => exact rfl); k_whole; intro g'_q L'_q h'_q FG'_q F'_q N'_q B'_q X'_q T'_q; (try dsimp only); (try k_fold)))
  (k_with "my_var" => first | assumption | exact if_pos rfl | (refine (if_neg (by decide)).trans ?_; walk_at "my_var") | rfl)
  (k_with "eval Name" => (k_here; k_dflt (refine' ld ?F_h ?v_h ?_; (case F_h => k_asm); (case v_h => walk_at "my_var"); k_whole)))
  (k_with "my_idx" => ((try simp only [vals_len, List.length_set, List.length_map]); omega))
  (k_with "subscriptTail" => (k_here; (with_reducible show wpAny _ _ (subscriptTail _ _ (Value.ref _) (Value.int _ _)) _ _ _); k_dflt (refine' sub_any ?N_h ?hm_h ?h0_h ?hx_h ?hf_h ?_ ?hs_h; (case N_h => k_asm); (case hm_h => k_mem); (case h0_h => walk_at "my_idx"); (case hx_h => exact vals_get (by walk_at "my_idx") (by walk_at "my_idx")); (case hf_h => walk_at "my_idx"); (case hs_h => with_unfolding_all rfl); k_whole)))
  (k_with "setItem ref int" => (k_here; k_dflt (refine' set_it ?F_h ?N_h ?U_h ?h1_h ?hf_h ?_; (case F_h => k_asm); (case N_h => k_asm); (case U_h => exact Upd.head (by assumption)); (case h1_h => walk_at "my_idx"); (case hf_h => walk_at "my_idx"); k_whole; intro h'_q F'_q N'_q; (try k_sweep))))
  (k_with "my_step" => ((fail_if_success (with_reducible show wpAny _ _ (exec (Stmt.While _ _ _ _) _) _ _ _)); first | (k_unfold; (try dsimp only)) | walk1 | (dsimp only; walk1) | (leave1; walk_say "STEP leave1"; try dsimp only)))
  (k_with "my_ok" => first | assumption | (refine' ok_at ?oh_h ?oj_h; (case oh_h => assumption); (case oj_h => walk_at "my_idx")))
  (k_with "compareOp Lt ref ref" => (k_here; k_dflt (refine' (show CmpOk _ _ _ _ by assumption) _ _ ?o1_h ?o2_h _ _ _ _ _ _ _ _ _ _ _ _ _ _ _ _ _ _ _ _ _ ?a1_h ?a2_h ?a3_h ?a4_h ?B_h ?F_h ?N_h ?hR_h ?X_h ?T_h ?K_h ?_; (case a1_h => rfl); (case a2_h => exact Nat.le_of_ble_eq_true rfl); (case a3_h => exact Nat.le_of_ble_eq_true rfl); (case a4_h => rfl); (case B_h => k_asm); (case T_h => k_asm); (case K_h => first | assumption | exact rfl); (case F_h => k_asm); (case N_h => k_asm); (case hR_h => exact fun p hp => .tail _ hp); (case X_h => k_asm); (case o1_h => walk_at "my_ok"); (case o2_h => walk_at "my_ok"); k_whole; intro h'_q tk'_q F'_q N'_q; (try k_sweep))))
  (k_with "binaryOp RShift int int" => (k_here; k_dflt (refine' shr_half ?h_h ?_; (case h_h => omega))))
  (k_with "call builtin:len" => (k_here; (with_reducible show wpAny _ _ (call (Value.builtin "len") [Value.ref _]) _ _ _); k_dflt (refine' len_it ?N_h ?hm_h ?hf_h ?_; (case N_h => k_asm); (case hm_h => k_mem); (case hf_h => walk_at "my_idx"); k_whole)))
  (k_with "my_use" => ((case hh => rfl); (case hf => rfl); (case hg => rfl); (case hd => exact Nat.le_of_ble_eq_true rfl); (case hu => exact Nat.le_of_ble_eq_true rfl); (case B => k_asm); (case F => k_asm); (case X => k_asm); (case N => k_asm); (case T => k_asm); (case K => rfl)))
  (k_with "execs cons" => (k_here; (with_reducible show wpAny _ _ (execs [_] _) _ _ _); with_reducible refine execs_one ?_))
  trivial
section
section
variable {prog : Program} {w : World} {A : Around} {E : Value → Shared → Prop} {s : Shared} {h₀ : Heap} {L H D : Addr} {m : Str → Option Value} {news : List (Addr × Obj)} {vs : List Value} {n e : Nat}
theorem eq_nil {Q : Value → Shared → Prop} (hu : A.units < cLine) (N : News h₀ L s.heap news) (hm : (H, listOf vs.toArray e) ∈ news) (hd : (D, listOf #[] n) ∈ news) (h : ∀ tk, Q (.bool (decide (vs = []))) { s with toks := tk }) :
    wpAny (model prog w) A (compareOp .Eq (.ref H) (.ref D)) Q E s := by
  have h1 := (N _ hm).1
  have h2 := (N _ hd).1
  dsimp only at h1 h2
  have T1 : s.TypeIs (.ref H) "list" := ⟨_, h1, rfl⟩
  have T2 : s.TypeIs (.ref D) "list" := ⟨_, h2, rfl⟩
  show wpAny _ _ (richCompare .Eq _ _) _ _ _
  refine wpAny_richCompare_same_or T1 T2 PySem.F.slot_list_eq ?_ (.inr hu)
  refine wpAny_call (codeAny_call_builtin PySem.F.slot_list_eq.plain PySem.F.entry_list_eq (PySem.F.slot_list_eq.check _ _ _ _ _ _ _ _ T1 (PySem.F.args_list_eq_2 _ _) ?_))
  unfold Builtin.«list.__eq__»
  repeat lk
  cases vs with
  | nil =>
    rw [if_neg (by decide)]
    refine wpAny_pure (And.intro (Code.quiet_builtin _ (by decide +kernel)) (codeAny_builtin (entryFor_of_tree (b := Builtin.«list.__eq__.loop») (by kernel_rfl)) ?_))
    unfold Builtin.«list.__eq__.loop»
    repeat lk
    exact ⟨nofun, h s.toks⟩
  | cons v vs =>
    rw [if_pos (by simp)]
    repeat lk
    exact ⟨nofun, h s.toks⟩
theorem ne_nil {Q : Value → Shared → Prop} (hu : A.units < cLine) (N : News h₀ L s.heap news) (hm : (H, listOf vs.toArray e) ∈ news) (hd : (D, listOf #[] n) ∈ news) (h : ∀ tk, Q (.bool (decide (vs ≠ []))) { s with toks := tk }) :
    wpAny (model prog w) A (compareOp .NotEq (.ref H) (.ref D)) Q E s := by
  have h1 := (N _ hm).1
  have h2 := (N _ hd).1
  dsimp only at h1 h2
  have T1 : s.TypeIs (.ref H) "list" := ⟨_, h1, rfl⟩
  have T2 : s.TypeIs (.ref D) "list" := ⟨_, h2, rfl⟩
  show wpAny _ _ (richCompare .NotEq _ _) _ _ _
  refine wpAny_richCompare_same_or T1 T2 PySem.F.slot_list_ne ?_ (.inr hu)
  refine wpAny_call (codeAny_call_builtin PySem.F.slot_list_ne.plain PySem.F.entry_list_ne (PySem.F.slot_list_ne.check _ _ _ _ _ _ _ _ T1 (PySem.F.args_list_ne_2 _ _) ?_))
  unfold Builtin.«list.__ne__»
  repeat lk
  cases vs with
  | nil =>
    rw [if_neg (by decide)]
    refine wpAny_pure (And.intro (Code.quiet_builtin _ (by decide +kernel)) (codeAny_builtin (entryFor_of_tree (b := Builtin.«list.__eq__.loop») (by kernel_rfl)) ?_))
    unfold Builtin.«list.__eq__.loop»
    repeat lk
    exact ⟨nofun, h s.toks⟩
  | cons v vs =>
    rw [if_pos (by simp)]
    repeat lk
    exact ⟨nofun, h s.toks⟩
end

end
end
section
example : True := by
  k_with_none
  trivial

example : True := by
  (k_with "my_binds" => first | exact BindsTo.of_eq rfl | exact binds_K (by k_in) rfl (by k_is) rfl rfl rfl | fail "k_enter: no rule for these arguments")
  (k_with "my_entered" => ((case kA => exact rfl); (case kF => exact rfl); (case kK => first | assumption | exact rfl); (case k1 => k_asm); (case k2 => k_asm); (case k3 => k_asm); (case k4 => k_asm); (case k5 => k_asm); (case k6 => k_is); (case k7 => k_is); (case k8 => k_room); (case k9 => walk_at "my_binds"); (case c5 => decide); (case kB => exact locs rfl); (case c2 => exact rfl); (case c3 => exact rfl); (case c4 => exact rfl); k_whole))
  (k_with "my_in" => (intro g'_q L'_q h'_q FG'_q F'_q N'_q B'_q X'_q T'_q; (dsimp only at F'_q ⊢); (try k_fold)))
  (k_with "my_enter1" => (refine wpAny_call ?_; refine' code_def1 ?k1 ?k2 ?k3 ?k4 ?k5 ?kA ?kF ?kK ?k6 ?k7 ?k8 ?k9 ?kB ?_ ?c2 ?c3 ?c4 ?c5; walk_at "my_entered"))
  (k_with "my_enter2" => (refine wpAny_call ?_; refine' code_def2 ?k1 ?k2 ?k3 ?k4 ?k5 ?kA ?kF ?kK ?k6 ?k7 ?k8 ?k9 ?kB ?_ ?c2 ?c3 ?c4 ?c5; walk_at "my_entered"))
  (k_with "my_enter3" => (refine wpAny_call ?_; refine' code_def3 ?k1 ?k2 ?k3 ?k4 ?k5 ?kA ?kF ?kK ?k6 ?k7 ?k8 ?k9 ?kB ?_ ?c2 ?c3 ?c4 ?c5; walk_at "my_entered"))
  (k_with "call ref" => (k_here; (with_reducible show wpAny _ _ (call (Value.ref _) [_]) _ _ _); k_dflt (walk_at "my_enter1"); walk_at "my_in"))
  (k_with "call ref" => (k_here; (with_reducible show wpAny _ _ (call (Value.ref _) [_, _]) _ _ _); k_dflt (walk_at "my_enter2"); walk_at "my_in"))
  (k_with "call ref" => (k_here; (with_reducible show wpAny _ _ (call (Value.ref _) [_, _, _]) _ _ _); k_dflt (walk_at "my_enter3"); walk_at "my_in"))
  (k_with "my_use" => ((case hh => rfl); (case hf => rfl); (case hg => rfl); (case hd => exact Nat.le_of_ble_eq_true rfl); (case hu => exact Nat.le_of_ble_eq_true rfl); (case B => k_asm); (case F => k_asm); (case X => k_asm); (case N => k_asm); (case T => k_asm); (case K => first | assumption | exact rfl)))
  (k_with "my_var" => first | assumption | exact if_pos rfl | (refine (if_neg (by decide)).trans ?_; walk_at "my_var") | rfl)
  (k_with "eval Name" => (k_here; k_dflt (refine' ld ?F_h ?v_h ?_; (case F_h => k_asm); (case v_h => walk_at "my_var"); k_whole)))
  (k_with "subscriptTail" => (k_here; (with_reducible show wpAny _ _ (subscriptTail _ (PySem.Expr.Slice (some _) (some _) none _) (Value.str _ _) (Value.ref _)) _ _ _); k_dflt (refine' cut_ss ?F_h ?N_h ?hsz_h ?_; (case F_h => k_asm); (case N_h => k_asm); (case hsz_h => walk_at "my_len"); k_whole; intro h'_q t'_q tk'_q F'_q N'_q)))
  (k_with "subscriptTail" => (k_here; (with_reducible show wpAny _ _ (subscriptTail _ (PySem.Expr.Slice none (some _) none _) (Value.str _ _) (Value.ref _)) _ _ _); k_dflt (refine' cut_ns ?F_h ?N_h ?hsz_h ?_; (case F_h => k_asm); (case N_h => k_asm); (case hsz_h => walk_at "my_len"); k_whole; intro h'_q t'_q tk'_q F'_q N'_q)))
  (k_with "subscriptTail" => (k_here; (with_reducible show wpAny _ _ (subscriptTail _ (PySem.Expr.Slice (some _) none none _) (Value.str _ _) (Value.ref _)) _ _ _); k_dflt (refine' cut_sn ?F_h ?N_h ?hsz_h ?_; (case F_h => k_asm); (case N_h => k_asm); (case hsz_h => walk_at "my_len"); k_whole; intro h'_q t'_q tk'_q F'_q N'_q)))
  (k_with "my_len" => first | omega | ((try simp only [Txt.len_slice_le]); size_fits))
  (k_with "execs cons" => (k_here; (with_reducible show wpAny _ _ (execs [_] _) _ _ _); with_reducible refine execs_one ?_))
  trivial
section
open StrLaws Builtin Builtin.Str in
theorem slice_tail (c : Nat) (l : List Nat) : Txt.slice (tx (c :: l)) (some 1) none = tx l := by
  have hl : (tx (c :: l)).length = l.length + 1 := by show (c :: l).toArray.size = _; rw [List.size_toArray]; rfl
  have e : strSliceIndices (some 1) none 1 (tx (c :: l)).length = strSliceIndices (some ((1 : Nat) : Int)) (some (((tx (c :: l)).length : Nat) : Int)) 1 (tx (c :: l)).length := by
    rw [strSliceIndices_plain (by omega) (by omega)]
    simp only [strSliceIndices, sliceRange, show ((1 : Int) > 0) = True from by simp, if_true]
    have hn : 1 ≤ (tx (c :: l)).length := by omega
    generalize (tx (c :: l)).length = n at hn
    have m1 : max (0 : Int) (min (if (1 : Int) < 0 then 1 + (n : Int) else 1) (n : Int)) = 1 := by
      rw [if_neg (by decide)]; omega
    rw [m1]
    have m2 : (if (1 : Int) < (n : Int) then ((n : Int) - 1 + 1 - 1) / 1 else 0).toNat = n - 1 := by
      split <;> omega
    rw [m2]
    refine List.map_congr_left fun j _ => ?_
    omega
  have q := slice_plain (tx (c :: l)) (a := 1) (b := (tx (c :: l)).length) (by omega) (by omega)
  have q2 : Txt.slice (tx (c :: l)) (some 1) none = Txt.slice (tx (c :: l)) (some ((1 : Nat) : Int)) (some (((tx (c :: l)).length : Nat) : Int)) := by
    unfold Txt.slice
    rw [e]
  rw [q2, q, hl]
  show (⟨(((c :: l).drop 1).take (l.length + 1 - 1)).toArray⟩ : Str) = _
  rw [List.drop_one, List.tail_cons, show l.length + 1 - 1 = l.length by omega, List.take_length]
theorem item_head (c : Nat) (l : List Nat) : Txt.item (tx (c :: l)) 0 = tx [c] := by
  show (⟨#[(Txt.charAt (tx (c :: l)) 0).getD 0]⟩ : Str) = ⟨#[c]⟩
  have h : Txt.charAt (tx (c :: l)) 0 = some c := by
    unfold Txt.charAt seqIndex?
    have hl : (tx (c :: l)).length = l.length + 1 := by show (c :: l).toArray.size = _; rw [List.size_toArray]; rfl
    rw [hl]
    simp
  rw [h]; rfl

end
section
theorem strsare : ∀ {vs : List Value} {ts : List (List Nat)}, IsTxts vs ts → StrsAre vs (ts.map tx)
  | [], [], _ => .nil
  | [], _ :: _, h => h.elim
  | _ :: _, [], h => h.elim
  | v :: vs, t :: ts, h => by
    obtain ⟨⟨k, rfl⟩, h⟩ := h
    exact .cons (tx t) k (strsare h)
theorem join_tx (sep : List Nat) : ∀ ts : List (List Nat), Txt.join (tx sep) (ts.map tx) = tx (joinL sep ts)
  | [] => by show Builtin.Str.glued _ _ = _; rw [StrLaws.glued_eq_join]; rfl
  | [a] => by show Builtin.Str.glued _ _ = _; rw [StrLaws.glued_eq_join]; rfl
  | a :: b :: r => by
    have ih := join_tx sep (b :: r)
    change Builtin.Str.glued _ _ = _ at ih
    show Builtin.Str.glued _ _ = _
    rw [StrLaws.glued_eq_join] at ih ⊢
    show tx a ++ tx sep ++ Str.join (tx sep) ((b :: r).map tx) = tx (a ++ (sep ++ joinL sep (b :: r)))
    rw [ih]
    show (⟨(a.toArray ++ sep.toArray) ++ (joinL sep (b :: r)).toArray⟩ : Str) = _
    simp
theorem istxts_len : ∀ {vs : List Value} {ts : List (List Nat)}, IsTxts vs ts → vs.length = ts.length
  | [], [], _ => rfl
  | [], _ :: _, h => h.elim
  | _ :: _, [], h => h.elim
  | _ :: _, _ :: _, h => by rw [List.length_cons, List.length_cons, istxts_len h.2]
theorem istxts_snoc {k : Tok} {t : List Nat} : ∀ {vs : List Value} {ts : List (List Nat)}, IsTxts vs ts → IsTxts (vs ++ [.str (tx t) k]) (ts ++ [t])
  | [], [], _ => ⟨⟨k, rfl⟩, trivial⟩
  | [], _ :: _, h => h.elim
  | _ :: _, [], h => h.elim
  | _ :: _, _ :: _, h => ⟨h.1, istxts_snoc h.2⟩
theorem istxts_get : ∀ {vs : List Value} {ts : List (List Nat)}, IsTxts vs ts → ∀ {i : Nat} {v : Value}, vs[i]? = some v → ∃ t k, ts[i]? = some t ∧ v = .str (tx t) k
  | [], [], _, i, v, h => by simp at h
  | [], _ :: _, h, _, _, _ => h.elim
  | _ :: _, [], h, _, _, _ => h.elim
  | a :: vs, t :: ts, h, i, v, e => by
    cases i with
    | zero =>
      obtain ⟨⟨k, rfl⟩, _⟩ := h
      simp at e
      exact ⟨t, k, rfl, e.symm⟩
    | succ i =>
      obtain ⟨t', k, h1, h2⟩ := istxts_get h.2 (i := i) (v := v) (by simpa using e)
      exact ⟨t', k, by simpa using h1, h2⟩
theorem istxts_app : ∀ {vs : List Value} {ts : List (List Nat)} {vs' : List Value} {ts' : List (List Nat)}, IsTxts vs ts → IsTxts vs' ts' → IsTxts (vs ++ vs') (ts ++ ts')
  | [], [], _, _, _, h => h
  | [], _ :: _, _, _, h, _ => h.elim
  | _ :: _, [], _, _, h, _ => h.elim
  | _ :: _, _ :: _, _, _, h, h' => ⟨h.1, istxts_app h.2 h'⟩
theorem join_sum : ∀ (ts : List (List Nat)) (B : Nat), (∀ t ∈ ts, t.length ≤ B) → ((ts.map tx).map (·.length)).sum ≤ ts.length * B
  | [], _, _ => by simp
  | t :: ts, B, h => by
    have ih := join_sum ts B fun x hx => h x (.tail _ hx)
    have h1 := h t (.head _)
    have e : (tx t).length = t.length := by show t.toArray.size = _; rw [List.size_toArray]
    rw [List.map_cons, List.map_cons, List.sum_cons, List.length_cons, Nat.succ_mul, e]
    omega
section
variable {prog : Program} {w : World} {A : Around} {E : Value → Shared → Prop} {s : Shared} {h₀ : Heap} {L D : Addr} {news : List (Addr × Obj)} {vs : List Value} {ts : List (List Nat)} {n : Nat} {t : Tok}
theorem join_go {Q : Value → Shared → Prop} (sep : List Nat) (N : News h₀ L s.heap news) (hm : (D, listOf vs.toArray n) ∈ news) (hi : IsTxts vs ts) (hB : ∀ t ∈ ts, t.length ≤ 100) (hn : ts.length ≤ 1000) (hs : sep.length ≤ 10)
    (h : ∀ t' k, Q (.str (tx (joinL sep ts)) t') { s with toks := k }) : wpAny (model prog w) A (call (.builtin "str.join") [.str (tx sep) t, .ref D]) Q E s := by
  have hl := PySem.IsL.isList (n := n) (N _ hm).1
  have h1 := join_sum ts 100 hB
  have h2 : ts.length * 100 ≤ 1000 * 100 := Nat.mul_le_mul hn (Nat.le_refl _)
  have h3 : ts.length * sep.length ≤ 1000 * 10 := Nat.mul_le_mul hn hs
  have e : (tx sep).length = sep.length := by show sep.toArray.size = _; rw [List.size_toArray]
  refine join_list hl (strsare hi) ?_ fun t' k => ?_
  · rw [List.length_map, e]; omega
  · rw [join_tx]; exact h t' k
end
/-- a comprehension's turns, by what holds between them -/
theorem comp_inv {prog : Program} {w : World} {A : Around} {h₀ : Heap} {L : Addr} {m : Str → Option Value} {env : Env} {elt : PySem.Expr} {x : Str} {scope : Scope} {cl : List (Str × Addr)} {s : Shared} {S : List (Addr × Obj) → Prop} {P : Nat → Value → Prop} {Fin : List Value → List (Addr × Obj) → Prop} {news : List (Addr × Obj)} {n : Nat}
    (J : Nat → List Value → List (Addr × Obj) → Prop) (h0 : J 0 [] news)
    (turn : ∀ i v ys news I oI C oC D m₂ h tk (E' : Value → Shared → Prop), i < n → J i ys news → P i v → LCg.NsObj oC m₂ → m₂ x = some v → Fr h₀ L h m → News h₀ L h ((I, oI) :: (C, oC) :: (D, LCg.lst ys) :: news) → LCg.Off3 I C D news → ((@Ne Nat I C) ∧ (@Ne Nat I D) ∧ (@Ne Nat C D)) →
      wpAny (model prog w) A (eval elt (compEnvC scope cl C env)) (LCg.CompEnd h₀ L m { s with heap := h, toks := tk } I oI C oC D (LCg.lst ys) S (fun y news' => J (i + 1) (ys ++ [y]) news')) E' { s with heap := h, toks := tk })
    (fin : ∀ ys news, J n ys news → Fin ys news) : LCg.CompRest prog w A h₀ L m env elt x scope cl s S P Fin n 0 [] news := by
  have key : ∀ (k i : Nat) (ys : List Value) (news : List (Addr × Obj)), i + k = n → J i ys news → LCg.CompRest prog w A h₀ L m env elt x scope cl s S P Fin k i ys news := by
    intro k
    induction k with
    | zero =>
      intro i ys news hi hJ
      have e : i = n := by omega
      subst e
      exact LCg.CompRest.zero (fin ys news hJ)
    | succ k ih =>
      intro i ys news hi hJ
      refine LCg.CompRest.succ ?_
      intro v I oI C oC D m₂ h tk E' hv hC hx F N off ne
      refine wpAny_mono (turn i v ys news I oI C oC D m₂ h tk E' (by omega) hJ hv hC hx F N off ne) (fun y s₂ hq => ?_) fun _ _ e => e
      obtain ⟨h', tk', nw, e, F', N', off', hS, hn⟩ := hq
      exact ⟨h', tk', nw, e, F', N', off', hS, ih (i + 1) _ nw (by omega) hn⟩
  exact key n 0 [] news (by omega) h0

end
section
section
variable {prog : Program} {w : World} {A : Around} {E : Value → Shared → Prop} {s : Shared} {h h₀ : Heap} {g : Array GenState} {d : Drawn} {tk : Nat} {os : OsState} {L D : Addr} {m : Str → Option Value} {news news' : List (Addr × Obj)} {Q : Value → Shared → Prop} {c : Nat} {l : List Nat} {t ui : Tok} {value slice e1 : PySem.Expr} {pos : Pos}
theorem item_go (hl : l.length ≤ 1000) (hq : ∀ k t', Q (.str (tx [c]) t') { s with toks := k })
    (hs : subscripted slice false (.str (tx (c :: l)) t) (.int 0 ui) = operate [.str (tx (c :: l)) t, .int 0 ui] (getItem (.str (tx (c :: l)) t) (.int 0 ui)) := by with_unfolding_all rfl)
    (ht : ∀ r, letTemporaryGo value (.str (tx (c :: l)) t) r = pure () := by intro _; with_unfolding_all rfl) :
    wpAny (model prog w) A (subscriptTail value slice (.str (tx (c :: l)) t) (.int 0 ui)) Q E s := by
  have hn : (tx (c :: l)).length = l.length + 1 := by show (c :: l).toArray.size = _; rw [List.size_toArray]; rfl
  refine KXi.item hn (by omega) (by omega) (by omega) (fun _ => ?_) hs ht
  rw [item_head]
  exact hq _ _
theorem cut_tail (hF : Fr h₀ L h m) (hN : News h₀ L h news) (hl : l.length ≤ 1000) (k : ∀ h' t' k, Fr h₀ L h' m → News h₀ L h' news → Q (.str (tx l) t') ⟨h', g, d, k, os⟩) :
    wpAny (model prog w) A (subscriptTail value (.Slice (some e1) none none pos) (.str (tx (c :: l)) t) (.ref h.objs.size)) Q E ⟨h.push { cls := .type "slice", data := .fields #[.int 1 ui, .none, .none] }, g, d, tk, os⟩ := by
  have hn : (tx (c :: l)).length = l.length + 1 := by show (c :: l).toArray.size = _; rw [List.size_toArray]; rfl
  refine cut_sn hF hN (by omega) fun h' t' k' F' N' => ?_
  rw [slice_tail]
  exact k h' t' k' F' N'
end
theorem kin_cls {w : World} {KR : List (Addr × Obj)} {c3 : Addr} (hK : KIn w KR c3) : ∃ (t : Tok) (c2 c4 a2 a3 : Addr), (c3, clsO c3 c2 a3 t (t + 9)) ∈ KR := by
  cases hK with
  | mk t c2 c4 a2 a3 => exact ⟨t, c2, c4, a2, a3, .head _⟩
inductive ClsAt (c3 : Addr) (h : Heap) : Prop | mk (c2 a3 tk u2) (e : h.get? c3 = some (clsO c3 c2 a3 tk u2)) : ClsAt c3 h
theorem ClsAt.of {w : World} {KR news : List (Addr × Obj)} {c3 : Addr} {h₀ h : Heap} {L : Addr} (hK : KIn w KR c3) (hKR : ∀ p ∈ KR, p ∈ news) (N : News h₀ L h news) : ClsAt c3 h := by
  obtain ⟨t, c2, c4, a2, a3, h2⟩ := kin_cls hK
  exact ⟨_, _, _, _, (N _ (hKR _ h2)).1⟩
theorem keeps_C {M : Model} {c3 : Addr} (h : Heap) (X : ClsAt c3 h) : ∃ k, (k = Keeper.frame ∨ k = Keeper.machine ∨ k = Keeper.boundFrame) ∧ Looks M h (keeperOf (.ref c3)) k := by
  obtain ⟨c2, a3, tk, u2, e⟩ := X
  have sp : Looks M h (specialOf (.ref c3) "__call__") (some (.builtin "type.__call__")) := ((Looks.ld (part := none) e).andThen .now).andThen (Looks.of_pure (by show typeLookup (.type "type") (Str.ofString "__call__") = _; rw [typeLookup_type, builtinLookup_eq_fast]; kernel_rfl))
  exact ⟨.machine, .inr (.inl rfl), (Looks.ld (part := none) e).andThen (sp.andThen .now)⟩
theorem callWith_C {M : Model} {A : Around} {E : Value → Shared → Prop} {s : Shared} {env : Env} {pos : Pos} {c3 : Addr} {first : List Value} {Q : Value → Shared → Prop} {e : PySem.Expr} {rest : List PySem.Expr} {w : World} {KR : List (Addr × Obj)} (_hK : KIn w KR c3)
    (h : wpAny M A (spliced (backTo pos (starEach (e :: rest) env))) (fun vs s₁ => ClsAt c3 s₁.heap ∧ wpAny M A (call (.ref c3) (first ++ vs)) Q E s₁) E s)
    (he : starEach (e :: rest) env = (false, eval e env) :: starEach rest env := by rfl) (hplain : (backTo pos (starEach rest env)).any (·.1) = false := by rfl) :
    wpAny M A (callWith pos (.ref c3) first (backTo pos (starEach (e :: rest) env)) []) Q E s := by
  rw [he] at h ⊢
  exact callWith_of (by show ((false || (backTo pos (starEach rest env)).any (·.1)) || false) = false; rw [hplain]; rfl) keeps_C (evalArgs_plain h)
theorem news_swap {h₀ h : Heap} {L : Addr} {p q : Addr × Obj} {r : List (Addr × Obj)} (N : News h₀ L h (p :: q :: r)) : News h₀ L h (q :: p :: r) := fun x hx => by
  rcases List.mem_cons.mp hx with rfl | hx
  · exact N _ (.tail _ (.head _))
  rcases List.mem_cons.mp hx with rfl | hx
  · exact N _ (.head _)
  · exact N _ (.tail _ (.tail _ hx))
theorem ItOk.mono {R R' : List (Addr × Obj)} {c3 : Addr} {i : It} (h : ItOk R c3 i) (k : ∀ p ∈ R, p ∈ R') : ItOk R' c3 i := by
  obtain ⟨k1, d1, t1, t2, hl, a, b⟩ := h
  exact ⟨k1, d1, t1, t2, hl, k _ a, k _ b⟩
noncomputable abbrev ltI (i j : It) : Bool := tlt (xs i) (xs j)
noncomputable abbrev lstO (vs : List Value) (n : Nat) : Obj := listOf vs.toArray n
example : True := by
  (k_with "my_step" => (first | (k_unfold; (try dsimp only)) | walk1 | (dsimp only; walk1) | (leave1; try dsimp only)))
  trivial
theorem up1 {KR R : List (Addr × Obj)} {q : Addr × Obj} (h : ∀ p ∈ KR, p ∈ R) : ∀ p ∈ KR, p ∈ q :: R := fun p hp => .tail _ (h p hp)
theorem tx_le {l : List Nat} {c : Nat} (h : l.length ≤ 1000) : (tx (c :: l)).length ≤ 100000 := by
  have hn : (tx (c :: l)).length = l.length + 1 := by show (c :: l).toArray.size = _; rw [List.size_toArray]; rfl
  omega
example : True := by
  (k_with "my_txl" => exact tx_le (by assumption))
  (k_with "my_up" => first | assumption | exact fun _ hp => hp | (refine up1 ?_; walk_at "my_up"))
  (k_with "subscriptTail Name Constant str int" => (k_here; (with_reducible show wpAny _ _ (subscriptTail _ _ (Value.str (tx _) _) (Value.int 0 _)) _ _ _); k_dflt (refine' item_go ?hl_h ?_; (case hl_h => assumption); k_whole; intro k'_q t'_q)))
  (k_with "subscriptTail Name Slice str ref" => (k_here; (with_reducible show wpAny _ _ (subscriptTail _ (PySem.Expr.Slice (some _) none none _) (Value.str (tx _) _) (Value.ref _)) _ _ _); k_dflt (refine' cut_sn ?F_h ?N_h ?hsz_h ?_; (case F_h => k_asm); (case N_h => k_asm); (case hsz_h => walk_at "my_txl"); k_whole; intro h'_q t'_q tk'_q F'_q N'_q; rw [slice_tail])))
  (k_with "ite" => first | with_reducible refine my_ff ?_ | with_reducible refine my_tt ?_)
  (k_with "compareOp Eq str str" => (k_here; first | (refine' eq_lit false ?e_h ?_; (case e_h => decide +kernel)) | (refine' eq_lit true ?e_h ?_; (case e_h => decide +kernel))))
  (k_with "callWith ref" => (k_here; k_dflt (refine' callWith_C ?hK_h ?_; (case hK_h => assumption); k_whole)))
  (k_with "ClsAt" => (k_dflt (refine ClsAt.of (by assumption) ?_ (by k_asm); walk_at "my_up")))
  (k_with "call ref" => (k_here; (with_reducible show wpAny _ _ (call (Value.ref _) [Value.str _ _]) _ _ _); k_dflt (refine' mkkey_K ?hh_h ?hd_h ?hu_h ?hf_h ?F_h ?X_h ?N_h ?hK_h ?hKR_h _ _ ?_; (case hh_h => rfl); (case hf_h => rfl); (case hd_h => exact Nat.le_of_ble_eq_true rfl); (case hu_h => exact Nat.le_of_ble_eq_true rfl); (case F_h => k_asm); (case X_h => k_asm); (case N_h => k_asm); (case hK_h => assumption); (case hKR_h => walk_at "my_up"); k_whole; intro a'_q dd'_q h'_q tk'_q F'_q N'_q ne'_q; dsimp only [AllNe] at ne'_q)))
  (k_with "compareOp Eq ref ref" => (k_here; k_dflt (refine' eq_nil ?hu_h ?N_h ?hm_h ?hd_h ?_; (case hu_h => exact Nat.le_of_ble_eq_true rfl); (case N_h => k_asm); (case hm_h => k_mem); (case hd_h => k_mem); k_whole; intro tk'_q)))
  (k_with "compareOp NotEq ref ref" => (k_here; k_dflt (refine' ne_nil ?hu_h ?N_h ?hm_h ?hd_h ?_; (case hu_h => exact Nat.le_of_ble_eq_true rfl); (case N_h => k_asm); (case hm_h => k_mem); (case hd_h => k_mem); k_whole; intro tk'_q)))
  trivial
section
variable {h₀ h : Heap} {L : Addr} {a b c d p : Addr × Obj} {r : List (Addr × Obj)}
theorem pull2 (N : News h₀ L h (a :: b :: p :: r)) : News h₀ L h (p :: a :: b :: r) := fun x hx => N x (by
  simp only [List.mem_cons] at hx ⊢
  rcases hx with z | z | z | z <;> simp [z])
theorem pull3 (N : News h₀ L h (a :: b :: c :: p :: r)) : News h₀ L h (p :: a :: b :: c :: r) := fun x hx => N x (by
  simp only [List.mem_cons] at hx ⊢
  rcases hx with z | z | z | z | z <;> simp [z])
theorem pull4 (N : News h₀ L h (a :: b :: c :: d :: p :: r)) : News h₀ L h (p :: a :: b :: c :: d :: r) := fun x hx => N x (by
  simp only [List.mem_cons] at hx ⊢
  rcases hx with z | z | z | z | z | z <;> simp [z])
end
theorem oks_snoc {R R₁ : List (Addr × Obj)} {c3 : Addr} {its : List It} {i : It} (hok : ∀ j ∈ its, ItOk R c3 j) (k : ∀ p ∈ R, p ∈ R₁) (hi : ItOk R₁ c3 i) : ∀ j ∈ its ++ [i], ItOk R₁ c3 j := fun j hj => by
  rcases List.mem_append.mp hj with hj | hj
  · exact (hok j hj).mono k
  · rw [List.mem_singleton.mp hj]; exact hi
example : True := by
  (k_with "my_pull" => first | k_asm | exact news_swap (by k_asm) | exact pull2 (by k_asm) | exact pull3 (by k_asm) | exact pull4 (by k_asm))
  (k_with "my_apart" => first | assumption | (refine List.forall_mem_cons.mpr ⟨?_, ?_⟩; (first | assumption | k_ne | exact Ne.symm (by assumption)); (walk_at "my_apart")) | exact allNe_to (by assumption))
  (k_with "my_heap" => ((case hh => rfl); (case hf => rfl); (case hg => rfl); (case hd => exact Nat.le_of_ble_eq_true rfl); (case hu => exact Nat.le_of_ble_eq_true rfl); (case B => k_asm); (case F => k_asm); (case X => k_asm); (case N => walk_at "my_pull"); (case T => k_asm); (case K => first | assumption | exact rfl)))
  (k_with "my_item" => exact ⟨_, _, _, _, by assumption, by k_mem, by k_mem⟩)
  (k_with "call ref" => (k_here; k_dflt ((show wpAny _ _ (call (Value.ref 51) [Value.ref _, Value.ref _]) _ _ _); refine' (heappush_ctr _ _ ltI _ (tup_lt _ _ _ _ ?hK_h ?hKR_h) _ ?ap_h _ _ ⟨_, tx _⟩ (oks_snoc ?ok_h ?okR_h ?it_h) ?len_h).use ?hh ?hd ?hu ?hf ?hg ?B ?F ?X ?N ?T ?K ?_; walk_at "my_heap"; (case hK_h => assumption); (case hKR_h => walk_at "my_up"); (case ap_h => walk_at "my_apart"); (case ok_h => assumption); (case okR_h => walk_at "my_up"); (case it_h => walk_at "my_item"); (case len_h => omega); k_whole; rintro v'_q news'_q h'_q tk'_q ⟨e1_q, e2_q⟩ F'_q N'_q; subst e1_q; subst e2_q; (try k_sweep))))
  trivial
/-- what the law's fold keeps: the heap's items, what went out, the plain row -/
inductive StOk (c3 S H O : Addr) (n : Nat) (R : List (Addr × Obj)) (r ots : List (List Nat)) (news' : List (Addr × Obj)) : Prop
  | mk (its : List It) (ov : List Value) (e e2 : Nat) (R' : List (Addr × Obj)) (hs : ∀ p ∈ (S, listOf #[.ref H, .ref O, .ref c3] n) :: (H, lstO (vals its) e) :: (O, lstO ov e2) :: R', p ∈ news') (hR : ∀ p ∈ R, p ∈ R')
    (aS : ∀ p ∈ R', p.1 ≠ S) (aH : ∀ p ∈ R', p.1 ≠ H) (aO : ∀ p ∈ R', p.1 ≠ O) (hok : ∀ i ∈ its, ItOk R' c3 i) (ho : IsTxts ov ots) (Hd : Holds xs its r) : StOk c3 S H O n R r ots news'
theorem oks_push {R R₁ : List (Addr × Obj)} {c3 : Addr} {its : List It} {i : It} (hok : ∀ j ∈ its, ItOk R c3 j) (k : ∀ p ∈ R, p ∈ R₁) (hi : ItOk R₁ c3 i) (H : IsHeap ltI its) : ∀ j ∈ hpush ltI its i, ItOk R₁ c3 j := fun j hj => by
  have z := (hpush_ok _ (ord_by xs) its i H).2
  rcases List.mem_cons.mp (z.subset hj) with rfl | hj
  · exact hi
  · exact (hok j hj).mono k
example : True := by
  (k_with "my_sub" => first | exact fun _ h => absurd h List.not_mem_nil | exact fun _ h => h | (refine List.forall_mem_cons.mpr ⟨?_, ?_⟩; (k_mem); walk_at "my_sub") | (walk_at "my_up"))
  trivial
theorem st3 {c3 S H O : Addr} {n e e2 : Nat} {R : List (Addr × Obj)} {r ots : List (List Nat)} {its : List It} {ov : List Value} {a b c : Addr × Obj} (aS : ∀ p ∈ a :: b :: c :: R, p.1 ≠ S) (aH : ∀ p ∈ a :: b :: c :: R, p.1 ≠ H) (aO : ∀ p ∈ a :: b :: c :: R, p.1 ≠ O)
    (hi : ∀ i ∈ its, ItOk (a :: b :: c :: R) c3 i) (ho : IsTxts ov ots) (Hd : Holds xs its r) : StOk c3 S H O n R r ots ((H, lstO (vals its) e) :: a :: b :: c :: (S, listOf #[.ref H, .ref O, .ref c3] n) :: (O, lstO ov e2) :: R) :=
  ⟨its, ov, e, e2, a :: b :: c :: R, fun p hp => (by
    simp only [List.mem_cons] at hp ⊢
    rcases hp with z | z | z | z | z | z | z <;> simp [z]), fun p hp => .tail _ (.tail _ (.tail _ hp)), aS, aH, aO, hi, ho, Hd⟩
section
variable {prog : Program} {w : World} {A : Around} {E : Value → Shared → Prop} {s : Shared} {h₀ : Heap} {L H D k : Addr} {m : Str → Option Value} {news news' : List (Addr × Obj)} {vs : List Value} {n e : Nat} {Q : Value → Shared → Prop} {x : Str} {t1 : Tok} {a : Addr} {value slice : PySem.Expr} {u : Tok}
theorem eq_nilb (b : Bool) (hb : decide (vs = []) = b) (hu : A.units < cLine) (N : News h₀ L s.heap news) (hm : (H, listOf vs.toArray e) ∈ news) (hd : (D, listOf #[] n) ∈ news) (h : ∀ tk, Q (.bool b) { s with toks := tk }) :
    wpAny (model prog w) A (compareOp .Eq (.ref H) (.ref D)) Q E s := eq_nil hu N hm hd (hb ▸ h)
theorem ne_nilb (b : Bool) (hb : decide (vs ≠ []) = b) (hu : A.units < cLine) (N : News h₀ L s.heap news) (hm : (H, listOf vs.toArray e) ∈ news) (hd : (D, listOf #[] n) ∈ news) (h : ∀ tk, Q (.bool b) { s with toks := tk }) :
    wpAny (model prog w) A (compareOp .NotEq (.ref H) (.ref D)) Q E s := ne_nil hu N hm hd (hb ▸ h)
theorem item1 (N : News h₀ L s.heap news) (hm : (a, tupObj k x t1) ∈ news) (h : Q (.str x t1) s)
    (hs : subscripted slice false (.ref a) (.int 1 u) = operate [.ref a, .int 1 u] (getItem (.ref a) (.int 1 u)) := by with_unfolding_all rfl) :
    wpAny (model prog w) A (subscriptTail value slice (.ref a) (.int 1 u)) Q E s :=
  item_tupleT (l := [.ref k, .str x t1]) (j := 1) ⟨_, (N _ hm).1, rfl, _, rfl⟩ (by decide) (by decide) rfl rfl h hs
theorem append_tx {l : List Nat} {t : Tok} {ov : List Value} (F : Fr h₀ L s.heap m) (N : News h₀ L s.heap news) (U : Upd D (lstO ov n) (lstO (ov ++ [.str (tx l) t]) (n + 1)) news news') (hl : ov.length < 1000)
    (h : ∀ h', Fr h₀ L h' m → News h₀ L h' news' → Q .none { s with heap := h' }) : wpAny (model prog w) A (call (.builtin "list.append") [.ref D, .str (tx l) t]) Q E s := by
  have e : ov.toArray.push (Value.str (tx l) t) = (ov ++ [Value.str (tx l) t]).toArray := by simp
  refine append_K F N (its := ov.toArray) (n := n) (news' := news') (by rw [e]; exact U) h (hsz := ?_)
  rw [List.size_toArray, sizeLine_eq]
  omega
end
example : True := by
  (k_with "compareOp Eq ref ref" => (k_here; k_dflt (refine' eq_nilb _ ?hb_h ?hu_h ?N_h ?hm_h ?hd_h ?_; (case hb_h => assumption); (case hu_h => exact Nat.le_of_ble_eq_true rfl); (case N_h => k_asm); (case hm_h => k_mem); (case hd_h => k_mem); k_whole; intro tk'_q)))
  (k_with "compareOp NotEq ref ref" => (k_here; k_dflt (refine' ne_nilb _ ?hb_h ?hu_h ?N_h ?hm_h ?hd_h ?_; (case hb_h => assumption); (case hu_h => exact Nat.le_of_ble_eq_true rfl); (case N_h => k_asm); (case hm_h => k_mem); (case hd_h => k_mem); k_whole; intro tk'_q)))
  trivial
theorem st4 {c3 S H O : Addr} {n e e2 : Nat} {R : List (Addr × Obj)} {r ots : List (List Nat)} {its : List It} {ov : List Value} {a b c d : Addr × Obj} (aS : ∀ p ∈ a :: b :: c :: d :: R, p.1 ≠ S) (aH : ∀ p ∈ a :: b :: c :: d :: R, p.1 ≠ H) (aO : ∀ p ∈ a :: b :: c :: d :: R, p.1 ≠ O)
    (hi : ∀ i ∈ its, ItOk (a :: b :: c :: d :: R) c3 i) (ho : IsTxts ov ots) (Hd : Holds xs its r) : StOk c3 S H O n R r ots ((H, lstO (vals its) e) :: a :: b :: c :: d :: (S, listOf #[.ref H, .ref O, .ref c3] n) :: (O, lstO ov e2) :: R) :=
  ⟨its, ov, e, e2, a :: b :: c :: d :: R, fun p hp => (by
    simp only [List.mem_cons] at hp ⊢
    rcases hp with z | z | z | z | z | z | z | z <;> simp [z]), fun p hp => .tail _ (.tail _ (.tail _ (.tail _ hp))), aS, aH, aO, hi, ho, Hd⟩
theorem pull5 {h₀ h : Heap} {L : Addr} {a b c d e p : Addr × Obj} {r : List (Addr × Obj)} (N : News h₀ L h (a :: b :: c :: d :: e :: p :: r)) : News h₀ L h (p :: a :: b :: c :: d :: e :: r) := fun x hx => N x (by
  simp only [List.mem_cons] at hx ⊢
  rcases hx with z | z | z | z | z | z | z <;> simp [z])
example : True := by
  (k_with "my_pull" => first | k_asm | exact news_swap (by k_asm) | exact pull2 (by k_asm) | exact pull3 (by k_asm) | exact pull4 (by k_asm) | exact pull5 (by k_asm))
  trivial
theorem oks_mono {R R₁ : List (Addr × Obj)} {c3 : Addr} {its : List It} (hok : ∀ j ∈ its, ItOk R c3 j) (k : ∀ p ∈ R, p ∈ R₁) : ∀ j ∈ its, ItOk R₁ c3 j := fun j hj => (hok j hj).mono k
theorem append_v {prog : Program} {w : World} {A : Around} {E : Value → Shared → Prop} {s : Shared} {h₀ : Heap} {L D : Addr} {m : Str → Option Value} {news news' : List (Addr × Obj)} {n : Nat} {Q : Value → Shared → Prop} {v : Value} {ov : List Value} (F : Fr h₀ L s.heap m) (N : News h₀ L s.heap news) (U : Upd D (lstO ov n) (lstO (ov ++ [v]) (n + 1)) news news') (hl : ov.length < 1000)
    (h : ∀ h', Fr h₀ L h' m → News h₀ L h' news' → Q .none { s with heap := h' }) : wpAny (model prog w) A (call (.builtin "list.append") [.ref D, v]) Q E s := by
  have e : ov.toArray.push v = (ov ++ [v]).toArray := by simp
  refine append_K F N (its := ov.toArray) (n := n) (news' := news') (by rw [e]; exact U) h (hsz := ?_)
  rw [List.size_toArray, sizeLine_eq]
  omega
example : True := by
  (k_with "my_upd" => first | (refine' Upd.head ?a_h; (case a_h => walk_at "my_apart")) | (refine' Upd.tail ?a_h ?b_h; (case a_h => first | assumption | k_ne | exact Ne.symm (by assumption)); (case b_h => walk_at "my_upd")))
  (k_with "call builtin:list.append" => (k_here; k_dflt ((show wpAny _ _ (call (Value.builtin "list.append") [Value.ref _, Value.str _ _]) _ _ _); refine' append_v ?F_h ?N_h ?U_h ?hl_h ?_; (case F_h => k_asm); (case N_h => k_asm); (case U_h => walk_at "my_upd"); (case hl_h => omega); k_whole; intro h'_q F'_q N'_q)))
  trivial
theorem istxts_top {u : Tok} {x : Str} {t : List Nat} {vs : List Value} {ts : List (List Nat)} (h : IsTxts vs ts) (e : x.cps.toList = t) : IsTxts (vs ++ [.str x u]) (ts ++ [t]) := by
  subst e
  exact istxts_snoc (t := x.cps.toList) h
theorem oks_rep {R R₁ : List (Addr × Obj)} {c3 : Addr} {its : List It} {i : It} (hok : ∀ j ∈ its, ItOk R c3 j) (k : ∀ p ∈ R, p ∈ R₁) (hi : ItOk R₁ c3 i) (H : IsHeap ltI its) (h0 : 0 < its.length) : ∀ j ∈ hreplace ltI its i, ItOk R₁ c3 j := fun j hj => by
  have z := (hreplace_ok _ (ord_by xs) its i h0 H).2
  rcases List.mem_or_eq_of_mem_set (z.subset hj) with hj | rfl
  · exact (hok j hj).mono k
  · exact hi
theorem top_mem {its : List It} (h : 0 < its.length) : its[0]! ∈ its := (at0 h).1
example : True := by
  (k_with "subscriptTail" => (k_here; (with_reducible show wpAny _ _ (subscriptTail _ _ (Value.ref _) (Value.int 1 _)) _ _ _); k_dflt (refine' item1 ?N_h ?hm_h ?_; (case N_h => k_asm); (case hm_h => walk_at "my_memR"); k_whole)))
  (k_with "my_memR" => first | assumption | (refine List.Mem.tail _ ?_; walk_at "my_memR"))
  (k_with "call ref" => (k_here; k_dflt ((show wpAny _ _ (call (Value.ref 65) [Value.ref _, Value.ref ?xx]) _ _ _); refine' (heapreplace_ctr _ _ ltI _ (tup_lt _ _ _ _ ?hK_h ?hKR_h) _ ?ap_h _ _ ⟨?xx, tx _⟩ ?ok_h ?it_h ?h0_h ?len_h).use ?hh ?hd ?hu ?hf ?hg ?B ?F ?X ?N ?T ?K ?_; walk_at "my_heap"; (case hK_h => assumption); (case hKR_h => walk_at "my_up"); (case ap_h => walk_at "my_apart"); (case ok_h => exact oks_mono (by assumption) (by walk_at "my_up")); (case it_h => walk_at "my_item"); (case h0_h => assumption); (case len_h => omega); k_whole; rintro v'_q news'_q h'_q tk'_q ⟨e1_q, e2_q⟩ F'_q N'_q; subst e1_q; subst e2_q; (try k_sweep))))
  trivial
theorem st2m {c3 S H O : Addr} {n e e2 : Nat} {R : List (Addr × Obj)} {r ots : List (List Nat)} {its : List It} {ov : List Value} {a b : Addr × Obj} (aS : ∀ p ∈ a :: b :: R, p.1 ≠ S) (aH : ∀ p ∈ a :: b :: R, p.1 ≠ H) (aO : ∀ p ∈ a :: b :: R, p.1 ≠ O)
    (hi : ∀ i ∈ its, ItOk (a :: b :: R) c3 i) (ho : IsTxts ov ots) (Hd : Holds xs its r) : StOk c3 S H O n R r ots (a :: b :: (S, listOf #[.ref H, .ref O, .ref c3] n) :: (H, lstO (vals its) e) :: (O, lstO ov e2) :: R) :=
  ⟨its, ov, e, e2, a :: b :: R, fun p hp => (by
    simp only [List.mem_cons] at hp ⊢
    rcases hp with z | z | z | z | z | z <;> simp [z]), fun p hp => .tail _ (.tail _ hp), aS, aH, aO, hi, ho, Hd⟩
theorem st2 {c3 S H O : Addr} {n e e2 : Nat} {R : List (Addr × Obj)} {r ots : List (List Nat)} {its : List It} {ov : List Value} {a b : Addr × Obj} (aS : ∀ p ∈ a :: b :: R, p.1 ≠ S) (aH : ∀ p ∈ a :: b :: R, p.1 ≠ H) (aO : ∀ p ∈ a :: b :: R, p.1 ≠ O)
    (hi : ∀ i ∈ its, ItOk (a :: b :: R) c3 i) (ho : IsTxts ov ots) (Hd : Holds xs its r) : StOk c3 S H O n R r ots ((H, lstO (vals its) e) :: a :: b :: (S, listOf #[.ref H, .ref O, .ref c3] n) :: (O, lstO ov e2) :: R) :=
  ⟨its, ov, e, e2, a :: b :: R, fun p hp => (by
    simp only [List.mem_cons] at hp ⊢
    rcases hp with z | z | z | z | z | z <;> simp [z]), fun p hp => .tail _ (.tail _ hp), aS, aH, aO, hi, ho, Hd⟩
theorem oks_popd {R R₁ : List (Addr × Obj)} {c3 : Addr} {its : List It} (hok : ∀ j ∈ its, ItOk R c3 j) (k : ∀ p ∈ R, p ∈ R₁) (H : IsHeap ltI its) (h0 : 0 < its.length) : ∀ j ∈ hpop ltI its, ItOk R₁ c3 j := fun j hj =>
  (hok j ((hpop_ok _ (ord_by xs) its h0 H).2.subset (.tail _ hj))).mono k
example : True := by
  (k_with "call ref" => (k_here; k_dflt ((show wpAny _ _ (call (Value.ref 58) [Value.ref _]) _ _ _); refine' (heappop_ctr _ _ ltI _ (tup_lt _ _ _ _ ?hK_h ?hKR_h) _ ?ap_h _ _ ?ok_h ?h0_h ?len_h).use ?hh ?hd ?hu ?hf ?hg ?B ?F ?X ?N ?T ?K ?_; walk_at "my_heap"; (case hK_h => assumption); (case hKR_h => walk_at "my_up"); (case ap_h => walk_at "my_apart"); (case ok_h => exact oks_mono (by assumption) (by walk_at "my_up")); (case h0_h => assumption); (case len_h => omega); k_whole; rintro v'_q news'_q h'_q tk'_q ⟨e1_q, e2_q⟩ F'_q N'_q; subst e1_q; subst e2_q; (try k_sweep))))
  trivial
theorem pp1 {its : List It} {a : Addr} {t : List Nat} (h0 : 0 < its.length) (hb : tlt (xs its[0]!) t = true) : hpushpop ltI its ⟨a, tx t⟩ = (its[0]!, hreplace ltI its ⟨a, tx t⟩) := by
  have hb' : ltI its[0]! ⟨a, tx t⟩ = true := hb
  unfold hpushpop
  rw [if_neg (by omega), hb']; rfl
theorem pp2 {its : List It} {a : Addr} {t : List Nat} (hb : 0 < its.length → tlt (xs its[0]!) t = false) : hpushpop ltI its ⟨a, tx t⟩ = (⟨a, tx t⟩, its) := by
  unfold hpushpop
  by_cases h : its.length = 0
  · rw [if_pos h]
  · have hb' : ltI its[0]! ⟨a, tx t⟩ = false := hb (by omega)
    rw [if_neg h, hb']; rfl
theorem vals_nil_iff {its : List It} {r : List (List Nat)} (Hd : Holds xs its r) : vals its = [] ↔ r = [] := by
  have h := Hd.len
  constructor
  · intro e
    have : its.length = 0 := by rw [← vals_len, e]; rfl
    exact List.length_eq_zero_iff.mp (by omega)
  · intro e
    subst e
    have : its = [] := List.length_eq_zero_iff.mp h
    rw [this]; rfl
noncomputable def sgn (c : Nat) : Prop := c = 43 ∨ c = 45 ∨ c = 62 ∨ c = 60
noncomputable def SG1_s : {P : World → (List (Addr × Obj)) → (List (Addr × Obj)) → Addr → Addr → Addr → Addr → Nat → Nat → Nat → (List It) → (List Value) → (List (List Nat)) → (List (List Nat)) → (List Nat) → Tok → Program → (List Str) → (ExcName → Option Value) → (Str → Option Value) → (Str → Option Value) → (Option (List Code)) → Str → Scope → Addr → Value → (List (Str × Addr)) → (List Env) → Around → Heap → Heap → Addr → (Str → Option Value) → Shared → (Value → Shared → Prop) → (Value → Shared → Prop) → Heap → Addr → Tok → Tok → Addr → Heap → Nat → Prop // (∀ w KR R c3 S H O n e e2 its ov ots r t tkc pp ll mean mg mb gd cn cs a ccd cl outer A₀ base h₀ L m s Q E g'_q L'_q t8 t'_q D9 h9 tk, P w KR R c3 S H O n e e2 its ov ots r t tkc pp ll mean mg mb gd cn cs a ccd cl outer A₀ base h₀ L m s Q E g'_q L'_q t8 t'_q D9 h9 tk) → (∀ (w : World) (KR R : List (Addr × Obj)) (c3 : Addr) (hK : KIn w KR c3) (hKR : ∀ p ∈ KR, p ∈ R) (S H O : Addr) (n e e2 : Nat) (its : List It) (ov : List Value) (ots r : List (List Nat)) (c : Nat) (hc : sgn c) (t : List Nat) (tkc : Tok) (ht : t.length ≤ 1000) (nSH : S ≠ H) (nSO : S ≠ O) (nHO : H ≠ O) (hRS : ∀ p ∈ R, p.1 ≠ S) (hRH : ∀ p ∈ R, p.1 ≠ H) (hRO : ∀ p ∈ R, p.1 ≠ O) (hok : ∀ i ∈ its, ItOk R c3 i) (hl1 : its.length ≤ 20) (hl2 : ov.length ≤ 20) (ho : IsTxts ov ots) (Hd : Holds xs its r), Sat w 400 2000 829 [.ref S, .str (tx (c :: t)) tkc] ((S, listOf #[.ref H, .ref O, .ref c3] n) :: (H, lstO (vals its) e) :: (O, lstO ov e2) :: R) (fun v news' => v = .ref S ∧ StOk c3 S H O n R (dueStep (r, ots) (c :: t)).1 (dueStep (r, ots) (c :: t)).2 news'))} := by
  refine' ⟨_, fun HC1 => ?hcut⟩
  case hcut =>
    intro w KR R c3 hK hKR S H O n e e2 its ov ots r c hc t tkc ht nSH nSO nHO hRS hRH hRO hok hl1 hl2 ho Hd
    have hz := vals_nil_iff Hd
    have hlen := Hd.len
    have hpos : r ≠ [] → 0 < its.length := fun h => by
      have := List.length_pos_iff.mpr h; omega
    intro pp ll mean mg mb gd cn cs a ccd cl outer A₀ base h₀ L m s Q E B F X N T hk hret
    k_dflt (walk_at "my_enter2"); walk_at "my_in"
    repeat (first | (fail_if_success (with_reducible show wpAny _ _ (exec (Stmt.If _ _ _ _) _) _ _ _)); walk_at "my_step")
    rename Heap => h9
    rename Fr _ _ _ _ => F9
    rename News _ _ _ _ => N9
    rename_i t8 D9 h71 l9 h72 h73
    revert hK hKR c hc ht nSH nSO nHO hRS hRH hRO hok hl1 hl2 ho Hd hz hlen hpos B F X N T hk hret FG'_q B'_q X'_q T'_q l9 F9 N9
    exact HC1 w KR R c3 S H O n e e2 its ov ots r t tkc pp ll mean mg mb gd cn cs a ccd cl outer A₀ base h₀ L m s Q E g'_q L'_q t8 t'_q D9 h9 tk
@[irreducible] noncomputable def SG1_e : (World × (List (Addr × Obj)) × (List (Addr × Obj)) × Addr × Addr × Addr × Addr × Nat) × (Nat × Nat × (List It) × (List Value) × (List (List Nat)) × (List (List Nat)) × (List Nat) × Tok) × (Program × (List Str) × (ExcName → Option Value) × (Str → Option Value) × (Str → Option Value) × (Option (List Code)) × Str × Scope) × (Addr × Value × (List (Str × Addr)) × (List Env) × Around × Heap × Heap × Addr) × ((Str → Option Value) × Shared × (Value → Shared → Prop) × (Value → Shared → Prop) × Heap × Addr × Tok × Tok) × (Addr × Heap × Nat) := Ep (by first | infer_instance | (repeat' (first | exact neW | exact neA | exact neS | infer_instance | refine neP ?_ ?_ | (refine ⟨?_⟩; constructor <;> exact default) | (refine ⟨?_⟩; constructor)))) fun x => SG1_s.1 x.1.1 x.1.2.1 x.1.2.2.1 x.1.2.2.2.1 x.1.2.2.2.2.1 x.1.2.2.2.2.2.1 x.1.2.2.2.2.2.2.1 x.1.2.2.2.2.2.2.2 x.2.1.1 x.2.1.2.1 x.2.1.2.2.1 x.2.1.2.2.2.1 x.2.1.2.2.2.2.1 x.2.1.2.2.2.2.2.1 x.2.1.2.2.2.2.2.2.1 x.2.1.2.2.2.2.2.2.2 x.2.2.1.1 x.2.2.1.2.1 x.2.2.1.2.2.1 x.2.2.1.2.2.2.1 x.2.2.1.2.2.2.2.1 x.2.2.1.2.2.2.2.2.1 x.2.2.1.2.2.2.2.2.2.1 x.2.2.1.2.2.2.2.2.2.2 x.2.2.2.1.1 x.2.2.2.1.2.1 x.2.2.2.1.2.2.1 x.2.2.2.1.2.2.2.1 x.2.2.2.1.2.2.2.2.1 x.2.2.2.1.2.2.2.2.2.1 x.2.2.2.1.2.2.2.2.2.2.1 x.2.2.2.1.2.2.2.2.2.2.2 x.2.2.2.2.1.1 x.2.2.2.2.1.2.1 x.2.2.2.2.1.2.2.1 x.2.2.2.2.1.2.2.2.1 x.2.2.2.2.1.2.2.2.2.1 x.2.2.2.2.1.2.2.2.2.2.1 x.2.2.2.2.1.2.2.2.2.2.2.1 x.2.2.2.2.1.2.2.2.2.2.2.2 x.2.2.2.2.2.1 x.2.2.2.2.2.2.1 x.2.2.2.2.2.2.2
namespace SG1
noncomputable section
 @[irreducible] def w := SG1_e.1.1
 @[irreducible] def KR := SG1_e.1.2.1
 @[irreducible] def R := SG1_e.1.2.2.1
 @[irreducible] def c3 := SG1_e.1.2.2.2.1
 @[irreducible] def S := SG1_e.1.2.2.2.2.1
 @[irreducible] def H := SG1_e.1.2.2.2.2.2.1
 @[irreducible] def O := SG1_e.1.2.2.2.2.2.2.1
 @[irreducible] def n := SG1_e.1.2.2.2.2.2.2.2
 @[irreducible] def e := SG1_e.2.1.1
 @[irreducible] def e2 := SG1_e.2.1.2.1
 @[irreducible] def its := SG1_e.2.1.2.2.1
 @[irreducible] def ov := SG1_e.2.1.2.2.2.1
 @[irreducible] def ots := SG1_e.2.1.2.2.2.2.1
 @[irreducible] def r := SG1_e.2.1.2.2.2.2.2.1
 @[irreducible] def t := SG1_e.2.1.2.2.2.2.2.2.1
 @[irreducible] def tkc := SG1_e.2.1.2.2.2.2.2.2.2
 @[irreducible] def pp := SG1_e.2.2.1.1
 @[irreducible] def ll := SG1_e.2.2.1.2.1
 @[irreducible] def mean := SG1_e.2.2.1.2.2.1
 @[irreducible] def mg := SG1_e.2.2.1.2.2.2.1
 @[irreducible] def mb := SG1_e.2.2.1.2.2.2.2.1
 @[irreducible] def gd := SG1_e.2.2.1.2.2.2.2.2.1
 @[irreducible] def cn := SG1_e.2.2.1.2.2.2.2.2.2.1
 @[irreducible] def cs := SG1_e.2.2.1.2.2.2.2.2.2.2
 @[irreducible] def a := SG1_e.2.2.2.1.1
 @[irreducible] def ccd := SG1_e.2.2.2.1.2.1
 @[irreducible] def cl := SG1_e.2.2.2.1.2.2.1
 @[irreducible] def outer := SG1_e.2.2.2.1.2.2.2.1
 @[irreducible] def A₀ := SG1_e.2.2.2.1.2.2.2.2.1
 @[irreducible] def base := SG1_e.2.2.2.1.2.2.2.2.2.1
 @[irreducible] def h₀ := SG1_e.2.2.2.1.2.2.2.2.2.2.1
 @[irreducible] def L := SG1_e.2.2.2.1.2.2.2.2.2.2.2
 @[irreducible] def m := SG1_e.2.2.2.2.1.1
 @[irreducible] def s := SG1_e.2.2.2.2.1.2.1
 @[irreducible] def Q := SG1_e.2.2.2.2.1.2.2.1
 @[irreducible] def E := SG1_e.2.2.2.2.1.2.2.2.1
 @[irreducible] def g'_q := SG1_e.2.2.2.2.1.2.2.2.2.1
 @[irreducible] def L'_q := SG1_e.2.2.2.2.1.2.2.2.2.2.1
 @[irreducible] def t8 := SG1_e.2.2.2.2.1.2.2.2.2.2.2.1
 @[irreducible] def t'_q := SG1_e.2.2.2.2.1.2.2.2.2.2.2.2
 @[irreducible] def D9 := SG1_e.2.2.2.2.2.1
 @[irreducible] def h9 := SG1_e.2.2.2.2.2.2.1
 @[irreducible] def tk := SG1_e.2.2.2.2.2.2.2
end
end SG1
section
open SG1
theorem SG1_b : SG1_s.1 SG1.w SG1.KR SG1.R SG1.c3 SG1.S SG1.H SG1.O SG1.n SG1.e SG1.e2 SG1.its SG1.ov SG1.ots SG1.r SG1.t SG1.tkc SG1.pp SG1.ll SG1.mean SG1.mg SG1.mb SG1.gd SG1.cn SG1.cs SG1.a SG1.ccd SG1.cl SG1.outer SG1.A₀ SG1.base SG1.h₀ SG1.L SG1.m SG1.s SG1.Q SG1.E SG1.g'_q SG1.L'_q SG1.t8 SG1.t'_q SG1.D9 SG1.h9 SG1.tk := by
  intro hK hKR c hc ht nSH nSO nHO hRS hRH hRO hok hl1 hl2 ho Hd hz hlen hpos B F X N T hk hret FG'_q B'_q X'_q T'_q l9 F9 N9
  rcases hc with rfl | rfl | rfl | rfl
  · have z : dueStep (r, ots) (43 :: t) = (r ++ [t], ots) := rfl
    rw [z] at hret
    repeat' walk_at "my_step"
    refine' hret _ _ _ _ ⟨rfl, st3 ?aS_1 ?aH_1 ?aO_1 ?its_1 ho ?hq_1⟩ (by k_asm) (by k_asm)
    case hq_1 => exact Hd.push _
    case its_1 => exact oks_push hok (by walk_at "my_up") (by walk_at "my_item") Hd.1
    case aS_1 => walk_at "my_apart"
    case aH_1 => walk_at "my_apart"
    case aO_1 => walk_at "my_apart"
  · by_cases h : r = []
    · have z : dueStep (r, ots) (45 :: t) = (r, ots) := by rw [h]; rfl
      rw [z] at hret
      have hn : decide (vals its ≠ []) = false := by simp [hz.mpr h]
      repeat' walk_at "my_step"
      refine' hret _ _ _ _ ⟨rfl, st2m ?aS_2 ?aH_2 ?aO_2 ?its_2 ho Hd⟩ (by k_asm) (by k_asm)
      case its_2 => exact oks_mono hok (by walk_at "my_up")
      case aS_2 => walk_at "my_apart"
      case aH_2 => walk_at "my_apart"
      case aO_2 => walk_at "my_apart"
    · have z : dueStep (r, ots) (45 :: t) = (r.erase (mini r), ots ++ [mini r]) := by simp [dueStep, h]
      rw [z] at hret
      have h0 := hpos h
      have hn : decide (vals its ≠ []) = true := by simpa using fun q => h (hz.mp (by simpa using q))
      obtain ⟨kt, dt, u1, u2, lt', mt1, mt2⟩ := hok _ (top_mem h0)
      repeat' walk_at "my_step"
      refine' hret _ _ _ _ ⟨rfl, st2 ?aS_3 ?aH_3 ?aO_3 ?its_3 (istxts_top ho (Hd.top h0)) ?hq_3⟩ (by k_asm) (by k_asm)
      case hq_3 => exact Hd.pop h0
      case its_3 => exact oks_popd hok (by walk_at "my_up") Hd.1 h0
      case aS_3 => walk_at "my_apart"
      case aH_3 => walk_at "my_apart"
      case aO_3 => walk_at "my_apart"
  · by_cases h : r = []
    · have z : dueStep (r, ots) (62 :: t) = (r ++ [t], ots) := by rw [h]; rfl
      rw [z] at hret
      have hn : decide (vals its = []) = true := by simp [hz.mpr h]
      repeat' walk_at "my_step"
      refine' hret _ _ _ _ ⟨rfl, st4 ?aS_4 ?aH_4 ?aO_4 ?its_4 ho ?hq_4⟩ (by k_asm) (by k_asm)
      case hq_4 => exact Hd.push _
      case its_4 => exact oks_push hok (by walk_at "my_up") (by walk_at "my_item") Hd.1
      case aS_4 => walk_at "my_apart"
      case aH_4 => walk_at "my_apart"
      case aO_4 => walk_at "my_apart"
    · have z : dueStep (r, ots) (62 :: t) = (r.erase (mini r) ++ [t], ots ++ [mini r]) := by simp [dueStep, h]
      rw [z] at hret
      have h0 := hpos h
      have hn : decide (vals its = []) = false := by simpa using fun q => h (hz.mp (by simpa using q))
      obtain ⟨kt, dt, u1, u2, lt', mt1, mt2⟩ := hok _ (top_mem h0)
      repeat (first | (fail_if_success (with_reducible show wpAny _ _ (call (Value.ref 65) _) _ _ _)); walk_at "my_step")
      refine' (heapreplace_ctr _ _ ltI _ (tup_lt _ _ _ _ ?hK_5 ?hKR_5) _ ?ap_5 _ _ ⟨_, tx t⟩ ?ok_5 ?it_5 ?h0_5 ?len_5).use ?hh_5 ?hd_5 ?hu_5 ?hf_5 ?hg_5 ?B_5 ?F_5 ?X_5 ?N_5 ?T_5 ?K_5 ?_
      (case hh_5 => rfl)
      (case hf_5 => rfl)
      (case hg_5 => rfl)
      (case hd_5 => exact Nat.le_of_ble_eq_true rfl)
      (case hu_5 => exact Nat.le_of_ble_eq_true rfl)
      (case B_5 => k_asm)
      (case F_5 => k_asm)
      (case X_5 => k_asm)
      (case N_5 => walk_at "my_pull")
      (case T_5 => k_asm)
      (case K_5 => first | assumption | exact rfl)
      (case hK_5 => assumption)
      (case hKR_5 => walk_at "my_up")
      (case ap_5 => walk_at "my_apart")
      (case ok_5 => exact fun j hj => (hok j hj).mono (by walk_at "my_up"))
      (case it_5 => walk_at "my_item")
      (case h0_5 => assumption)
      (case len_5 => omega)
      rintro v' news' h' tk' ⟨e1, e2⟩ F' N'; subst e1; subst e2
      repeat' walk_at "my_step"
      refine' hret _ _ _ _ ⟨rfl, st4 ?aS_5 ?aH_5 ?aO_5 ?its_5 (istxts_top ho (Hd.top h0)) ?hq_5⟩ (by k_asm) (by k_asm)
      case hq_5 => exact Hd.replace h0 _
      case its_5 => exact oks_rep hok (by walk_at "my_up") (by walk_at "my_item") Hd.1 h0
      case aS_5 => walk_at "my_apart"
      case aH_5 => walk_at "my_apart"
      case aO_5 => walk_at "my_apart"
  · have z : dueStep (r, ots) (60 :: t) = ((r ++ [t]).erase (mini (r ++ [t])), ots ++ [mini (r ++ [t])]) := by simp [dueStep]
    rw [z] at hret
    cases hb : decide (0 < its.length) && tlt (xs its[0]!) t
    · have hb : 0 < its.length → tlt (xs its[0]!) t = false := fun q => by rw [decide_eq_true q] at hb; exact hb
      repeat (first | (fail_if_success (with_reducible show wpAny _ _ (call (Value.ref 72) _) _ _ _)); walk_at "my_step")
      refine' (heappushpop_ctr _ _ ltI _ (tup_lt _ _ _ _ ?hK_7 ?hKR_7) _ ?ap_7 _ _ ⟨_, tx t⟩ ?ok_7 ?it_7 ?len_7).use ?hh_7 ?hd_7 ?hu_7 ?hf_7 ?hg_7 ?B_7 ?F_7 ?X_7 ?N_7 ?T_7 ?K_7 ?_
      (case hh_7 => rfl)
      (case hf_7 => rfl)
      (case hg_7 => rfl)
      (case hd_7 => exact Nat.le_of_ble_eq_true rfl)
      (case hu_7 => exact Nat.le_of_ble_eq_true rfl)
      (case B_7 => k_asm)
      (case F_7 => k_asm)
      (case X_7 => k_asm)
      (case N_7 => walk_at "my_pull")
      (case T_7 => k_asm)
      (case K_7 => first | assumption | exact rfl)
      (case hK_7 => assumption)
      (case hKR_7 => walk_at "my_up")
      (case ap_7 => walk_at "my_apart")
      (case ok_7 => exact oks_mono (by assumption) (by walk_at "my_up"))
      (case it_7 => walk_at "my_item")
      (case len_7 => omega)
      rintro v' news' h' tk' ⟨e1, e2⟩ F' N'
      rw [pp2 hb] at e1 e2
      dsimp only at e1 e2; subst e1; subst e2
      repeat' walk_at "my_step"
      refine' hret _ _ _ _ ⟨rfl, st3 ?aS_7 ?aH_7 ?aO_7 ?its_7 (istxts_top ho (Hd.pp_not ⟨0, tx t⟩ hb).1) ?hq_7⟩ (by k_asm) (by k_asm)
      case hq_7 => exact (Hd.pp_not ⟨0, tx t⟩ hb).2
      case its_7 => exact oks_mono hok (by walk_at "my_up")
      case aS_7 => walk_at "my_apart"
      case aH_7 => walk_at "my_apart"
      case aO_7 => walk_at "my_apart"
    · have h0 : 0 < its.length := of_decide_eq_true (Bool.and_eq_true_iff.mp hb).1
      have hb : tlt (xs its[0]!) t = true := (Bool.and_eq_true_iff.mp hb).2
      obtain ⟨kt, dt, u1, u2, lt', mt1, mt2⟩ := hok _ (top_mem h0)
      repeat (first | (fail_if_success (with_reducible show wpAny _ _ (call (Value.ref 72) _) _ _ _)); walk_at "my_step")
      refine' (heappushpop_ctr _ _ ltI _ (tup_lt _ _ _ _ ?hK_8 ?hKR_8) _ ?ap_8 _ _ ⟨_, tx t⟩ ?ok_8 ?it_8 ?len_8).use ?hh_8 ?hd_8 ?hu_8 ?hf_8 ?hg_8 ?B_8 ?F_8 ?X_8 ?N_8 ?T_8 ?K_8 ?_
      (case hh_8 => rfl)
      (case hf_8 => rfl)
      (case hg_8 => rfl)
      (case hd_8 => exact Nat.le_of_ble_eq_true rfl)
      (case hu_8 => exact Nat.le_of_ble_eq_true rfl)
      (case B_8 => k_asm)
      (case F_8 => k_asm)
      (case X_8 => k_asm)
      (case N_8 => walk_at "my_pull")
      (case T_8 => k_asm)
      (case K_8 => first | assumption | exact rfl)
      (case hK_8 => assumption)
      (case hKR_8 => walk_at "my_up")
      (case ap_8 => walk_at "my_apart")
      (case ok_8 => exact oks_mono (by assumption) (by walk_at "my_up"))
      (case it_8 => walk_at "my_item")
      (case len_8 => omega)
      rintro v' news' h' tk' ⟨e1, e2⟩ F' N'
      rw [pp1 h0 hb] at e1 e2
      dsimp only at e1 e2; subst e1; subst e2
      repeat' walk_at "my_step"
      refine' hret _ _ _ _ ⟨rfl, st3 ?aS_8 ?aH_8 ?aO_8 ?its_8 (istxts_top ho (Hd.pp h0 ⟨0, tx t⟩ hb).1) ?hq_8⟩ (by k_asm) (by k_asm)
      case hq_8 => exact (Hd.pp h0 _ hb).2
      case its_8 => exact oks_rep hok (by walk_at "my_up") (by walk_at "my_item") Hd.1 h0
      case aS_8 => walk_at "my_apart"
      case aH_8 => walk_at "my_apart"
      case aO_8 => walk_at "my_apart"

end
theorem step_go (w : World) (KR R : List (Addr × Obj)) (c3 : Addr) (hK : KIn w KR c3) (hKR : ∀ p ∈ KR, p ∈ R) (S H O : Addr) (n e e2 : Nat) (its : List It) (ov : List Value) (ots r : List (List Nat)) (c : Nat) (hc : sgn c) (t : List Nat) (tkc : Tok) (ht : t.length ≤ 1000)
    (nSH : S ≠ H) (nSO : S ≠ O) (nHO : H ≠ O) (hRS : ∀ p ∈ R, p.1 ≠ S) (hRH : ∀ p ∈ R, p.1 ≠ H) (hRO : ∀ p ∈ R, p.1 ≠ O) (hok : ∀ i ∈ its, ItOk R c3 i) (hl1 : its.length ≤ 20) (hl2 : ov.length ≤ 20) (ho : IsTxts ov ots) (Hd : Holds xs its r) :
    Sat w 400 2000 829 [.ref S, .str (tx (c :: t)) tkc] ((S, listOf #[.ref H, .ref O, .ref c3] n) :: (H, lstO (vals its) e) :: (O, lstO ov e2) :: R) (fun v news' => v = .ref S ∧ StOk c3 S H O n R (dueStep (r, ots) (c :: t)).1 (dueStep (r, ots) (c :: t)).2 news') := by
  exact SG1_s.2 (fun w KR R c3 S H O n e e2 its ov ots r t tkc pp ll mean mg mb gd cn cs a ccd cl outer A₀ base h₀ L m s Q E g'_q L'_q t8 t'_q D9 h9 tk => ep_all _ (P := fun x => SG1_s.1 x.1.1 x.1.2.1 x.1.2.2.1 x.1.2.2.2.1 x.1.2.2.2.2.1 x.1.2.2.2.2.2.1 x.1.2.2.2.2.2.2.1 x.1.2.2.2.2.2.2.2 x.2.1.1 x.2.1.2.1 x.2.1.2.2.1 x.2.1.2.2.2.1 x.2.1.2.2.2.2.1 x.2.1.2.2.2.2.2.1 x.2.1.2.2.2.2.2.2.1 x.2.1.2.2.2.2.2.2.2 x.2.2.1.1 x.2.2.1.2.1 x.2.2.1.2.2.1 x.2.2.1.2.2.2.1 x.2.2.1.2.2.2.2.1 x.2.2.1.2.2.2.2.2.1 x.2.2.1.2.2.2.2.2.2.1 x.2.2.1.2.2.2.2.2.2.2 x.2.2.2.1.1 x.2.2.2.1.2.1 x.2.2.2.1.2.2.1 x.2.2.2.1.2.2.2.1 x.2.2.2.1.2.2.2.2.1 x.2.2.2.1.2.2.2.2.2.1 x.2.2.2.1.2.2.2.2.2.2.1 x.2.2.2.1.2.2.2.2.2.2.2 x.2.2.2.2.1.1 x.2.2.2.2.1.2.1 x.2.2.2.2.1.2.2.1 x.2.2.2.2.1.2.2.2.1 x.2.2.2.2.1.2.2.2.2.1 x.2.2.2.2.1.2.2.2.2.2.1 x.2.2.2.2.1.2.2.2.2.2.2.1 x.2.2.2.2.1.2.2.2.2.2.2.2 x.2.2.2.2.2.1 x.2.2.2.2.2.2.1 x.2.2.2.2.2.2.2) (by with_unfolding_all exact SG1_b) ((w, KR, R, c3, S, H, O, n), (e, e2, its, ov, ots, r, t, tkc), (pp, ll, mean, mg, mb, gd, cn, cs), (a, ccd, cl, outer, A₀, base, h₀, L), (m, s, Q, E, g'_q, L'_q, t8, t'_q), (D9, h9, tk))) w KR R c3 hK hKR S H O n e e2 its ov ots r c hc t tkc ht nSH nSO nHO hRS hRH hRO hok hl1 hl2 ho Hd

end
section
example : True := by
  (k_with "my_step" => (first | (k_unfold; (try dsimp only)) | walk1 | (dsimp only; walk1) | (leave1; try dsimp only)))
  trivial
noncomputable abbrev liObj (l : Addr) (i : Nat) : Obj := { cls := .type "list_iterator", data := .fields #[.ref l, .int i 0] }
theorem iter_list {prog : Program} {w : World} {A : Around} {E : Value → Shared → Prop} {s : Shared} {h₀ : Heap} {L l : Addr} {m : Str → Option Value} {news : List (Addr × Obj)} {vs : List Value} {n : Nat} {Q : Value → Shared → Prop}
    (F : Fr h₀ L s.heap m) (N : News h₀ L s.heap news) (hm : (l, listOf vs.toArray n) ∈ news)
    (h : ∀ (I : Addr) h', Fr h₀ L h' m → News h₀ L h' ((I, liObj l 0) :: news) → (∀ p ∈ news, p.1 ≠ I) → Q (.ref I) { s with heap := h' }) :
    wpAny (model prog w) A (call (.builtin "iter") [.ref l]) Q E s := by
  have hl := PySem.IsL.isList (n := n) (N _ hm).1
  refine call_function_entry (by decide +kernel) (by decide +kernel) kdk_entry_iter (kdk_args_iter _) ?_
  unfold Builtin.«iter»
  refine wpAny_bind (m := someArgs "iter" 1 2 _) (wpAny_of_eq (a := [Value.ref l]) (by first | rfl | kernel_rfl!) ?_)
  show wpAny _ _ (pyIter (.ref l) >>= _) _ _ _
  refine wpAny_bind (wpAny_pyIter_list hl ?_)
  exact wpAny_pure ⟨_, rfl, h _ _ (F.push _) (News.push F N _ rfl) (fun q hq => Nat.ne_of_lt (Heap.lt_size (N q hq).1))⟩
noncomputable def TurnEnd (h₀ : Heap) (L I : Addr) (oI : Obj) (J : (Str → Option Value) → List (Addr × Obj) → Prop) (s₁ : Shared) (f : Flow) (s₂ : Shared) : Prop :=
  f = .next ∧ ∃ h' tk m₂ news₂, s₂ = { s₁ with heap := h', toks := tk } ∧ Fr h₀ L h' m₂ ∧ News h₀ L h' ((I, oI) :: news₂) ∧ (∀ p ∈ news₂, p.1 ≠ I) ∧ J m₂ news₂
/-- a for over an iterator of a list that the ledger holds; the ledger may grow -/
theorem loop_at {prog : Program} {w : World} {A : Around} {E : Value → Shared → Prop} {s : Shared} {env : Env} {h₀ : Heap} {x : Str} {body : List Stmt} {Q : Flow → Shared → Prop} {I l : Addr} {vs : List Value} {k : Nat} {m₀ : Str → Option Value} {news : List (Addr × Obj)}
    (hh : A.handled = none) (J : Nat → (Str → Option Value) → List (Addr × Obj) → Prop) (F : Fr h₀ env.locals s.heap m₀) (N : News h₀ env.locals s.heap ((I, liObj l 0) :: news)) (hn : ∀ p ∈ news, p.1 ≠ I) (hl : (l, listOf vs.toArray k) ∈ news) (h0 : J 0 m₀ news)
    (hJ : ∀ i m news, J i m news → (l, listOf vs.toArray k) ∈ news)
    (turn : ∀ i v m₁ news₁ h tk oI, vs[i]? = some v → i < vs.length → J i m₁ news₁ → (∀ p ∈ news₁, p.1 ≠ I) → oI.cls = .type "list_iterator" → Fr h₀ env.locals h (fun y => if y = x then some v else m₁ y) → News h₀ env.locals h ((I, oI) :: news₁) →
      wpAny (model prog w) A (execs body env) (TurnEnd h₀ env.locals I oI (J (i + 1)) { s with heap := h, toks := tk }) E { s with heap := h, toks := tk })
    (done : ∀ m₁ news₁ h tk, J vs.length m₁ news₁ → Fr h₀ env.locals h m₁ → News h₀ env.locals h news₁ → Q .next { s with heap := h, toks := tk }) :
    LoopAtV prog w A h₀ env x body Q E (.ref I) s := by
  have nI := N _ (.head _)
  have hI : s.heap.IsListIter I l 0 := ⟨_, nI.1, rfl, rfl⟩
  have Nn : News h₀ env.locals s.heap news := fun p hp => N p (.tail _ hp)
  have nl := Nn _ hl
  have hls : s.heap.IsList l vs.toArray := PySem.IsL.isList (n := k) nl.1
  have hlI : l ≠ I := hn _ hl
  have W := Walks.list (prog := prog) (w := w) hh I l hlI vs.toArray
  have hlen : vs.toArray.size = vs.length := List.size_toArray ..
  rw [hlen] at W
  refine ⟨_, _, _, vs.length, _, _, m₀, news, J, rfl, W, ?_, ?_, ?_, ⟨hI, hls⟩, F, Nn, h0, ?_, ?_⟩
  · intro hm
    rcases List.mem_cons.mp hm with e | hm
    · exact nI.2.1 e.symm
    · exact nl.2.1 (List.mem_singleton.mp hm).symm
  · intro b hb
    rw [List.mem_singleton.mp hb]
    exact nI.2.2
  · intro p hp hI
    exact hn p hp (List.mem_singleton.mp hI)
  · rintro i v m₁ news₁ s₁ own ⟨hh', tk', rfl⟩ hin hP hj hoff hown hget hfp hst F₁ N₁
    obtain ⟨oI, hoI, hoc, hod⟩ := id hst.1
    have hm1 : (I, oI) ∈ own := hfp I (by simp) nI.2.2 oI hoI
    have hoff' : ∀ p ∈ news₁, p.1 ≠ I := fun p hp q => hoff p hp (List.mem_singleton.mpr q)
    have N₂ : News h₀ env.locals hh' ((I, oI) :: news₁) := fun p hp => by
      rcases List.mem_cons.mp hp with rfl | hp
      · exact N₁ _ (List.mem_append_left _ hm1)
      · exact N₁ _ (List.mem_append_right _ hp)
    refine wpAny_mono (turn i v m₁ news₁ hh' tk' oI (by simpa using hP) hin hj hoff' hoc F₁ N₂) (fun f s₂ p => ?_) fun _ _ e => e
    obtain ⟨rfl, h', tk, m₂, news₂, rfl, F', N', hn', hj'⟩ := p
    refine LoopStepV.next (LoopStepU.intro F' (fun q hq => ?_) (fun q hq z => hn' q hq (List.mem_singleton.mp z)) hj')
    rcases List.mem_append.mp hq with hq | hq
    · have z := hget q hq
      rcases List.mem_cons.mp (hown q hq) with e | e
      · rw [e, hoI] at z
        have : q = (I, oI) := by
          obtain ⟨q1, q2⟩ := q
          simp at e z
          rw [e, z]
        rw [this]; exact N' _ (.head _)
      · have e' := List.mem_singleton.mp e
        have zl := (N₂ _ (.tail _ (hJ _ _ _ hj))).1
        rw [e', zl] at z
        have : q = (l, listOf vs.toArray k) := by
          obtain ⟨q1, q2⟩ := q
          simp at e' z
          rw [e', z]
        rw [this]; exact N' _ (.tail _ (hJ _ _ _ hj'))
    · exact N' _ (.tail _ hq)
  · rintro h' tk m' news' F' N' _ hj
    exact done m' news' h' tk hj F' N'
theorem iter_it {prog : Program} {w : World} {A : Around} {E : Value → Shared → Prop} {s : Shared} {env : Env} {h₀ : Heap} {x : Str} {body : List Stmt} {Q : Flow → Shared → Prop} {I l : Addr} {vs : List Value} {k : Nat} {m₀ : Str → Option Value} {news : List (Addr × Obj)}
    (hh : A.handled = none) (J : Nat → (Str → Option Value) → List (Addr × Obj) → Prop) (F : Fr h₀ env.locals s.heap m₀) (N : News h₀ env.locals s.heap ((I, liObj l 0) :: news)) (hn : ∀ p ∈ news, p.1 ≠ I) (hl : (l, listOf vs.toArray k) ∈ news) (h0 : J 0 m₀ news)
    (hJ : ∀ i m news, J i m news → (l, listOf vs.toArray k) ∈ news)
    (turn : ∀ i v m₁ news₁ h tk oI, vs[i]? = some v → i < vs.length → J i m₁ news₁ → (∀ p ∈ news₁, p.1 ≠ I) → oI.cls = .type "list_iterator" → Fr h₀ env.locals h (fun y => if y = x then some v else m₁ y) → News h₀ env.locals h ((I, oI) :: news₁) →
      wpAny (model prog w) A (execs body env) (TurnEnd h₀ env.locals I oI (J (i + 1)) { s with heap := h, toks := tk }) E { s with heap := h, toks := tk })
    (done : ∀ m₁ news₁ h tk, J vs.length m₁ news₁ → Fr h₀ env.locals h m₁ → News h₀ env.locals h news₁ → Q .next { s with heap := h, toks := tk }) :
    wpAny (model prog w) A (pyIter (.ref I)) (fun it s₂ => LoopAtV prog w A h₀ env x body Q E it s₂) E s 
  := wpAny_pyIter_listiter (i := 0) (l := l) ⟨_, (N _ (.head _)).1, rfl, rfl⟩ (loop_at hh J F N hn hl h0 hJ turn done)
theorem iter_new {prog : Program} {w : World} {A : Around} {E : Value → Shared → Prop} {s : Shared} {env : Env} {h₀ : Heap} {x : Str} {body : List Stmt} {Q : Flow → Shared → Prop} {l : Addr} {vs : List Value} {k : Nat} {m₀ : Str → Option Value} {news : List (Addr × Obj)}
    (hh : A.handled = none) (J : Nat → (Str → Option Value) → List (Addr × Obj) → Prop) (F : Fr h₀ env.locals s.heap m₀) (N : News h₀ env.locals s.heap news) (hl : (l, listOf vs.toArray k) ∈ news) (h0 : J 0 m₀ news)
    (hJ : ∀ i m news, J i m news → (l, listOf vs.toArray k) ∈ news)
    (turn : ∀ I i v m₁ news₁ h tk oI, vs[i]? = some v → i < vs.length → J i m₁ news₁ → (∀ p ∈ news₁, p.1 ≠ I) → oI.cls = .type "list_iterator" → Fr h₀ env.locals h (fun y => if y = x then some v else m₁ y) → News h₀ env.locals h ((I, oI) :: news₁) →
      wpAny (model prog w) A (execs body env) (TurnEnd h₀ env.locals I oI (J (i + 1)) { s with heap := h, toks := tk }) E { s with heap := h, toks := tk })
    (done : ∀ m₁ news₁ h tk, J vs.length m₁ news₁ → Fr h₀ env.locals h m₁ → News h₀ env.locals h news₁ → Q .next { s with heap := h, toks := tk }) :
    wpAny (model prog w) A (pyIter (.ref l)) (fun it s₂ => LoopAtV prog w A h₀ env x body Q E it s₂) E s := by
  have hls : s.heap.IsList l vs.toArray := PySem.IsL.isList (n := k) (N _ hl).1
  refine wpAny_pyIter_list hls ?_
  exact loop_at (s := { s with heap := _ }) hh J (F.push _) (News.push F N (liObj l 0) rfl) (fun q hq => Nat.ne_of_lt (Heap.lt_size (N q hq).1)) hl h0 hJ (turn _) done
theorem itok_off {R : List (Addr × Obj)} {c3 I L : Addr} {oI : Obj} {h₀ h : Heap} {i : It} (N : News h₀ L h R) (hI : (I, oI) ∈ R) (hc : oI.cls = .type "list_iterator") (h1 : ItOk R c3 i) : ItOk (R.filter fun p => decide (p.1 ≠ I)) c3 i := by
  obtain ⟨k1, d1, t1, t2, hl, a, b⟩ := h1
  have zI := (N _ hI).1
  have off : ∀ q ∈ R, q.2.cls ≠ .type "list_iterator" → q ∈ R.filter fun p => decide (p.1 ≠ I) := fun q hq hne => by
    rw [List.mem_filter]
    refine ⟨hq, decide_eq_true fun e => hne ?_⟩
    have z := (N q hq).1
    rw [e] at z
    dsimp only at zI
    rw [zI] at z
    rw [← Option.some.inj z]; exact hc
  have n1 : (Value.type "tuple") ≠ .type "list_iterator" := by decide
  exact ⟨k1, d1, t1, t2, hl, off _ a n1, off _ b nofun⟩
theorem due_len (s : List (List Nat) × List (List Nat)) (c : List Nat) : (dueStep s c).1.length ≤ s.1.length + 1 ∧ (dueStep s c).2.length ≤ s.2.length + 1 := by
  unfold dueStep
  by_cases h1 : c.headD 0 = 60
  · have h2 : ¬ ((c.headD 0 = 45 ∨ c.headD 0 = 62) ∧ s.1 ≠ []) := by omega
    have h3 : c.headD 0 ≠ 45 := by omega
    simp only [h1, if_true]
    rw [h1] at h2 h3
    simp only [if_neg h2, if_pos h3]
    refine ⟨?_, by simp⟩
    have := List.length_erase_le (a := mini (s.1 ++ [c.tail])) (l := s.1 ++ [c.tail])
    simp at this ⊢
    omega
  · simp only [if_neg h1]
    have := List.length_erase_le (a := mini s.1) (l := s.1)
    split <;> split <;> simp <;> omega
theorem fold_len (cs : List (List Nat)) : ∀ s : List (List Nat) × List (List Nat), (cs.foldl dueStep s).1.length ≤ s.1.length + cs.length ∧ (cs.foldl dueStep s).2.length ≤ s.2.length + cs.length := by
  induction cs with
  | nil => intro s; exact ⟨Nat.le_refl _, Nat.le_refl _⟩
  | cons c cs ih =>
    intro s
    have h1 := ih (dueStep s c)
    have h2 := due_len s c
    rw [List.foldl_cons, List.length_cons]
    omega
inductive RedJ (c3 S H O : Addr) (n : Nat) (RB : List (Addr × Obj)) (cs : List (List Nat)) (i : Nat) (m : Str → Option Value) (news : List (Addr × Obj)) : Prop
  | mk (f1 : m (Str.ofString "function") = some (.ref 829)) (f2 : m (Str.ofString "value") = some (.ref S)) (f3 : StOk c3 S H O n RB ((cs.take i).foldl dueStep ([], [])).1 ((cs.take i).foldl dueStep ([], [])).2 news) : RedJ c3 S H O n RB cs i m news
theorem red_ctr (w : World) (KR R : List (Addr × Obj)) (c3 : Addr) (hK : KIn w KR c3) (hKR : ∀ p ∈ KR, p ∈ R) (S H O l : Addr) (n e e2 e3 : Nat) (vs : List Value) (cms : List (List Nat)) (hi : IsTxts vs cms) (hc : ∀ c ∈ cms, ∃ a t, c = a :: t ∧ sgn a ∧ t.length ≤ 1000) (hlen : cms.length ≤ 20)
    (nSH : S ≠ H) (nSO : S ≠ O) (nHO : H ≠ O) (nlS : l ≠ S) (nlH : l ≠ H) (nlO : l ≠ O) (hRS : ∀ p ∈ R, p.1 ≠ S) (hRH : ∀ p ∈ R, p.1 ≠ H) (hRO : ∀ p ∈ R, p.1 ≠ O) :
    Sat w 350 1500 102 [.ref 829, .ref l, .ref S] ((S, listOf #[.ref H, .ref O, .ref c3] n) :: (H, lstO [] e) :: (O, lstO [] e2) :: (l, lstO vs e3) :: R) (fun v news' => v = .ref S ∧ StOk c3 S H O n ((l, lstO vs e3) :: R) (cms.foldl dueStep ([], [])).1 (cms.foldl dueStep ([], [])).2 news') := by
  intro pp ll mean mg mb gd cn cs a ccd cl outer A₀ base h₀ L m s Q E B F X N T hk hret
  k_dflt (walk_at "my_enter3"); walk_at "my_in"
  repeat (first | (fail_if_success (with_reducible show wpAny _ _ (call (Value.builtin "iter") _) _ _ _)); walk_at "my_step")
  k_dflt (refine' iter_list (n := e3) (vs := vs) ?F ?N ?hm ?_; (case F => k_asm); (case N => k_asm); (case hm => k_mem))
  intro I h₁ F' N' ne'
  repeat (first | (fail_if_success (with_reducible show wpAny _ _ (exec (Stmt.For _ _ _ _ _) _) _ _ _)); walk_at "my_step")
  rename Fr _ _ _ _ => lF'
  k_dflt (refine' For_invVF lF' ?k1 ?k2 ?_; (case k1 => exact rfl); (case k2 => exact rfl))
  walk_at "my_step"
  k_dflt (refine' iter_it (I := I) (l := l) (vs := vs) (k := e3) rfl (RedJ c3 S H O n ((l, lstO vs e3) :: R) cms) ?F ?N ?hn ?hl ?h0 ?hJ ?turn ?done)
  case F => k_asm
  case N => k_asm
  case hn => exact ne'
  case hl => k_mem
  case h0 => exact ⟨by walk_at "my_var", by walk_at "my_var", [], [], e, e2, (l, lstO vs e3) :: R, fun p hp => hp, fun p hp => hp, List.forall_mem_cons.mpr ⟨nlS, hRS⟩, List.forall_mem_cons.mpr ⟨nlH, hRH⟩, List.forall_mem_cons.mpr ⟨nlO, hRO⟩, fun i hi => absurd hi List.not_mem_nil, trivial, Holds.nil⟩
  case hJ =>
    rintro i m news ⟨_, _, its, ov, e, e2, R', hs, hR, _⟩
    exact hs _ (.tail _ (.tail _ (.tail _ (hR _ (.head _)))))
  case done =>
    rintro m₁ news₁ h tk ⟨f1, f2, f3⟩ F9 N9
    have e9 : cms.take vs.length = cms := List.take_of_length_le (by rw [istxts_len hi]; exact Nat.le_refl _)
    rw [e9] at f3
    repeat' walk_at "my_step"
    exact hret _ _ _ _ ⟨rfl, f3⟩ (by k_asm) (by k_asm)
  case turn =>
    rintro i v m₁ news₁ h tk oI hv hlt ⟨f1, f2, its, ov, e, e2, R', hs, hR, aS, aH, aO, hok, ho, Hd⟩ hoff hoc F9 N9
    obtain ⟨c, tk1, hci, rfl⟩ := istxts_get hi hv
    obtain ⟨sg, t, rfl, hsg, htl⟩ := hc c (List.mem_of_getElem? hci)
    have hl9 := fold_len (cms.take i) ([], [])
    have hti : (cms.take i).length ≤ 20 := Nat.le_trans (List.length_take_le' ..) hlen
    have hlr := Hd.len
    have hlo := istxts_len ho
    have N10 : News _ _ h ((S, listOf #[.ref H, .ref O, .ref c3] n) :: (H, lstO (vals its) e) :: (O, lstO ov e2) :: (I, oI) :: R') := fun p hp => N9 p (by
      rcases List.mem_cons.mp hp with rfl | hp
      · exact .tail _ (hs _ (.head _))
      rcases List.mem_cons.mp hp with rfl | hp
      · exact .tail _ (hs _ (.tail _ (.head _)))
      rcases List.mem_cons.mp hp with rfl | hp
      · exact .tail _ (hs _ (.tail _ (.tail _ (.head _))))
      rcases List.mem_cons.mp hp with rfl | hp
      · exact .head _
      · exact .tail _ (hs _ (.tail _ (.tail _ (.tail _ hp)))))
    have iS : S ≠ I := hoff _ (hs _ (.head _))
    have iH : H ≠ I := hoff _ (hs _ (.tail _ (.head _)))
    have iO : O ≠ I := hoff _ (hs _ (.tail _ (.tail _ (.head _))))
    clear N9
    repeat (first | (fail_if_success (with_reducible show wpAny _ _ (call (Value.ref 829) _) _ _ _)); walk_at "my_step")
    k_dflt (refine' (step_go w KR ((I, oI) :: R') c3 hK ?hKR S H O n e e2 its ov _ _ sg hsg t tk1 htl nSH nSO nHO ?rS ?rH ?rO ?ok ?l1 ?l2 ho Hd).useP ?hh ?hd ?hu ?hf ?hg ?B ?F ?X ?N ?T ?K ?_; walk_at "my_use")
    case hKR => exact fun p hp => .tail _ (hR _ (.tail _ (hKR p hp)))
    case rS => exact List.forall_mem_cons.mpr ⟨iS.symm, aS⟩
    case rH => exact List.forall_mem_cons.mpr ⟨iH.symm, aH⟩
    case rO => exact List.forall_mem_cons.mpr ⟨iO.symm, aO⟩
    case ok => exact fun j hj => (hok j hj).mono fun p hp => .tail _ hp
    case l1 => simp at hl9; omega
    case l2 => simp at hl9; omega
    rintro news' h' tk' ⟨its', ov', e', e2', R'', hs', hR', aS', aH', aO', hok', ho', Hd'⟩ F11 N11
    repeat' walk_at "my_step"
    rename News _ _ _ news' => N12
    have sub : ∀ p ∈ (S, listOf #[.ref H, .ref O, .ref c3] n) :: (H, lstO (vals its') e') :: (O, lstO ov' e2') :: R''.filter (fun p => decide (p.1 ≠ I)), p ∈ news' ∧ p.1 ≠ I := fun p hp => by
      rcases List.mem_cons.mp hp with rfl | hp
      · exact ⟨hs' _ (.head _), iS⟩
      rcases List.mem_cons.mp hp with rfl | hp
      · exact ⟨hs' _ (.tail _ (.head _)), iH⟩
      rcases List.mem_cons.mp hp with rfl | hp
      · exact ⟨hs' _ (.tail _ (.tail _ (.head _))), iO⟩
      · obtain ⟨z1, z2⟩ := List.mem_filter.mp hp
        exact ⟨hs' _ (.tail _ (.tail _ (.tail _ z1))), of_decide_eq_true z2⟩
    have NR : News _ _ _ R'' := fun p hp => N12 p (hs' p (.tail _ (.tail _ (.tail _ hp))))
    have hIR : (I, oI) ∈ R'' := hR' _ (.head _)
    have sub1 : ∀ p ∈ R''.filter (fun p => decide (p.1 ≠ I)), p ∈ R'' := fun p hp => (List.mem_filter.mp hp).1
    refine ⟨rfl, _, _, _, (S, listOf #[.ref H, .ref O, .ref c3] n) :: (H, lstO (vals its') e') :: (O, lstO ov' e2') :: R''.filter (fun p => decide (p.1 ≠ I)), rfl, by k_asm, fun p hp => ?_, fun p hp => (sub p hp).2, by walk_at "my_var", by walk_at "my_var", ?_⟩
    · rcases List.mem_cons.mp hp with rfl | hp
      · exact NR _ hIR
      · exact N12 _ (sub p hp).1
    · have ef : (cms.take (i + 1)).foldl dueStep ([], []) = dueStep ((cms.take i).foldl dueStep ([], [])) (sg :: t) := by
        rw [List.take_add_one, hci]; simp
      rw [ef]
      exact ⟨its', ov', e', e2', _, fun p hp => hp, fun p hp => List.mem_filter.mpr ⟨hR' _ (.tail _ (hR _ hp)), decide_eq_true (hoff _ (hs _ (.tail _ (.tail _ (.tail _ (hR _ hp))))))⟩,
        fun p hp => aS' p (sub1 p hp), fun p hp => aH' p (sub1 p hp), fun p hp => aO' p (sub1 p hp), fun j hj => itok_off NR hIR hoc (hok' j hj), ho', Hd'⟩

end
section
theorem istxts_erase : ∀ {vs : List Value} {ts : List (List Nat)} (j : Nat), IsTxts vs ts → IsTxts (vs.eraseIdx j) (ts.eraseIdx j)
  | [], [], j, _ => by simp [IsTxts]
  | [], _ :: _, _, h => h.elim
  | _ :: _, [], _, h => h.elim
  | v :: vs, t :: ts, 0, h => h.2
  | v :: vs, t :: ts, j + 1, h => ⟨h.1, istxts_erase j h.2⟩
theorem isStrOf_tx {b c : List Nat} {k : Tok} : isStrOf (tx b) (.str (tx c) k) = decide (c = b) := by
  have e : isStrOf (tx b) (.str (tx c) k) = (tx c == tx b) := rfl
  rw [e]
  by_cases h : c = b
  · subst h; simp
  · rw [decide_eq_false h, beq_eq_false_iff_ne]
    intro z
    injection z with z
    exact h (congrArg Array.toList z)
theorem rem_txt {prog : Program} {w : World} {A : Around} {E : Value → Shared → Prop} {s : Shared} {h₀ : Heap} {L D : Addr} {m : Str → Option Value} {pre post : List (Addr × Obj)} {vs : List Value} {ts : List (List Nat)} {n : Nat} {b : List Nat} {t : Tok} {Q : Value → Shared → Prop}
    (F : Fr h₀ L s.heap m) (N : News h₀ L s.heap (pre ++ (D, listOf vs.toArray n) :: post)) (a1 : ∀ p ∈ pre, p.1 ≠ D) (a2 : ∀ p ∈ post, p.1 ≠ D) (hi : IsTxts vs ts) (hb : b ∈ ts) (hz : ts.length ≤ 1000)
    (h : ∀ h' vs', IsTxts vs' (ts.erase b) → Fr h₀ L h' m → News h₀ L h' (pre ++ (D, listOf vs'.toArray (n + 1)) :: post) → Q .none { s with heap := h' }) :
    wpAny (model prog w) A (call (.builtin "list.remove") [.ref D, .str (tx b) t]) Q E s := by
  have z := N (D, listOf vs.toArray n) (List.mem_append.mpr (.inr (.head _)))
  have hlen := istxts_len hi
  have hj : ts.idxOf b < ts.length := List.idxOf_lt_length_of_mem hb
  have hget : ts[ts.idxOf b] = b := List.getElem_idxOf hj
  have val : ∀ i (hi' : i < vs.length), isStrOf (tx b) vs[i] = decide (ts[i]'(by omega) = b) := fun i hi' => by
    obtain ⟨c, k, h1, h2⟩ := istxts_get hi (i := i) (v := vs[i]) (by simp [hi'])
    rw [h2, isStrOf_tx]
    have : ts[i]'(by omega) = c := by
      have := List.getElem?_eq_getElem (l := ts) (i := i) (by omega)
      rw [this] at h1; exact Option.some.inj h1
    rw [this]
  refine call_meets PySem.F.slot_list_remove ⟨_, z.1, rfl⟩ PySem.F.entry_list_remove (PySem.F.args_list_remove_2 _ _)
    (MeetsSeq.list_remove D vs.toArray n (.str (tx b) t) (isStrOf (tx b)) (fun y hy => eq_isStrOf (tx b) t (strsare hi) y (by simpa using hy)) (ts.idxOf b) (by simp; omega) (by
      show isStrOf (tx b) (vs.toArray[ts.idxOf b]'(by simp; omega)) = true
      rw [List.getElem_toArray, val _ (by omega)]; exact decide_eq_true hget) (fun i hi' hlt => by
      show isStrOf (tx b) (vs.toArray[i]) = false
      rw [List.getElem_toArray, val _ (by simpa using hi')]
      exact decide_eq_false (fun e => by have z := List.not_of_lt_findIdx (p := (· == b)) (xs := ts) (i := i) hlt; rw [e] at z; simp at z)) (by rw [List.size_toArray, sizeLine_eq]; omega))
    ⟨z.1, h _ (vs.eraseIdx (ts.idxOf b)) ?_ (F.change (Heap.SameBut.update ..) z.2.1 z.2.2) (ki_turn _ N a1 a2 ?_ ?_)⟩
  · rw [List.erase_eq_eraseIdx_of_idxOf (i := ts.idxOf b) rfl]
    exact istxts_erase _ hi
  · show vs.toArray.eraseIdxIfInBounds (ts.idxOf b) = (vs.eraseIdx (ts.idxOf b)).toArray
    apply Array.toList_inj.mp
    simp [Array.toList_eraseIdxIfInBounds]
  · have hq : (vs.eraseIdx (ts.idxOf b)).toArray.size ≠ vs.toArray.size := by
      rw [List.size_toArray, List.size_toArray, List.length_eraseIdx, if_pos (by omega)]; omega
    rw [if_neg (by simpa using hq)]
noncomputable abbrev keyTup (l : List Nat) (t1 t2 : Tok) : Obj := ⟨.type "tuple", none, .seq #[.int (0 - (l.length : Int)) t1, .str (tx l) t2] 0, #[]⟩
theorem key_lt {prog : Program} {w : World} {A : Around} {E : Value → Shared → Prop} {s : Shared} {h₀ : Heap} {L T1 T2 : Addr} {news : List (Addr × Obj)} {a b : List Nat} {t1 t2 t3 t4 : Tok} {Q : Value → Shared → Prop} (hu : A.units < cLine) (N : News h₀ L s.heap news) (h1 : (T1, keyTup a t1 t2) ∈ news) (h2 : (T2, keyTup b t3 t4) ∈ news) (h : ∀ tk, Q (.bool (tlt a b)) { s with toks := tk }) :
    wpAny (model prog w) A (richCompare .Lt (.ref T1) (.ref T2)) Q E s := by
  have hi := (N _ h1).1
  have hj := (N _ h2).1
  dsimp only at hi hj
  have Ti : s.TypeIs (.ref T1) "tuple" := ⟨_, hi, rfl⟩
  have Tj : s.TypeIs (.ref T2) "tuple" := ⟨_, hj, rfl⟩
  refine wpAny_richCompare_same_or Ti Tj PySem.F.slot_tuple_lt ?_ (.inr hu)
  refine wpAny_call (codeAny_call_builtin PySem.F.slot_tuple_lt.plain PySem.F.entry_tuple_lt (PySem.F.slot_tuple_lt.check _ _ _ _ _ _ _ _ Ti (PySem.F.args_tuple_lt_2 _ _) ?_))
  unfold Builtin.«tuple.__lt__»
  have tt := PySem.isSubtype_type
  repeat ((fail_if_success (with_reducible show wpAny _ _ (eqBool _ _) _ _ _)); lk)
  dsimp only
  refine wpAny_eqBool_int ?_
  by_cases hl : a.length = b.length
  · have b1 : ((0 - (a.length : Int)) == (0 - (b.length : Int))) = true := by rw [hl]; simp
    rw [b1]
    simp only [Bool.not_true, Bool.false_eq_true, if_false]
    repeat ((fail_if_success (with_reducible show wpAny _ _ (eqBool _ _) _ _ _)); lk)
    dsimp only
    refine eqBool_str ?_
    by_cases hab : a = b
    · have b2 : (tx a == tx b) = true := by rw [hab]; simp
      rw [b2]
      simp only [Bool.not_true, Bool.false_eq_true, if_false]
      repeat lk
      refine ⟨nofun, ?_⟩
      have e : tlt a b = false := by rw [hab]; exact tlt_irr b
      rw [e] at h
      exact h s.toks
    · have b2 : (tx a == tx b) = false := beq_eq_false_iff_ne.mpr fun z => hab (by injection z with z; exact congrArg Array.toList z)
      rw [b2]
      simp only [Bool.not_false, if_true]
      repeat ((fail_if_success (with_reducible show wpAny _ _ (richCompare _ _ _) _ _ _)); lk)
      show wpAny _ _ (compareOp .Lt _ _) _ _ _
      refine PyProof.Rows.lt_str ?_
      repeat lk
      refine ⟨nofun, ?_⟩
      have e : decide (a < b) = tlt a b := by
        by_cases z : a < b
        · rw [decide_eq_true z]; exact ((tlt_iff a b).mpr (.inr ⟨hl, z⟩)).symm
        · rw [decide_eq_false z]
          refine ((tlt_not a b).mpr (.inr ((tlt_iff b a).mpr (.inr ⟨hl.symm, ?_⟩)))).symm
          rcases tri a b with q | q | q
          · exact absurd q z
          · exact absurd q hab
          · exact q
      show Q (.bool (decide (a < b))) _
      rw [e]
      exact h s.toks
  · have b1 : ((0 - (a.length : Int)) == (0 - (b.length : Int))) = false := beq_eq_false_iff_ne.mpr (by omega)
    rw [b1]
    simp only [Bool.not_false, if_true]
    repeat ((fail_if_success (with_reducible show wpAny _ _ (richCompare _ _ _) _ _ _)); lk)
    show wpAny _ _ (compareOp .Lt _ _) _ _ _
    refine PyProof.Rows.lt_int ?_
    repeat lk
    refine ⟨nofun, ?_⟩
    have e : decide (0 - (a.length : Int) < 0 - (b.length : Int)) = tlt a b := by
      by_cases z : b.length < a.length
      · rw [decide_eq_true (by omega)]; exact ((tlt_iff a b).mpr (.inl z)).symm
      · rw [decide_eq_false (by omega)]
        exact ((tlt_not a b).mpr (.inr ((tlt_iff b a).mpr (.inl (by omega))))).symm
    rw [e]
    exact h s.toks
noncomputable abbrev pairL (v k : Value) (c : Nat) : Obj := seqObj "list" #[v, k] c
noncomputable def minStep (m x : List Nat) : List Nat := if tlt x m then x else m
theorem mini_fold (a : List Nat) (t : List (List Nat)) : mini (a :: t) = t.foldl minStep a := rfl
/-- what the key gives -/
inductive KEnd (h₀ : Heap) (L : Addr) (m : Str → Option Value) (nn : List (Addr × Obj)) (l : List Nat) (s₁ : Shared) : Value → Shared → Prop
  | mk (h' tk' T t1 t2) (F : Fr h₀ L h' m) (N : News h₀ L h' ((T, keyTup l t1 t2) :: nn)) (n : ∀ p ∈ nn, p.1 ≠ T) : KEnd h₀ L m nn l s₁ (.ref T) { s₁ with heap := h', toks := tk' }
section
variable {prog : Program} {w : World} {A : Around} {E : Value → Shared → Prop} {s : Shared} {h₀ : Heap} {L l q I S : Addr} {m : Str → Option Value} {news : List (Addr × Obj)} {vs : List Value} {ts : List (List Nat)} {n : Nat} {R : Result → Shared → Prop} {Q : Value → Shared → Prop}
theorem min_loop (hh : A.handled = none) (hu : A.units + 2 < cLine) (hm : (l, listOf vs.toArray n) ∈ news) (hi : IsTxts vs ts) (hne : ts ≠ []) (hlI : l ≠ I) (hSI : S ≠ I) (hnS : ∀ p ∈ news, p.1 ≠ S) (hnI : ∀ p ∈ news, p.1 ≠ I)
    (turn : ∀ t k, t ∈ ts → ∀ (h : Heap) (tk : Nat) (nn : List (Addr × Obj)), (∀ p ∈ news, p ∈ nn) → Fr h₀ L h m → News h₀ L h nn →
      wpAny (model prog w) A.in1 (call (.ref q) [.str (tx t) k]) (KEnd h₀ L m nn t { s with heap := h, toks := tk }) (fun _ _ => False) { s with heap := h, toks := tk })
    (hR : ∀ k h' tk', Fr h₀ L h' m → News h₀ L h' news → R (.ok (.ret (.str (tx (mini ts)) k))) { s with heap := h', toks := tk' }) :
    ∀ (r j : Nat) (h : Heap) (tk : Nat) (b : List Nat) (kb : Tok) (Tb : Addr) (t1 t2 : Tok) (c : Nat) (oI : Obj), ts.length - (j + 1) = r → j + 1 ≤ ts.length → Fr h₀ L h m →
      News h₀ L h ((S, pairL (.str (tx b) kb) (.ref Tb) c) :: (I, oI) :: (Tb, keyTup b t1 t2) :: news) → Tb ≠ S → Tb ≠ I → h.IsListIter I l (j + 1) → mini ts = (ts.drop (j + 1)).foldl minStep b →
      codeAny (model prog w) A (.builtin "min.loop" ⟨[.ref I, .ref q, .ref S], []⟩) R { s with heap := h, toks := tk } := by
  have hname : (toString "min" ++ toString ".loop" : String) = "min.loop" := by decide
  have W := Walks.list (prog := prog) (w := w) (A := A.in1) hh I l hlI vs.toArray
  have hsz : vs.toArray.size = vs.length := List.size_toArray ..
  have hvl := istxts_len hi
  have hl : ∀ h, News h₀ L h news → h.IsList l vs.toArray := fun h N => PySem.IsL.isList (n := n) (N _ hm).1
  intro r
  induction r with
  | zero =>
    intro j h tk b kb Tb t1 t2 c oI hr hj F N nTS nTI hit hb
    have hin : j + 1 = ts.length := by omega
    have nS := N _ (.head _)
    have nI := N _ (.tail _ (.head _))
    have Nn : News h₀ L h news := fun p hp => N p (.tail _ (.tail _ (.tail _ hp)))
    refine codeAny_builtin PySem.F.entry_min_loop ?_
    rw [Around.under_plainId PySem.F.plain_min_loop _]
    show wpAny _ A.in1 (seqItems? (.ref S) >>= _) _ _ _
    refine wpAny_bind (wpAny_seqItems nS.1 rfl ?_)
    show wpAny _ A.in1 (tryCatch (pyNext (.ref I)) _ >>= _) _ _ _
    refine wpAny_bind (wpAny_tryCatch (W.done _ _ _ ⟨by rw [hsz, hvl, ← hin]; exact hit, hl h Nn⟩ fun h' tk' hk' => ?_))
    have F1 := kmk_fr F hk' nI.2.1 nI.2.2
    have N1 := kmk_news Nn hk' hnI
    have hS' := hk' S _ (by simpa using hSI) nS.1
    have s1 := Heap.SameBut.update h' S (Obj.mapSeq fun _ => (#[] : Array Value))
    show wpAny _ A.in1 (updateSeq S (fun _ => #[]) >>= _) _ _ _
    refine wpAny_bind ?_
    refine wpAny_updateSeq hS' rfl (wpAny_bind (wpAny_letGo (wpAny_pure ?_)))
    have e : b = mini ts := by rw [hb, hin, List.drop_length]; rfl
    rw [e]
    exact hR kb _ _ (ksk_fr F1 s1 nS.2.1 nS.2.2) (ksk_news N1 s1 hnS)
  | succ r ih =>
    intro j h tk b kb Tb t1 t2 c oI hr hj F N nTS nTI hit hb
    have hlt : j + 1 < ts.length := by omega
    have nS := N _ (.head _)
    have nI := N _ (.tail _ (.head _))
    have Nn : News h₀ L h news := fun p hp => N p (.tail _ (.tail _ (.tail _ hp)))
    refine codeAny_builtin PySem.F.entry_min_loop ?_
    rw [Around.under_plainId PySem.F.plain_min_loop _]
    show wpAny _ A.in1 (seqItems? (.ref S) >>= _) _ _ _
    refine wpAny_bind (wpAny_seqItems nS.1 rfl ?_)
    show wpAny _ A.in1 (tryCatch (pyNext (.ref I)) _ >>= _) _ _ _
    refine wpAny_bind (wpAny_tryCatch (W.item (j + 1) _ _ _ (by rw [hsz, hvl]; exact hlt) ⟨hit, hl h Nn⟩ fun v h' tk' hP hst' hk' => ?_))
    have hv : vs[j + 1]? = some v := by simpa using hP
    obtain ⟨t, kt, htt, rfl⟩ := istxts_get hi hv
    obtain ⟨oI', hoI', hoc, hod⟩ := id hst'.1
    have F1 := kmk_fr F hk' nI.2.1 nI.2.2
    have N1 : News h₀ L h' ((S, pairL (.str (tx b) kb) (.ref Tb) c) :: (I, oI') :: (Tb, keyTup b t1 t2) :: news) := fun p hp => by
      rcases List.mem_cons.mp hp with rfl | hp
      · exact ⟨hk' S _ (by simpa using hSI) nS.1, nS.2⟩
      rcases List.mem_cons.mp hp with rfl | hp
      · exact ⟨hoI', nI.2⟩
      rcases List.mem_cons.mp hp with rfl | hp
      · have z := N _ (.tail _ (.tail _ (.head _)))
        exact ⟨hk' Tb _ (by simpa using nTI) z.1, z.2⟩
      · exact kmk_news Nn hk' hnI p hp
    show wpAny _ A.in1 (tryCatch (holding [_] (call (.ref q) [_])) _ >>= _) _ _ _
    refine wpAny_bind (wpAny_tryCatch (wpAny_holding (wpAny_mono (turn t kt (List.mem_of_getElem? htt) h' tk' _ (fun p hp => .tail _ (.tail _ (.tail _ hp))) F1 N1) (fun x s'' he => ?_) fun _ _ hF => hF.elim)))
    obtain ⟨h2, tk2, T, u1, u2, F2, N2, nT⟩ := he
    have nS2 := N2 _ (.tail _ (.head _))
    have nI2 := N2 _ (.tail _ (.tail _ (.head _)))
    have nTS' : T ≠ S := (nT _ (.head _)).symm
    have nTI' : T ≠ I := (nT _ (.tail _ (.head _))).symm
    have hit2 : h2.IsListIter I l (j + 1 + 1) := ⟨oI', nI2.1, hoc, hod⟩
    have hd : (ts.drop (j + 1)).foldl minStep b = (ts.drop (j + 1 + 1)).foldl minStep (minStep b t) := by
      have e : ts.drop (j + 1) = t :: ts.drop (j + 1 + 1) := by
        have z := List.drop_eq_getElem_cons hlt
        rw [z]
        have e2 : ts[j + 1] = t := by
          have := List.getElem?_eq_getElem hlt
          rw [this] at htt; exact Option.some.inj htt
        rw [e2]
      rw [e, List.foldl_cons]
    show wpAny _ A.in1 (tryCatch (holding [_, .ref T] (richCompare .Lt (.ref T) (.ref Tb) >>= _)) _ >>= _) _ _ _
    refine wpAny_bind (wpAny_tryCatch (wpAny_holding (wpAny_bind (key_lt (by show A.in1.units < cLine; exact Nat.lt_trans (Nat.lt_succ_self _) hu) N2 (.head _) (.tail _ (.tail _ (.tail _ (.head _)))) fun tk3 => ?_))))
    refine wpAny_bind (wpAny_holding (wpAny_truthy_bool ?_))
    refine wpAny_bind (wpAny_letGo (wpAny_pure ?_))
    cases hb' : tlt t b
    · simp only [Bool.false_eq_true, if_false]
      refine wpAny_bind (wpAny_letGo ?_)
      rw [hname]
      refine wpAny_pure ⟨plainId_quiet PySem.F.plain_min_loop _, ih (j + 1) _ _ b kb Tb t1 t2 c oI' (by omega) hlt F2 (fun p hp => N2 p (.tail _ hp)) nTS nTI hit2 ?_⟩
      rw [hb, hd]
      unfold minStep
      rw [hb', if_neg (by decide)]
    · have s1 := Heap.SameBut.update h2 S (Obj.mapSeq fun _ => #[.str (tx t) kt, .ref T])
      obtain ⟨c2, hc2⟩ : ∃ c2, (h2.update S (Obj.mapSeq fun _ => #[.str (tx t) kt, .ref T])).get? S = some (pairL (.str (tx t) kt) (.ref T) c2) := ⟨_, get?_update_seq nS2.1 fun _ => #[.str (tx t) kt, .ref T]⟩
      simp only [if_true]
      refine wpAny_bind ?_
      refine wpAny_updateSeq nS2.1 rfl (wpAny_bind (wpAny_letGo ?_))
      rw [hname]
      refine wpAny_pure ⟨plainId_quiet PySem.F.plain_min_loop _, ih (j + 1) _ _ t kt T u1 u2 c2 oI' (by omega) hlt (ksk_fr F2 s1 nS2.2.1 nS2.2.2) (fun p hp => ?_) nTS' nTI' ⟨oI', (s1.2 I hSI.symm).trans nI2.1, hoc, hod⟩ ?_⟩
      · rcases List.mem_cons.mp hp with rfl | hp
        · exact ⟨hc2, nS2.2⟩
        rcases List.mem_cons.mp hp with rfl | hp
        · exact ⟨(s1.2 I hSI.symm).trans nI2.1, nI2.2⟩
        rcases List.mem_cons.mp hp with rfl | hp
        · have z := N2 _ (.head _)
          exact ⟨(s1.2 T nTS').trans z.1, z.2⟩
        · exact ksk_news (fun p hp => N2 p (.tail _ (.tail _ (.tail _ (.tail _ hp))))) s1 hnS p hp
      · rw [hb, hd]
        unfold minStep
        rw [hb', if_pos rfl]
theorem min_go (hh : A.handled = none) (hu : A.units + 2 < cLine) (F : Fr h₀ L s.heap m) (N : News h₀ L s.heap news) (hm : (l, listOf vs.toArray n) ∈ news) (hi : IsTxts vs ts) (hne : ts ≠ [])
    (turn : ∀ t k, t ∈ ts → ∀ (h : Heap) (tk : Nat) (nn : List (Addr × Obj)), (∀ p ∈ news, p ∈ nn) → Fr h₀ L h m → News h₀ L h nn →
      wpAny (model prog w) A.in1 (call (.ref q) [.str (tx t) k]) (KEnd h₀ L m nn t { s with heap := h, toks := tk }) (fun _ _ => False) { s with heap := h, toks := tk })
    (hQ : ∀ k h' tk', Fr h₀ L h' m → News h₀ L h' news → Q (.str (tx (mini ts)) k) { s with heap := h', toks := tk' }) :
    wpAny (model prog w) A (call (.builtin "min") [.ref l] [(Str.ofString "key", .ref q)]) Q E s := by
  have hname : (toString "min" ++ toString ".loop" : String) = "min.loop" := by decide
  have hls : s.heap.IsList l vs.toArray := PySem.IsL.isList (n := n) (N _ hm).1
  have hll : l < s.heap.objs.size := Heap.lt_size (N _ hm).1
  have hvl := istxts_len hi
  have hpos : 0 < ts.length := List.length_pos_iff.mpr hne
  refine kmk_tree PySem.F.kind_min PySem.F.plain_min PySem.F.entry_min (kmk_min_key _ _) ?_
  show wpAny _ A.in1 (Builtin.Builtins.bindParams "min" ["key", "default"] 0 ⟨[], [(Str.ofString "key", .ref q)]⟩ >>= _) _ _ s
  refine wpAny_bind (wpAny_of_eq (show Builtin.Builtins.bindParams "min" ["key", "default"] 0 ⟨[], [(Str.ofString "key", .ref q)]⟩ = pure [some (.ref q), none] from rfl) ?_)
  refine wpAny_bind (wpAny_pure ?_)
  refine wpAny_bind (wpAny_pyIter_list hls ?_)
  refine wpAny_bind (wpAny_newList ?_ (Nat.zero_le _))
  rw [hname]
  have F1 := F.push { cls := .type "list_iterator", data := .fields #[.ref l, .int 0 0] }
  have N1 := N.push F { cls := .type "list_iterator", data := .fields #[.ref l, .int 0 0] }
  have F2 := F1.push (seqObj "list" #[] 0)
  have N2 := N1.push F1 (seqObj "list" #[] 0)
  generalize hI : s.heap.objs.size = I at *
  have nI1 : ∀ p ∈ news, p.1 ≠ I := fun p hp => by rw [← hI]; exact Nat.ne_of_lt (Heap.lt_size (N p hp).1)
  have nS1 : ∀ p ∈ (I, ({ cls := .type "list_iterator", data := .fields #[.ref l, .int 0 0] } : Obj)) :: news, p.1 ≠ (s.heap.push { cls := .type "list_iterator", data := .fields #[.ref l, .int 0 0] }).objs.size := fun p hp => Nat.ne_of_lt (Heap.lt_size (N1 p hp).1)
  generalize hS : (s.heap.push { cls := .type "list_iterator", data := .fields #[.ref l, .int 0 0] }).objs.size = S at *
  have nS2 : ∀ p ∈ news, p.1 ≠ S := fun p hp => nS1 p (.tail _ hp)
  have hSI : S ≠ I := (nS1 _ (.head _)).symm
  have hlI : l ≠ I := nI1 _ hm
  refine wpAny_pure ⟨plainId_quiet PySem.F.plain_min_loop _, ?_⟩
  have W := Walks.list (prog := prog) (w := w) (A := A.in1) hh I l hlI vs.toArray
  have hsz : vs.toArray.size = vs.length := List.size_toArray ..
  have hl : ∀ h, News h₀ L h news → h.IsList l vs.toArray := fun h N => PySem.IsL.isList (n := n) (N _ hm).1
  have gS := N2 _ (.head _)
  have gI := N2 _ (.tail _ (.head _))
  have NH : News h₀ L _ news := fun p hp => N2 p (.tail _ (.tail _ hp))
  refine codeAny_builtin PySem.F.entry_min_loop ?_
  rw [Around.under_plainId PySem.F.plain_min_loop _]
  show wpAny _ A.in1 (seqItems? (.ref _) >>= _) _ _ _
  refine wpAny_bind (wpAny_seqItems gS.1 rfl ?_)
  show wpAny _ A.in1 (tryCatch (pyNext (.ref I)) _ >>= _) _ _ _
  refine wpAny_bind (wpAny_tryCatch (W.item 0 _ _ _ (by rw [hsz, hvl]; exact hpos) ⟨⟨_, gI.1, rfl, rfl⟩, hl _ NH⟩ fun v h' tk' hP hst' hk' => ?_))
  have hv : vs[0]? = some v := by simpa using hP
  obtain ⟨t, kt, htt, rfl⟩ := istxts_get hi hv
  obtain ⟨oI', hoI', hoc, hod⟩ := id hst'.1
  have F3 := kmk_fr F2 hk' gI.2.1 gI.2.2
  have N3 : News h₀ L h' ((S, seqObj "list" #[] 0) :: (I, oI') :: news) := fun p hp => by
    rcases List.mem_cons.mp hp with rfl | hp
    · exact ⟨hk' S _ (by simpa using hSI) gS.1, gS.2⟩
    rcases List.mem_cons.mp hp with rfl | hp
    · exact ⟨hoI', gI.2⟩
    · exact kmk_news NH hk' nI1 p hp
  show wpAny _ A.in1 (tryCatch (holding [_] (call (.ref q) [_])) _ >>= _) _ _ _
  refine wpAny_bind (wpAny_tryCatch (wpAny_holding (wpAny_mono (turn t kt (List.mem_of_getElem? htt) h' tk' _ (fun p hp => .tail _ (.tail _ hp)) F3 N3) (fun x s'' he => ?_) fun _ _ hF => hF.elim)))
  obtain ⟨h2, tk2, T, u1, u2, F4, N4, nT⟩ := he
  have nS4 := N4 _ (.tail _ (.head _))
  have nI4 := N4 _ (.tail _ (.tail _ (.head _)))
  have nTS' : T ≠ S := (nT _ (.head _)).symm
  have nTI' : T ≠ I := (nT _ (.tail _ (.head _))).symm
  have s1 := Heap.SameBut.update h2 S (Obj.mapSeq fun _ => #[.str (tx t) kt, .ref T])
  obtain ⟨c2, hc2⟩ : ∃ c2, (h2.update S (Obj.mapSeq fun _ => #[.str (tx t) kt, .ref T])).get? S = some (pairL (.str (tx t) kt) (.ref T) c2) := ⟨_, get?_update_seq nS4.1 fun _ => #[.str (tx t) kt, .ref T]⟩
  show wpAny _ A.in1 (updateSeq S (fun _ => #[.str (tx t) kt, .ref T]) >>= _) _ _ _
  refine wpAny_bind ?_
  refine wpAny_updateSeq nS4.1 rfl ?_
  rw [hname]
  refine wpAny_pure ⟨plainId_quiet PySem.F.plain_min_loop _, min_loop hh hu hm hi hne hlI hSI nS2 nI1 turn hQ _ 0 _ _ t kt T u1 u2 c2 oI' rfl hpos (ksk_fr F4 s1 nS4.2.1 nS4.2.2) (fun p hp => ?_) nTS' nTI' ⟨oI', (s1.2 I hSI.symm).trans nI4.1, hoc, hod⟩ ?_⟩
  · rcases List.mem_cons.mp hp with rfl | hp
    · exact ⟨hc2, nS4.2⟩
    rcases List.mem_cons.mp hp with rfl | hp
    · exact ⟨(s1.2 I hSI.symm).trans nI4.1, nI4.2⟩
    rcases List.mem_cons.mp hp with rfl | hp
    · have z := N4 _ (.head _)
      exact ⟨(s1.2 T nTS').trans z.1, z.2⟩
    · exact ksk_news (fun p hp => N4 p (.tail _ (.tail _ (.tail _ hp)))) s1 nS2 p hp
  · cases ts with
    | nil => exact absurd rfl hne
    | cons a ts =>
      have e : a = t := by simpa using htt
      rw [mini_fold, e]; rfl
end

end
section
example : True := by
  (k_with "my_step" => (first | (k_unfold; (try dsimp only)) | walk1 | (dsimp only; walk1) | (leave1; try dsimp only)))
  trivial
/-- Sat for a def that makes a lambda: its code's table stands in the ledger -/
noncomputable def SatC (w : World) (dp un : Nat) (f : Addr) (vs : List Value) (news : List (Addr × Obj)) (Post : Value → List (Addr × Obj) → Prop) : Prop :=
  ∀ (pp : Program) (ll : List Str) (mean : ExcName → Option Value) (mg mb : Str → Option Value) (gd : Option (List Code)) (cn : Str) (cs : Scope) (a : Addr) (ccd : Value) (cl : List (Str × Addr)) (outer : List Env) (A₀ : Around) (base h₀ : Heap) (L : Addr) (m : Str → Option Value) (s : Shared)
    (Q E : Value → Shared → Prop),
    Below A₀ base outer h₀ → Fr h₀ L s.heap m → (hd.heap_1 w.params).In h₀ → News h₀ L s.heap news → Top pp ll mean mg mb h₀ → cs.kind = .function → CodeHd h₀ 835 831 →
    (∀ v news' h' tk', Post v news' → Fr h₀ L h' m → News h₀ L h' news' → Q v { s with heap := h', toks := tk' }) →
    wpAny (model PySem.Challenge.pw_ij0186_01 w) (ktrTop dp un gd cn cs L a ccd cl outer) (call (.ref f) vs) Q E s
/-- the table of the lambda's code: not yet made, or made once -/
noncomputable def LamOk (TB : List (Addr × Obj)) : Prop := TB = [(831, tabObj #[])] ∨ ∃ c' oc ocs qt, TB = [(831, tabObj #[rawInt 846, rawInt 26, .ref c']), (c', oc)] ∧ oc.data = .fields ocs ∧ ocs[1]? = some (.str (Str.ofString "_law_taken.<locals>.<lambda>") qt)
inductive TakenPost (rl : Addr) (ts : List (List Nat)) (e : Nat) (R : List (Addr × Obj)) : Value → List (Addr × Obj) → Prop
  | mk (k vs' TB) (h1 : IsTxts vs' (ts.erase (mini ts))) (h2 : LamOk TB) (h3 : ∀ p ∈ TB, p.1 ≠ rl) (h4 : ∀ p ∈ TB, ∀ q ∈ R, p.1 ≠ q.1) : TakenPost rl ts e R (.str (tx (mini ts)) k) ((rl, lstO vs' (e + 1)) :: (TB ++ R))
theorem taken_new (w : World) (R : List (Addr × Obj)) (rl : Addr) (vs : List Value) (ts : List (List Nat)) (e : Nat) (hi : IsTxts vs ts) (hne : ts ≠ []) (hts : ∀ t ∈ ts, t.length ≤ 1000) (hz : ts.length ≤ 100) (hR : ∀ p ∈ R, p.1 ≠ rl) (hR2 : ∀ p ∈ R, p.1 ≠ 831) (hrl : rl ≠ 831) :
    SatC w 400 2000 836 [.ref rl] ((rl, lstO vs e) :: (831, tabObj #[]) :: R) (TakenPost rl ts e R) := by
  intro pp ll mean mg mb gd cn cs a ccd cl outer A₀ base h₀ L m s Q E B F X N T hk C hret
  k_dflt (walk_at "my_enter1"); walk_at "my_in"
  repeat (first | (fail_if_success (with_reducible show wpAny _ _ (eval (PySem.Expr.Lambda _ _ _ _) _) _ _ _)); walk_at "my_step")
  k_dflt (refine' kla_eval ?d0 ?_; (case d0 => exact rfl))
  k_dflt (refine' kla_nest ?F ?N ?T ?C ?cd ?U ?t ?n ?cl ?_; (case F => k_asm); (case N => k_asm); (case T => k_asm); (case cd => exact rfl); (case C => exact C.keeps (Fr.keep (by assumption))); (case U => exact .tail hrl (.head hR2)); (case t => kn_triples); (case n => kn_among); (case cl => exact rfl); k_whole)
  intro q c' oc ocs qt ctv h' tk' F' N' d1 d2 l1 l2
  have hcl : c' ≠ rl := Ne.symm (Nat.ne_of_lt (l1 _ (.head _)))
  have hcR : ∀ q ∈ R, c' ≠ q.1 := fun q hq => Ne.symm (Nat.ne_of_lt (l1 q (.tail _ (.tail _ hq))))
  (try dsimp only at N')
  repeat (first | (fail_if_success (with_reducible show wpAny _ _ (call (Value.builtin "min") _ _) _ _ _)); walk_at "my_step")
  refine' min_go (l := rl) (vs := vs) (ts := ts) (n := e) rfl ?u ?F ?N ?hm hi hne ?turn ?hQ
  case u => exact Nat.le_of_ble_eq_true rfl
  case F => k_asm
  case N => k_asm
  case hm => k_mem
  case turn =>
    intro t k ht h9 tk9 nn hsub F9 N9
    refine wpAny_call ?_
    k_dflt (refine' kla_code ?k1 ?k2 ?k3 ?k4 ?k5 ?kA ?kF ?kK ?k6 ?k7 ?k8 ?k9 ?kB ?_ ?c2 ?c3 ?c4 ?c5; (case kA => exact rfl); (case kF => exact rfl); (case kK => exact rfl); (case k1 => k_asm); (case k2 => exact F9); (case k3 => k_asm); (case k4 => exact N9); (case k5 => k_asm); (case k6 => exact hsub _ (by k_mem)); (case k7 => exact codeRec_news N9 (hsub _ (by k_mem)) (by assumption) (by assumption)); (case k8 => k_room); (case k9 => exact rfl); (case c5 => decide); (case kB => exact locs rfl); (case c2 => exact rfl); (case c3 => exact rfl); (case c4 => exact rfl); k_whole; intro g' L' h' FG' F' N' B' X' T'; (try dsimp only); (try k_fold))
    have hl1 : (tx t).length ≤ 1000 := (tx_len t).symm ▸ hts t ht
    repeat' walk_at "my_step"
    refine' KEnd.mk _ _ _ ?t1 ?t2 (by k_asm) ?_ (fun p hp => Nat.ne_of_lt ?_)
    rotate_left 2
    · have e9 : (0 - ((tx t).length : Int)) = 0 - (t.length : Int) := by rw [tx_len]
      rename News _ _ _ _ => N8
      rw [e9] at N8
      exact N8
    · (rename ∀ p ∈ nn, _ < _ => l8); exact l8 p hp
  case hQ =>
    intro k h' tk' F' N'
    repeat (first | (fail_if_success (with_reducible show wpAny _ _ (call (Value.builtin "list.remove") _ _) _ _ _)); walk_at "my_step")
    rename News _ _ _ _ => N5
    have N6 : News _ _ _ ([] ++ (rl, lstO vs e) :: (831, tabObj #[rawInt 846, rawInt 26, .ref c']) :: (c', oc) :: R) := fun p hp => N5 p (by
      rcases List.mem_cons.mp hp with rfl | hp
      · k_mem
      rcases List.mem_cons.mp hp with rfl | hp
      · k_mem
      rcases List.mem_cons.mp hp with rfl | hp
      · k_mem
      · exact .tail _ (.tail _ (.tail _ (.tail _ hp))))
    clear N5
    have hcT : ∀ p ∈ (831, tabObj #[rawInt 846, rawInt 26, .ref c']) :: (c', oc) :: R, p.1 ≠ rl := List.forall_mem_cons.mpr ⟨hrl.symm, List.forall_mem_cons.mpr ⟨hcl, hR⟩⟩
    refine rem_txt (ts := ts) (by k_asm) N6 (fun _ h => absurd h List.not_mem_nil) hcT hi (mini_mem hne) (by omega) ?_
    intro h7 vs' hi' F7 N7
    repeat' walk_at "my_step"
    refine hret _ _ _ _ ⟨_, vs', _, hi', .inr ⟨c', oc, ocs, _, rfl, d1, d2⟩, fun p hp => hcT p (List.mem_append_left R hp), List.forall_mem_cons.mpr ⟨fun q hq => (hR2 q hq).symm, List.forall_mem_cons.mpr ⟨hcR, fun p hp => absurd hp List.not_mem_nil⟩⟩⟩ (by k_asm) (by k_asm)
theorem taken_hit (w : World) (R : List (Addr × Obj)) (rl : Addr) (vs : List Value) (ts : List (List Nat)) (e : Nat) (hi : IsTxts vs ts) (hne : ts ≠ []) (hts : ∀ t ∈ ts, t.length ≤ 1000) (hz : ts.length ≤ 100) (hR : ∀ p ∈ R, p.1 ≠ rl) (hrl : rl ≠ 831) (c' : Addr) (oc : Obj) (ocs : Array Value) (qt : Tok) (hcl : c' ≠ rl) (hR2 : ∀ p ∈ R, p.1 ≠ 831) (hcR : ∀ q ∈ R, c' ≠ q.1)
    (d1 : oc.data = .fields ocs) (d2 : ocs[1]? = some (.str (Str.ofString "_law_taken.<locals>.<lambda>") qt)) :
    SatC w 400 2000 836 [.ref rl] ((rl, lstO vs e) :: (831, tabObj #[rawInt 846, rawInt 26, .ref c']) :: (c', oc) :: R) (TakenPost rl ts e R) := by
  intro pp ll mean mg mb gd cn cs a ccd cl outer A₀ base h₀ L m s Q E B F X N T hk C hret
  k_dflt (walk_at "my_enter1"); walk_at "my_in"
  repeat (first | (fail_if_success (with_reducible show wpAny _ _ (eval (PySem.Expr.Lambda _ _ _ _) _) _ _ _)); walk_at "my_step")
  k_dflt (refine' kla_eval ?d0 ?_; (case d0 => exact rfl))
  k_dflt (refine' kla_hit ?F ?N ?T ?C ?cd ?mem ?kt ?kn ?cl ?_; (case F => k_asm); (case N => k_asm); (case T => k_asm); (case cd => exact rfl); (case C => exact C.keeps (Fr.keep (by assumption))); (case mem => k_mem); (case kt => kn_triples); (case kn => kn_hit); (case cl => exact rfl); k_whole)
  intro q ctv h' tk' F' N' l1
  (try dsimp only at N')
  repeat (first | (fail_if_success (with_reducible show wpAny _ _ (call (Value.builtin "min") _ _) _ _ _)); walk_at "my_step")
  refine' min_go (l := rl) (vs := vs) (ts := ts) (n := e) rfl ?u ?F ?N ?hm hi hne ?turn ?hQ
  case u => exact Nat.le_of_ble_eq_true rfl
  case F => k_asm
  case N => k_asm
  case hm => k_mem
  case turn =>
    intro t k ht h9 tk9 nn hsub F9 N9
    refine wpAny_call ?_
    k_dflt (refine' kla_code ?k1 ?k2 ?k3 ?k4 ?k5 ?kA ?kF ?kK ?k6 ?k7 ?k8 ?k9 ?kB ?_ ?c2 ?c3 ?c4 ?c5; (case kA => exact rfl); (case kF => exact rfl); (case kK => exact rfl); (case k1 => k_asm); (case k2 => exact F9); (case k3 => k_asm); (case k4 => exact N9); (case k5 => k_asm); (case k6 => exact hsub _ (by k_mem)); (case k7 => exact codeRec_news N9 (hsub _ (by k_mem)) (by assumption) (by assumption)); (case k8 => k_room); (case k9 => exact rfl); (case c5 => decide); (case kB => exact locs rfl); (case c2 => exact rfl); (case c3 => exact rfl); (case c4 => exact rfl); k_whole; intro g' L' h' FG' F' N' B' X' T'; (try dsimp only); (try k_fold))
    have hl1 : (tx t).length ≤ 1000 := (tx_len t).symm ▸ hts t ht
    repeat' walk_at "my_step"
    refine' KEnd.mk _ _ _ ?t1 ?t2 (by k_asm) ?_ (fun p hp => Nat.ne_of_lt ?_)
    rotate_left 2
    · have e9 : (0 - ((tx t).length : Int)) = 0 - (t.length : Int) := by rw [tx_len]
      rename News _ _ _ _ => N8
      rw [e9] at N8
      exact N8
    · (rename ∀ p ∈ nn, _ < _ => l8); exact l8 p hp
  case hQ =>
    intro k h' tk' F' N'
    repeat (first | (fail_if_success (with_reducible show wpAny _ _ (call (Value.builtin "list.remove") _ _) _ _ _)); walk_at "my_step")
    rename News _ _ _ _ => N5
    have N6 : News _ _ _ ([] ++ (rl, lstO vs e) :: (831, tabObj #[rawInt 846, rawInt 26, .ref c']) :: (c', oc) :: R) := fun p hp => N5 p (by
      rcases List.mem_cons.mp hp with rfl | hp
      · k_mem
      rcases List.mem_cons.mp hp with rfl | hp
      · k_mem
      rcases List.mem_cons.mp hp with rfl | hp
      · k_mem
      · exact .tail _ (.tail _ (.tail _ (.tail _ hp))))
    clear N5
    have hcT : ∀ p ∈ (831, tabObj #[rawInt 846, rawInt 26, .ref c']) :: (c', oc) :: R, p.1 ≠ rl := List.forall_mem_cons.mpr ⟨hrl.symm, List.forall_mem_cons.mpr ⟨hcl, hR⟩⟩
    refine rem_txt (ts := ts) (by k_asm) N6 (fun _ h => absurd h List.not_mem_nil) hcT hi (mini_mem hne) (by omega) ?_
    intro h7 vs' hi' F7 N7
    repeat' walk_at "my_step"
    refine hret _ _ _ _ ⟨_, vs', _, hi', .inr ⟨c', oc, ocs, _, rfl, d1, d2⟩, fun p hp => hcT p (List.mem_append_left R hp), List.forall_mem_cons.mpr ⟨fun q hq => (hR2 q hq).symm, List.forall_mem_cons.mpr ⟨hcR, fun p hp => absurd hp List.not_mem_nil⟩⟩⟩ (by k_asm) (by k_asm)
theorem taken_ctr (w : World) (R : List (Addr × Obj)) (rl : Addr) (vs : List Value) (ts : List (List Nat)) (e : Nat) (hi : IsTxts vs ts) (hne : ts ≠ []) (hts : ∀ t ∈ ts, t.length ≤ 1000) (hz : ts.length ≤ 100) (hR : ∀ p ∈ R, p.1 ≠ rl) (TB : List (Addr × Obj)) (hTB : LamOk TB) (hTr : ∀ p ∈ TB, p.1 ≠ rl) (hTR : ∀ p ∈ TB, ∀ q ∈ R, p.1 ≠ q.1) :
    SatC w 400 2000 836 [.ref rl] ((rl, lstO vs e) :: (TB ++ R)) (TakenPost rl ts e R) := by
  rcases hTB with rfl | ⟨c', oc, ocs, qt, rfl, d1, d2⟩
  · exact taken_new w R rl vs ts e hi hne hts hz hR (fun q hq => (hTR _ (.head _) q hq).symm) (hTr _ (.head _)).symm
  · exact taken_hit w R rl vs ts e hi hne hts hz hR (hTr _ (.head _)).symm c' oc ocs qt (hTr (c', oc) (.tail _ (.head _))) (fun q hq => (hTR _ (.head _) q hq).symm) (fun q hq => hTR _ (.tail _ (.head _)) q hq) d1 d2
theorem SatC.use {w : World} {dp un : Nat} {f : Addr} {vs : List Value} {news : List (Addr × Obj)} {Post : Value → List (Addr × Obj) → Prop} (S : SatC w dp un f vs news Post)
    {pp : Program} {ll : List Str} {mean : ExcName → Option Value} {mg mb : Str → Option Value} {gd : Option (List Code)} {cn : Str} {cs : Scope} {a : Addr} {ccd : Value} {cl : List (Str × Addr)} {outer : List Env} {A₀ A : Around} {base h₀ : Heap} {L : Addr} {m : Str → Option Value} {s : Shared}
    {Q E : Value → Shared → Prop} (hh : A.handled = none) (hdp : A.depth ≤ dp) (hu : A.units ≤ un) (hf : A.frames = some (envX cn cs L a ccd cl :: outer)) (hg : A.guards = gd)
    (B : Below A₀ base outer h₀) (F : Fr h₀ L s.heap m) (X : (hd.heap_1 w.params).In h₀) (N : News h₀ L s.heap news) (T : Top pp ll mean mg mb h₀) (K : cs.kind = .function) (C : CodeHd h₀ 835 831)
    (ret : ∀ v news' h' tk', Post v news' → Fr h₀ L h' m → News h₀ L h' news' → Q v { s with heap := h', toks := tk' }) :
    wpAny (model PySem.Challenge.pw_ij0186_01 w) A (call (.ref f) vs) Q E s :=
  weaken (A' := ktrTop dp un gd cn cs L a ccd cl outer) hh hdp hu hf.symm hg.symm (S _ _ _ _ _ _ _ _ _ _ _ _ _ _ _ _ _ _ _ _ B F X N T K C ret)

end
section
example : True := by
  (k_with "my_step" => (first | (k_unfold; (try dsimp only)) | walk1 | (dsimp only; walk1) | (leave1; try dsimp only)))
  (k_with "my_enterC" => (refine wpAny_call ?_; (refine' code_defC ?k1_h ?k2_h ?k3_h ?k4_h ?k5_h ?kA_h ?kF_h ?kK_h ?k6_h ?k7_h ?k8_h ?k9_h ?kB_h ?kD_h ?_ ?c2_h ?c3_h ?c4_h; (case kA_h => exact rfl); (case kF_h => exact rfl); (case kK_h => first | assumption | exact rfl); (case k1_h => k_asm); (case k2_h => k_asm); (case k3_h => k_asm); (case k4_h => k_asm); (case k5_h => k_asm); (case k6_h => k_is); (case k7_h => k_is); (case k8_h => k_room); (case k9_h => first | exact BindsTo.of_eq rfl | exact binds_K (by k_in) rfl (by k_is) rfl rfl rfl | fail "k_enter: no rule for these arguments"); (case kB_h => exact rfl); (case kD_h => decide +kernel); (case c2_h => exact rfl); (case c3_h => exact rfl); (case c4_h => exact rfl); k_whole; intro g'_q L'_q h'_q tk'_q cells'_q FG'_q F'_q N'_q Y'_q B'_q X'_q T'_q l1_q; (try k_lt l1_q); k_cells Y'_q; (try simp only [List.cons_append, List.nil_append] at N'_q); (try dsimp only); (try k_lift B'_q); (try k_fold))))
  (k_with "eval Name" => (k_here; (with_reducible show wpAny _ _ (eval (PySem.Expr.Name (Str.ofString "x") _) _) _ _ _); k_dflt (refine' nameX_C ?N_h ?c_h ?m_h ?d_h ?_ ?a_h ?b_h; (case a_h => rfl); (case b_h => rfl); (case N_h => k_asm); (case c_h => rfl); (case m_h => k_mem); (case d_h => k_asm); k_whole)))
  (k_with "eval Name" => (k_here; (with_reducible show wpAny _ _ (eval (PySem.Expr.Name _ _) (compEnvC _ _ _ _)) _ _ _); k_dflt (first | (refine LCgL.ld_own (by k_asm) (by k_mem) (by assumption) (by assumption) ?_) | (refine LCgL.ld_global (by k_asm) (by k_asm) (by k_asm) (by k_is) ?_) | (refine' lcf_cell ?N_h ?c_h ?m_h ?d_h ?_ ?a_h ?b_h; (case a_h => rfl); (case b_h => rfl); (case N_h => k_asm); (case c_h => rfl); (case m_h => k_mem); (case d_h => k_asm); k_whole))))
  trivial
noncomputable def let1 : List (List Nat) := [[97], [98], [32], [39]]
theorem let_at {t1 t2 t3 t4 : Tok} {q : Int} (h0 : 0 ≤ q) (h1 : q < 4) : ∃ l k, l ∈ let1 ∧ [Value.str (Str.ofString "a") t1, Value.str (Str.ofString "b") t2, Value.str (Str.ofString " ") t3, Value.str (Str.ofString "'") t4][q.toNat]? = some (.str (tx l) k) := by
  have h : q = 0 ∨ q = 1 ∨ q = 2 ∨ q = 3 := by omega
  rcases h with rfl | rfl | rfl | rfl
  · exact ⟨[97], t1, by decide, congrArg (fun z => some (Value.str z t1)) (by decide +kernel)⟩
  · exact ⟨[98], t2, by decide, congrArg (fun z => some (Value.str z t2)) (by decide +kernel)⟩
  · exact ⟨[32], t3, by decide, congrArg (fun z => some (Value.str z t3)) (by decide +kernel)⟩
  · exact ⟨[39], t4, by decide, congrArg (fun z => some (Value.str z t4)) (by decide +kernel)⟩
inductive LetJ (R : List (Addr × Obj)) (i : Nat) (ys : List Value) : List (Addr × Obj) → Prop | mk (ts) (h1 : IsTxts ys ts) (h2 : ts.length = i) (h3 : ∀ t ∈ ts, t ∈ let1) : LetJ R i ys R
theorem sub_let {prog : Program} {w : World} {A : Around} {E : Value → Shared → Prop} {s : Shared} {h₀ : Heap} {L D : Addr} {news : List (Addr × Obj)} {n : Nat} {q : Int} {u t1 t2 t3 t4 : Tok} {value slice : PySem.Expr} {Q : Value → Shared → Prop} (h0 : 0 ≤ q) (h1 : q < 4) (N : News h₀ L s.heap news) (hm : (D, listOf [Value.str (Str.ofString "a") t1, Value.str (Str.ofString "b") t2, Value.str (Str.ofString " ") t3, Value.str (Str.ofString "'") t4].toArray n) ∈ news) (h : ∀ l k, l ∈ let1 → Q (.str (tx l) k) s)
    (hs : subscripted slice false (.ref D) (.int q u) = operate [.ref D, .int q u] (getItem (.ref D) (.int q u)) := by with_unfolding_all rfl) :
    wpAny (model prog w) A (subscriptTail value slice (.ref D) (.int q u)) Q E s := by
  obtain ⟨l, k, hl, hv⟩ := let_at (t1 := t1) (t2 := t2) (t3 := t3) (t4 := t4) h0 h1
  exact sub_any N hm h0 hv (by omega) (h l k hl) hs
theorem let_len : ∀ t ∈ let1, t.length ≤ 100 := by decide
theorem join_goS {prog : Program} {w : World} {A : Around} {E : Value → Shared → Prop} {s : Shared} {h₀ : Heap} {L D : Addr} {news : List (Addr × Obj)} {vs : List Value} {ts : List (List Nat)} {n : Nat} {t : Tok} {Q : Value → Shared → Prop} {x : Str} (sep : List Nat) (e : x = tx sep) (N : News h₀ L s.heap news) (hm : (D, listOf vs.toArray n) ∈ news) (hi : IsTxts vs ts) (hB : ∀ t ∈ ts, t.length ≤ 100) (hn : ts.length ≤ 1000) (hs : sep.length ≤ 10)
    (h : ∀ t' k, Q (.str (tx (joinL sep ts)) t') { s with toks := k }) : wpAny (model prog w) A (call (.builtin "str.join") [.str x t, .ref D]) Q E s := by
  subst e
  exact join_go sep N hm hi hB hn hs h
theorem sign_at (q : Int) (h0 : 0 ≤ q) (h1 : q < 4) : ∃ c, c ∈ [43, 45, 62, 60] ∧ Txt.item (Str.ofString "+-><") q = tx [c] := by
  have h : q = 0 ∨ q = 1 ∨ q = 2 ∨ q = 3 := by omega
  rcases h with rfl | rfl | rfl | rfl
  · exact ⟨43, by decide, by decide +kernel⟩
  · exact ⟨45, by decide, by decide +kernel⟩
  · exact ⟨62, by decide, by decide +kernel⟩
  · exact ⟨60, by decide, by decide +kernel⟩
theorem cmd_dec : ∀ c ∈ [43, 45, 62, 60], ∀ a ∈ let1, (c :: joinL [] []) ∈ cmds ∧ (c :: joinL [] [a]) ∈ cmds ∧ ∀ b ∈ let1, (c :: joinL [] [a, b]) ∈ cmds := by decide
theorem cmd_mem (c : Nat) (hc : c ∈ [43, 45, 62, 60]) (ts : List (List Nat)) (h : ts.length ≤ 2) (hl : ∀ t ∈ ts, t ∈ let1) : (c :: joinL [] ts) ∈ cmds := by
  match ts, h, hl with
  | [], _, _ => exact (cmd_dec c hc [97] (by decide)).1
  | [a], _, hl => exact (cmd_dec c hc a (hl a (.head _))).2.1
  | [a, b], _, hl => exact (cmd_dec c hc a (hl a (.head _))).2.2 b (hl b (.tail _ (.head _)))
theorem cmd_len : ∀ l ∈ cmds, l.length ≤ 3 ∧ l.tail ∈ texts ∧ l ≠ [] ∧ l.headD 0 ∈ [43, 45, 62, 60] := by decide
theorem tx_2000 {c : Nat} {l : List Nat} {P : Prop} (h : (c :: l).length ≤ 3 ∧ P) : (tx l).length ≤ 2000 := by
  rw [tx_len]
  have := h.1
  rw [List.length_cons] at this
  omega
theorem tx_cons (c : Nat) (l : List Nat) : tx [c] ++ tx l = tx (c :: l) := by
  show (⟨[c].toArray ++ l.toArray⟩ : Str) = _
  rw [List.append_toArray]; rfl
theorem fr_plain {h₀ h : Heap} {L : Addr} {m m' : Str → Option Value} (F : Fr h₀ L h m) (e : m = m') : Fr h₀ L h m' := e ▸ F
theorem cmd_ctr (w : World) (R : List (Addr × Obj)) (x : Int) (t : Tok) :
    Sat w 500 3000 815 [.int x t] R (fun v news' => (∃ l ∈ cmds, ∃ t', v = .str (tx l) t') ∧ news' = R) := by
  intro pp ll mean mg mb gd cn cs ad ccd cl outer A₀ base h₀ L m s Q E B' F X N T hk hret
  k_dflt (walk_at "my_enterC")
  rename Fr _ _ _ _ => F0
  rename News _ _ _ _ => N0
  rename Obj => oC0
  rename oC0.data = _ => dC0
  have F2 := fr_plain F0 (by funext y; rfl : _ = fun _ => none)
  have d2 := dC0.trans (congrArg Data.cell (by rfl : _ = some (Value.int x t)))
  clear F0 dC0
  repeat (first | (fail_if_success (with_reducible show wpAny _ _ (eval (PySem.Expr.ListComp _ _ _ _) _) _ _ _)); walk_at "my_step")
  k_dflt (refine LCg.ListComp_U (F₀ := by k_asm) (by with_unfolding_all rfl) (by decide) (by rfl) (by decide) (by rfl) ?_)
  repeat (first | (fail_if_success (with_reducible show LCg.CompSrc _ _ _ _ _ _ _ _ _ _ _ _ _ _)); walk_at "my_step")
  have hb0 : 0 ≤ (x.fdiv 4).fmod 3 := Int.fmod_nonneg_of_pos _ (by decide)
  have hb1 : (x.fdiv 4).fmod 3 < 3 := Int.fmod_lt_of_pos _ (by decide)
  rename News _ _ _ _ => N1
  rename Fr _ _ _ _ => F1
  k_dflt (refine LCg.CompSrc.range (by rfl) F1 N1 (by assumption) (small_one (by decide) (by decide) (by omega) (by omega)) (rangeSize_nat _ _) (by rw [PySem.sizeLine_eq]; omega) ?_)
  intro g2
  refine comp_inv (LetJ ((_, _) :: R)) ⟨[], trivial, rfl, fun t h => absurd h List.not_mem_nil⟩ ?turn ?fin
  case turn =>
    rintro i v ys news I oI C oC D m₂ h tk E' hi ⟨ts, hts, hlen, hlet⟩ ⟨kt, rfl⟩ hC hx F' N' off ne
    have hi2 : i = 0 ∨ i = 1 := by omega
    rcases hi2 with rfl | rfl
    · have hx : m₂ (Str.ofString "k") = some (.int 0 kt) := hx
      repeat (first | (fail_if_success (with_reducible show wpAny _ _ (subscriptTail _ _ (Value.ref _) _) _ _ _)); walk_at "my_step")
      k_dflt (refine' sub_let (Int.fmod_nonneg_of_pos _ (by decide)) (Int.fmod_lt_of_pos _ (by decide)) ?N ?hm ?_; (case N => k_asm); (case hm => k_mem))
      intro l kl hl
      repeat' walk_at "my_step"
      exact LCg.CompEnd.intro (by k_asm) (by k_asm) _ (fun p hp => .tail _ hp) off trivial ⟨ts ++ [l], istxts_snoc hts, by rw [List.length_append, hlen]; rfl, fun z hz => (List.mem_append.mp hz).elim (hlet z) fun hz => by rw [List.mem_singleton.mp hz]; exact hl⟩
    · have hx : m₂ (Str.ofString "k") = some (.int 1 kt) := hx
      repeat (first | (fail_if_success (with_reducible show wpAny _ _ (subscriptTail _ _ (Value.ref _) _) _ _ _)); walk_at "my_step")
      k_dflt (refine' sub_let (Int.fmod_nonneg_of_pos _ (by decide)) (Int.fmod_lt_of_pos _ (by decide)) ?N ?hm ?_; (case N => k_asm); (case hm => k_mem))
      intro l kl hl
      repeat' walk_at "my_step"
      exact LCg.CompEnd.intro (by k_asm) (by k_asm) _ (fun p hp => .tail _ hp) off trivial ⟨ts ++ [l], istxts_snoc hts, by rw [List.length_append, hlen]; rfl, fun z hz => (List.mem_append.mp hz).elim (hlet z) fun hz => by rw [List.mem_singleton.mp hz]; exact hl⟩
  case fin =>
    rintro ys news ⟨ts, hts, hlen, hlet⟩
    intro D h tk F' N' off1
    repeat (first | (fail_if_success (with_reducible show wpAny _ _ (call (Value.builtin "str.join") _) _ _ _)); walk_at "my_step")
    k_dflt (refine' join_goS [] (by decide +kernel) ?N ?hm hts (fun t ht => let_len t (hlet t ht)) (by omega) (by decide) ?_; (case N => k_asm); (case hm => exact .head _))
    intro t' tk'
    repeat' (first | (fail_if_success (with_reducible show wpAny _ _ (binaryOp Operator.Add _ _) _ _ _)); walk_at "my_step")
    rotate_left 3
    obtain ⟨c, hc, ec⟩ := sign_at (x.fmod 4) (Int.fmod_nonneg_of_pos _ (by decide)) (Int.fmod_lt_of_pos _ (by decide))
    have hn2 : ts.length ≤ 2 := by omega
    have hcm := cmd_mem c hc ts hn2 hlet
    rw [ec]
    k_dflt (refine' add_any ?h1 ?h2 ?_)
    case h1 => exact Nat.le_of_ble_eq_true rfl
    case h2 => exact tx_2000 (cmd_len _ hcm)
    intro t8 k8
    rw [tx_cons]
    repeat' walk_at "my_step"
    · rename News _ _ _ _ => NZ
      exact hret _ _ _ _ ⟨⟨_, hcm, _, rfl⟩, rfl⟩ (by k_asm) (fun p hp => NZ p (by first | exact hp | exact .tail _ hp | exact .tail _ (.tail _ hp)))
    · exact Str.empty
    · exact (0 : Nat)
    · exact Value.none

end
section
example : True := by
  (k_with "k_all" => assumption)
  (k_with "my_step" => (first | (k_unfold; (try dsimp only)) | walk1 | (dsimp only; walk1) | (leave1; try dsimp only)))
  (k_with "my_up" => first | assumption | exact fun _ hp => hp | (refine up1 ?_; walk_at "my_up"))
  (k_with "my_txl" => exact tx_le (by assumption))
  (k_with "my_apart" => first | assumption | (refine List.forall_mem_cons.mpr ⟨?_, ?_⟩; (first | assumption | k_ne | exact Ne.symm (by assumption)); (walk_at "my_apart")) | exact allNe_to (by assumption))
  (k_with "my_upd" => first | (refine' Upd.head ?a_h; (case a_h => walk_at "my_apart")) | (refine' Upd.tail ?a_h ?b_h; (case a_h => first | assumption | k_ne | exact Ne.symm (by assumption)); (case b_h => walk_at "my_upd")))
  (k_with "subscriptTail Name Constant str int" => (k_here; (with_reducible show wpAny _ _ (subscriptTail _ _ (Value.str (tx _) _) (Value.int 0 _)) _ _ _); k_dflt (refine' item_go ?hl_h ?_; (case hl_h => assumption); k_whole; intro k'_q t'_q)))
  (k_with "subscriptTail Name Slice str ref" => (k_here; (with_reducible show wpAny _ _ (subscriptTail _ (PySem.Expr.Slice (some _) none none _) (Value.str (tx _) _) (Value.ref _)) _ _ _); k_dflt (refine' cut_sn ?F_h ?N_h ?hsz_h ?_; (case F_h => k_asm); (case N_h => k_asm); (case hsz_h => walk_at "my_txl"); k_whole; intro h'_q t'_q tk'_q F'_q N'_q; rw [slice_tail])))
  (k_with "ite" => first | with_reducible refine my_ff ?_ | with_reducible refine my_tt ?_)
  (k_with "eval Name" => (k_here; k_dflt (refine' ld ?F_h ?v_h ?_; (case F_h => k_asm); (case v_h => walk_at "my_var"); (all_goals (try (first | exact Str.empty | exact (0 : Nat) | exact Value.none))); k_whole)))
  (k_with "eval Name" => (k_here; (with_reducible show wpAny _ _ (eval (PySem.Expr.Name (Str.ofString "rest") _) _) _ _ _); k_dflt (refine' nameX_C ?N_h ?c_h ?m_h ?d_h ?_ ?a_h ?b_h; (case a_h => rfl); (case b_h => rfl); (case N_h => k_asm); (case c_h => rfl); (case m_h => k_mem); (case d_h => k_asm); k_whole)))
  (k_with "eval Name" => (k_here; (with_reducible show wpAny _ _ (eval (PySem.Expr.Name _ _) (compEnvC _ _ _ _)) _ _ _); k_dflt (first | (refine LCgL.ld_own (by k_asm) (by k_mem) (by assumption) (by assumption) ?_) | (refine LCgL.ld_global (by k_asm) (by k_asm) (by k_asm) (by k_is) ?_) | (refine' lcf_cell ?N_h ?c_h ?m_h ?d_h ?_ ?a_h ?b_h; (case a_h => rfl); (case b_h => rfl); (case N_h => k_asm); (case c_h => rfl); (case m_h => k_mem); (case d_h => k_asm); k_whole))))
  trivial
theorem ne_lit {prog : Program} {w : World} {A : Around} {E : Value → Shared → Prop} {s : Shared} {x y : Str} {t u : Tok} (b : Bool) {Q : Value → Shared → Prop} (e : (x != y) = b) (h : Q (.bool b) s) : wpAny (model prog w) A (compareOp .NotEq (.str x t) (.str y u)) Q E s := ne_str (by first | (rw [e]; exact h) | (have e' : (!(x == y)) = b := e; rw [e']; exact h))
example : True := by
  (k_with "compareOp Eq str str" => (k_here; first | (refine' eq_lit false ?e_h ?_; (case e_h => decide +kernel)) | (refine' eq_lit true ?e_h ?_; (case e_h => decide +kernel))))
  (k_with "compareOp NotEq str str" => (k_here; first | (refine' ne_lit false ?e_h ?_; (case e_h => decide +kernel)) | (refine' ne_lit true ?e_h ?_; (case e_h => decide +kernel))))
  (k_with "compareOp In str str" => (k_here; first | (refine' in_lit false ?e_h ?_; (case e_h => decide +kernel)) | (refine' in_lit true ?e_h ?_; (case e_h => decide +kernel))))
  (k_with "compareOp NotEq ref ref" => (k_here; k_dflt (refine' ne_nilb _ ?hb_h ?hu_h ?N_h ?hm_h ?hd_h ?_; (case hb_h => assumption); (case hu_h => exact Nat.le_of_ble_eq_true rfl); (case N_h => k_asm); (case hm_h => k_mem); (case hd_h => k_mem); k_whole; intro tk'_q)))
  (k_with "call builtin:list.append" => (k_here; k_dflt ((show wpAny _ _ (call (Value.builtin "list.append") [Value.ref _, Value.str _ _]) _ _ _); refine' append_v ?F_h ?N_h ?U_h ?hl_h ?_; (case F_h => k_asm); (case N_h => k_asm); (case U_h => walk_at "my_upd"); (case hl_h => omega); k_whole; intro h'_q F'_q N'_q)))
  trivial
theorem len_l {prog : Program} {w : World} {A : Around} {E : Value → Shared → Prop} {s : Shared} {h₀ : Heap} {L D : Addr} {news : List (Addr × Obj)} {vs : List Value} {n : Nat} {Q : Value → Shared → Prop} (N : News h₀ L s.heap news) (hm : (D, lstO vs n) ∈ news) (hf : vs.length < 1000) (h : Q (.int (vs.length : Int) (s.toks + 1)) { s with toks := s.toks + 1 + 1 }) :
    wpAny (model prog w) A (call (.builtin "len") [.ref D]) Q E s := by
  have hl := PySem.IsL.isList (n := n) (N _ hm).1
  have e : vs.toArray.size = vs.length := List.size_toArray ..
  refine len_list hl (by rw [e]; omega) ?_
  rw [e]; exact h
example : True := by
  (k_with "call builtin:len" => (k_here; (with_reducible show wpAny _ _ (call (Value.builtin "len") [Value.ref _]) _ _ _); k_dflt (refine' len_l ?N_h ?hm_h ?hf_h ?_; (case N_h => k_asm); (case hm_h => k_mem); (case hf_h => omega); k_whole)))
  trivial
theorem cat_l {prog : Program} {w : World} {A : Around} {E : Value → Shared → Prop} {s : Shared} {h₀ : Heap} {L D1 D2 : Addr} {m : Str → Option Value} {news : List (Addr × Obj)} {vs us : List Value} {n k : Nat} {Q : Value → Shared → Prop} (F : Fr h₀ L s.heap m) (N : News h₀ L s.heap news) (h1 : (D1, lstO vs n) ∈ news) (h2 : (D2, lstO us k) ∈ news) (hz : vs.length + us.length ≤ 1000)
    (h : ∀ D h', Fr h₀ L h' m → News h₀ L h' ((D, lstO (vs ++ us) 0) :: news) → (∀ p ∈ news, p.1 < D) → Q (.ref D) { s with heap := h' }) :
    wpAny (model prog w) A (binaryOp .Add (.ref D1) (.ref D2)) Q E s := by
  exact kmk_add_lit F N (PySem.IsL.isList (n := n) (N _ h1).1) (PySem.IsL.isList (n := k) (N _ h2).1) (by simp) h (by simp [sizeLine_eq]; omega)
/-- the row behind n takings -/
noncomputable def off : Nat → List (List Nat) → List (List Nat)
  | 0, r => r
  | n + 1, r => off n (r.erase (mini r))
theorem off_succ : ∀ (n : Nat) (r : List (List Nat)), off (n + 1) r = (off n r).erase (mini (off n r))
  | 0, _ => rfl
  | n + 1, r => off_succ n (r.erase (mini r))
theorem drain_succ : ∀ (n : Nat) (r : List (List Nat)), drain (n + 1) r = drain n r ++ [mini (off n r)]
  | 0, _ => rfl
  | n + 1, r => by
    show mini r :: drain (n + 1) (r.erase (mini r)) = mini r :: (drain n (r.erase (mini r)) ++ [mini (off n (r.erase (mini r)))])
    rw [drain_succ n]
theorem off_len : ∀ (n : Nat) (r : List (List Nat)), n ≤ r.length → (off n r).length = r.length - n
  | 0, _, _ => rfl
  | n + 1, r, h => by
    have hne : r ≠ [] := fun e => by subst e; simp at h
    have hl : (r.erase (mini r)).length = r.length - 1 := List.length_erase_of_mem (mini_mem hne)
    show (off n (r.erase (mini r))).length = _
    rw [off_len n _ (by omega), hl]; omega
theorem off_mem : ∀ (n : Nat) (r : List (List Nat)), ∀ t ∈ off n r, t ∈ r
  | 0, _, _, h => h
  | n + 1, r, t, h => List.mem_of_mem_erase (off_mem n _ t h)
inductive DrainJ (rl O cc : Addr) (oc : Obj) (ov : List Value) (e2 : Nat) (RL : List (Addr × Obj)) (r : List (List Nat)) (i : Nat) (ys : List Value) : List (Addr × Obj) → Prop
  | mk (rv e1 TB) (hT : LamOk TB) (hTa : ∀ p ∈ TB, p.1 ≠ rl ∧ p.1 ≠ O ∧ p.1 ≠ cc) (hTb : ∀ p ∈ TB, ∀ q ∈ RL, p.1 ≠ q.1) (hr : IsTxts rv (off i r)) (hy : IsTxts ys (drain i r)) : DrainJ rl O cc oc ov e2 RL r i ys ((rl, lstO rv e1) :: (O, lstO ov e2) :: (cc, oc) :: (TB ++ RL))
inductive DueJ (rl O cc : Addr) (oc : Obj) (RL : List (Addr × Obj)) (cms : List (List Nat)) (i : Nat) (m : Str → Option Value) : List (Addr × Obj) → Prop
  | mk (f1 : m (Str.ofString "out") = some (.ref O)) (rv ov e e2 TB) (hT : LamOk TB) (hTa : ∀ p ∈ TB, p.1 ≠ rl ∧ p.1 ≠ O ∧ p.1 ≠ cc) (hTb : ∀ p ∈ TB, ∀ q ∈ RL, p.1 ≠ q.1) (hr : IsTxts rv ((cms.take i).foldl dueStep ([], [])).1) (ho : IsTxts ov ((cms.take i).foldl dueStep ([], [])).2) : DueJ rl O cc oc RL cms i m ((rl, lstO rv e) :: (O, lstO ov e2) :: (cc, oc) :: (TB ++ RL))
theorem due_name {g h : Heap} {L D O rl cc : Addr} {oc tup : Obj} {RR : List (Addr × Obj)} {m : Str → Option Value} (N1 : News g L h ((D, tup) :: (O, listOf #[] 0) :: (rl, listOf #[] 0) :: (cc, oc) :: RR)) (F1 : Fr g L h (fun y => if y = Str.ofString "out" then some (.ref O) else m y)) (d : oc.data = .cell (some (.ref rl)))
    (a1 : cc < rl ∧ AllLt rl RR) (a2 : rl < O ∧ cc < O ∧ AllLt O RR) :
    ∃ O rl oc, News g L h ((rl, lstO [] 0) :: (O, lstO [] 0) :: (cc, oc) :: RR) ∧ Fr g L h (fun y => if y = Str.ofString "out" then some (.ref O) else m y) ∧ oc.data = .cell (some (.ref rl)) ∧ cc ≠ rl ∧ cc ≠ O ∧ rl ≠ O ∧ (∀ p ∈ RR, p.1 ≠ rl) ∧ (∀ p ∈ RR, p.1 ≠ O) := by
  have lt_of : ∀ {d : Addr} {l : List (Addr × Obj)}, AllLt d l → ∀ p ∈ l, p.1 ≠ d := fun {d l} h => by
    induction l with
    | nil => exact fun p hp => absurd hp List.not_mem_nil
    | cons q r ih => exact List.forall_mem_cons.mpr ⟨Nat.ne_of_lt h.1, ih h.2⟩
  refine ⟨O, rl, oc, fun p hp => N1 p (.tail _ ?_), F1, d, Nat.ne_of_lt a1.1, Nat.ne_of_lt a2.2.1, Nat.ne_of_lt a2.1, lt_of a1.2, lt_of a2.2.2⟩
  rcases List.mem_cons.mp hp with rfl | hp
  · exact .tail _ (.head _)
  rcases List.mem_cons.mp hp with rfl | hp
  · exact .head _
  · exact .tail _ (.tail _ hp)
theorem due_mem (s : List (List Nat) × List (List Nat)) (c : List Nat) : (∀ t ∈ (dueStep s c).1, t ∈ s.1 ∨ t = c.tail) ∧ (∀ t ∈ (dueStep s c).2, t ∈ s.2 ∨ t ∈ s.1 ∨ t = c.tail) := by
  have er : ∀ (l : List (List Nat)) (a t : List Nat), t ∈ l.erase a → t ∈ l := fun l a t h => List.mem_of_mem_erase h
  have sn : ∀ t, t ∈ s.1 ++ [c.tail] → t ∈ s.1 ∨ t = c.tail := fun t h => (List.mem_append.mp h).imp_right List.mem_singleton.mp
  unfold dueStep
  by_cases h1 : c.headD 0 = 60
  · have h2 : ¬ ((c.headD 0 = 45 ∨ c.headD 0 = 62) ∧ s.1 ≠ []) := by omega
    have h3 : c.headD 0 ≠ 45 := by omega
    simp only [h1, if_true]
    rw [h1] at h2 h3
    simp only [if_neg h2, if_pos h3]
    refine ⟨fun t ht => sn t (er _ _ _ ht), fun t ht => ?_⟩
    rcases List.mem_append.mp ht with ht | ht
    · exact .inl ht
    · rw [List.mem_singleton] at ht
      have := mini_mem (r := s.1 ++ [c.tail]) (by simp)
      rw [← ht] at this
      exact .inr (sn t this)
  · simp only [if_neg h1]
    by_cases h4 : (c.headD 0 = 45 ∨ c.headD 0 = 62) ∧ s.1 ≠ []
    · simp only [if_pos h4]
      refine ⟨fun t ht => ?_, fun t ht => ?_⟩
      · split at ht
        · rcases List.mem_append.mp ht with ht | ht
          · exact .inl (er _ _ _ ht)
          · exact .inr (List.mem_singleton.mp ht)
        · exact .inl (er _ _ _ ht)
      · rcases List.mem_append.mp ht with ht | ht
        · exact .inl ht
        · rw [List.mem_singleton.mp ht]; exact .inr (.inl (mini_mem h4.2))
    · simp only [if_neg h4]
      refine ⟨fun t ht => ?_, fun t ht => .inl ht⟩
      split at ht
      · exact sn t ht
      · exact .inl ht
theorem fold_mem (cs : List (List Nat)) : ∀ s : List (List Nat) × List (List Nat), (∀ t ∈ (cs.foldl dueStep s).1, t ∈ s.1 ∨ ∃ c ∈ cs, t = c.tail) ∧ (∀ t ∈ (cs.foldl dueStep s).2, t ∈ s.2 ∨ t ∈ s.1 ∨ ∃ c ∈ cs, t = c.tail) := by
  induction cs with
  | nil => intro s; exact ⟨fun t h => .inl h, fun t h => .inl h⟩
  | cons c cs ih =>
    intro s
    obtain ⟨h1, h2⟩ := ih (dueStep s c)
    obtain ⟨g1, g2⟩ := due_mem s c
    rw [List.foldl_cons]
    refine ⟨fun t ht => ?_, fun t ht => ?_⟩
    · rcases h1 t ht with h | ⟨c', hc, e⟩
      · rcases g1 t h with h | h
        · exact .inl h
        · exact .inr ⟨c, .head _, h⟩
      · exact .inr ⟨c', .tail _ hc, e⟩
    · rcases h2 t ht with h | h | ⟨c', hc, e⟩
      · rcases g2 t h with h | h | h
        · exact .inl h
        · exact .inr (.inl h)
        · exact .inr (.inr ⟨c, .head _, h⟩)
      · rcases g1 t h with h | h
        · exact .inr (.inl h)
        · exact .inr (.inr ⟨c, .head _, h⟩)
      · exact .inr (.inr ⟨c', .tail _ hc, e⟩)
theorem due_end {h₀ h' : Heap} {L I rl O cc : Addr} {oI oc : Obj} {RL RT TB : List (Addr × Obj)} {cms : List (List Nat)} {i e1 e2 tk' : Nat} {m₂ : Str → Option Value} {rv ov : List Value} {s : Shared} {r ots : List (List Nat)} (F' : Fr h₀ L h' m₂) (N : News h₀ L h' ((I, oI) :: (rl, lstO rv e1) :: (O, lstO ov e2) :: (cc, oc) :: RT)) (hRT : RT = TB ++ RL) (hm : m₂ (Str.ofString "out") = some (.ref O)) (hT : LamOk TB) (hTa : ∀ p ∈ TB, p.1 ≠ rl ∧ p.1 ≠ O ∧ p.1 ≠ cc) (hTb : ∀ p ∈ TB, ∀ q ∈ RL, p.1 ≠ q.1) (hTI : ∀ p ∈ TB, p.1 ≠ I)
    (i1 : rl ≠ I) (i2 : O ≠ I) (i3 : cc ≠ I) (i4 : ∀ p ∈ RL, p.1 ≠ I) (hr : IsTxts rv r) (ho : IsTxts ov ots) (hd : (cms.take (i + 1)).foldl dueStep ([], []) = (r, ots)) :
    TurnEnd h₀ L I oI (DueJ rl O cc oc RL cms (i + 1)) s .next { s with heap := h', toks := tk' } := by
  subst hRT
  refine ⟨rfl, h', tk', m₂, _, rfl, F', N, ?_, ⟨hm, rv, ov, e1, e2, TB, hT, hTa, hTb, by rw [hd]; exact hr, by rw [hd]; exact ho⟩⟩
  exact List.forall_mem_cons.mpr ⟨i1, List.forall_mem_cons.mpr ⟨i2, List.forall_mem_cons.mpr ⟨i3, fun p hp => (List.mem_append.mp hp).elim (hTI p) (i4 p)⟩⟩⟩
/-- the rows, the table's first behind the list / in their old order -/
theorem due_in {h₀ h : Heap} {L : Addr} {I rl O cc : Addr × Obj} {TB RL RT : List (Addr × Obj)} (N : News h₀ L h (I :: rl :: O :: cc :: RT)) (hRT : RT = TB ++ RL) : News h₀ L h (rl :: (TB ++ (I :: O :: cc :: RL))) := fun p hp => N p (by
  subst hRT
  simp only [List.mem_cons, List.mem_append] at hp ⊢
  rcases hp with z | z | z | z | z | z <;> simp [z])
theorem due_out {h₀ h : Heap} {L : Addr} {I rl O cc : Addr × Obj} {TB RL : List (Addr × Obj)} (N : News h₀ L h (rl :: (TB ++ (I :: O :: cc :: RL)))) : News h₀ L h (I :: rl :: O :: cc :: (TB ++ RL)) := fun p hp => N p (by
  simp only [List.mem_cons, List.mem_append] at hp ⊢
  rcases hp with z | z | z | z | z | z <;> simp [z])
theorem drain_in {h₀ h : Heap} {L : Addr} {I C D rl O cc : Addr × Obj} {TB RL : List (Addr × Obj)} (N : News h₀ L h (I :: C :: D :: rl :: O :: cc :: (TB ++ RL))) : News h₀ L h (rl :: (TB ++ (I :: C :: D :: O :: cc :: RL))) := fun p hp => N p (by
  simp only [List.mem_cons, List.mem_append] at hp ⊢
  rcases hp with z | z | z | z | z | z | z | z <;> simp [z])
theorem drain_out {h₀ h : Heap} {L : Addr} {I C D rl O cc : Addr × Obj} {TB RL : List (Addr × Obj)} (N : News h₀ L h (rl :: (TB ++ (I :: C :: D :: O :: cc :: RL)))) : News h₀ L h (I :: C :: D :: rl :: O :: cc :: (TB ++ RL)) := fun p hp => N p (by
  simp only [List.mem_cons, List.mem_append] at hp ⊢
  rcases hp with z | z | z | z | z | z | z | z <;> simp [z])
inductive DuePost (fd : List (List Nat) × List (List Nat)) (R : List (Addr × Obj)) (l : Addr) (vs : List Value) (e : Nat) : Value → List (Addr × Obj) → Prop
  | mk (D dv e3 TB') (h1 : IsTxts dv (fd.2 ++ drain fd.1.length fd.1)) (h2 : LamOk TB') : DuePost fd R l vs e (.ref D) ((D, lstO dv e3) :: (TB' ++ (l, lstO vs e) :: R))
noncomputable def DU1_s : {P : World → (List (Addr × Obj)) → (List (Addr × Obj)) → Addr → Nat → (List Value) → (List (List Nat)) → (List (Addr × Obj)) → Program → (List Str) → (ExcName → Option Value) → (Str → Option Value) → (Str → Option Value) → (Option (List Code)) → Str → Scope → Addr → Value → (List (Str × Addr)) → (List Env) → Around → Heap → Heap → Addr → (Str → Option Value) → Shared → (Value → Shared → Prop) → (Value → Shared → Prop) → Heap → Addr → Heap → Nat → Obj → Prop // (∀ w R RR l e vs cms TB pp ll mean mg mb gd cn cs ad ccd cl outer A₀ base h₀ L m s Q E g' L' h' tk' oC0, P w R RR l e vs cms TB pp ll mean mg mb gd cn cs ad ccd cl outer A₀ base h₀ L m s Q E g' L' h' tk' oC0) → (∀ (w : World) (R RR : List (Addr × Obj)) (l : Addr) (e : Nat) (vs : List Value) (cms : List (List Nat)) (hi : IsTxts vs cms) (hc : ∀ c ∈ cms, ∃ a t, c = a :: t ∧ sgn a ∧ t.length ≤ 1000) (hlen : cms.length ≤ 20) (TB : List (Addr × Obj)) (hTB : LamOk TB) (hTl : ∀ p ∈ TB, ∀ q ∈ (l, lstO vs e) :: R, p.1 ≠ q.1) (hRR : RR = TB ++ (l, lstO vs e) :: R), SatC w 350 1500 841 [.ref l] RR (DuePost (cms.foldl dueStep ([], [])) R l vs e))} := by
  refine' ⟨_, fun HC1 => ?hcut⟩
  case hcut =>
    intro w R RR l e vs cms hi hc hlen TB hTB hTl hRR
    intro pp ll mean mg mb gd cn cs ad ccd cl outer A₀ base h₀ L m s Q E B F X N T hk C hret
    k_dflt (refine wpAny_call ?_; (refine' code_defC ?k1 ?k2 ?k3 ?k4 ?k5 ?kA ?kF ?kK ?k6 ?k7 ?k8 ?k9 ?kB ?kD ?_ ?c2 ?c3 ?c4; (case kA => exact rfl); (case kF => exact rfl); (case kK => first | assumption | exact rfl); (case k1 => k_asm); (case k2 => k_asm); (case k3 => k_asm); (case k4 => k_asm); (case k5 => k_asm); (case k6 => k_is); (case k7 => k_is); (case k8 => k_room); (case k9 => exact BindsTo.of_eq rfl); (case kB => exact rfl); (case kD => decide +kernel); (case c2 => exact rfl); (case c3 => exact rfl); (case c4 => exact rfl); k_whole))
    intro g' L' h' tk' cells' FG' F0 N' Y' B' X' T' lR
    k_cells Y'
    (try simp only [List.cons_append, List.nil_append] at N')
    (try dsimp only)
    (try k_fold)
    rename Obj => oC0
    rename oC0.data = _ => dC0
    have F2 := fr_plain F0 (by funext y; rfl : _ = fun y => if y = Str.ofString "commands" then some (Value.ref l) else none)
    have d2 := dC0.trans (congrArg Data.cell (by rfl : _ = none))
    clear F0 dC0
    have hRc : ∀ p ∈ RR, p.1 ≠ L' + 1 := fun p hp => Nat.ne_of_lt (Nat.lt_succ_of_lt (lR p hp))
    have C' : CodeHd g' 835 831 := C.keeps FG'.keep
    revert hi hc hlen hTB hTl hRR B F X N T hk C hret FG' B' X' T' lR N' F2 d2 hRc C'
    exact HC1 w R RR l e vs cms TB pp ll mean mg mb gd cn cs ad ccd cl outer A₀ base h₀ L m s Q E g' L' h' tk' oC0
@[irreducible] noncomputable def DU1_e : (World × (List (Addr × Obj)) × (List (Addr × Obj)) × Addr × Nat × (List Value) × (List (List Nat)) × (List (Addr × Obj))) × (Program × (List Str) × (ExcName → Option Value) × (Str → Option Value) × (Str → Option Value) × (Option (List Code)) × Str × Scope) × (Addr × Value × (List (Str × Addr)) × (List Env) × Around × Heap × Heap × Addr) × ((Str → Option Value) × Shared × (Value → Shared → Prop) × (Value → Shared → Prop) × Heap × Addr × Heap × Nat) × Obj := Ep (by first | infer_instance | (repeat' (first | exact neW | exact neA | exact neS | infer_instance | refine neP ?_ ?_ | (refine ⟨?_⟩; constructor <;> exact default) | (refine ⟨?_⟩; constructor)))) fun x => DU1_s.1 x.1.1 x.1.2.1 x.1.2.2.1 x.1.2.2.2.1 x.1.2.2.2.2.1 x.1.2.2.2.2.2.1 x.1.2.2.2.2.2.2.1 x.1.2.2.2.2.2.2.2 x.2.1.1 x.2.1.2.1 x.2.1.2.2.1 x.2.1.2.2.2.1 x.2.1.2.2.2.2.1 x.2.1.2.2.2.2.2.1 x.2.1.2.2.2.2.2.2.1 x.2.1.2.2.2.2.2.2.2 x.2.2.1.1 x.2.2.1.2.1 x.2.2.1.2.2.1 x.2.2.1.2.2.2.1 x.2.2.1.2.2.2.2.1 x.2.2.1.2.2.2.2.2.1 x.2.2.1.2.2.2.2.2.2.1 x.2.2.1.2.2.2.2.2.2.2 x.2.2.2.1.1 x.2.2.2.1.2.1 x.2.2.2.1.2.2.1 x.2.2.2.1.2.2.2.1 x.2.2.2.1.2.2.2.2.1 x.2.2.2.1.2.2.2.2.2.1 x.2.2.2.1.2.2.2.2.2.2.1 x.2.2.2.1.2.2.2.2.2.2.2 x.2.2.2.2
namespace DU1
noncomputable section
 @[irreducible] def w := DU1_e.1.1
 @[irreducible] def R := DU1_e.1.2.1
 @[irreducible] def RR := DU1_e.1.2.2.1
 @[irreducible] def l := DU1_e.1.2.2.2.1
 @[irreducible] def e := DU1_e.1.2.2.2.2.1
 @[irreducible] def vs := DU1_e.1.2.2.2.2.2.1
 @[irreducible] def cms := DU1_e.1.2.2.2.2.2.2.1
 @[irreducible] def TB := DU1_e.1.2.2.2.2.2.2.2
 @[irreducible] def pp := DU1_e.2.1.1
 @[irreducible] def ll := DU1_e.2.1.2.1
 @[irreducible] def mean := DU1_e.2.1.2.2.1
 @[irreducible] def mg := DU1_e.2.1.2.2.2.1
 @[irreducible] def mb := DU1_e.2.1.2.2.2.2.1
 @[irreducible] def gd := DU1_e.2.1.2.2.2.2.2.1
 @[irreducible] def cn := DU1_e.2.1.2.2.2.2.2.2.1
 @[irreducible] def cs := DU1_e.2.1.2.2.2.2.2.2.2
 @[irreducible] def ad := DU1_e.2.2.1.1
 @[irreducible] def ccd := DU1_e.2.2.1.2.1
 @[irreducible] def cl := DU1_e.2.2.1.2.2.1
 @[irreducible] def outer := DU1_e.2.2.1.2.2.2.1
 @[irreducible] def A₀ := DU1_e.2.2.1.2.2.2.2.1
 @[irreducible] def base := DU1_e.2.2.1.2.2.2.2.2.1
 @[irreducible] def h₀ := DU1_e.2.2.1.2.2.2.2.2.2.1
 @[irreducible] def L := DU1_e.2.2.1.2.2.2.2.2.2.2
 @[irreducible] def m := DU1_e.2.2.2.1.1
 @[irreducible] def s := DU1_e.2.2.2.1.2.1
 @[irreducible] def Q := DU1_e.2.2.2.1.2.2.1
 @[irreducible] def E := DU1_e.2.2.2.1.2.2.2.1
 @[irreducible] def g' := DU1_e.2.2.2.1.2.2.2.2.1
 @[irreducible] def L' := DU1_e.2.2.2.1.2.2.2.2.2.1
 @[irreducible] def h' := DU1_e.2.2.2.1.2.2.2.2.2.2.1
 @[irreducible] def tk' := DU1_e.2.2.2.1.2.2.2.2.2.2.2
 @[irreducible] def oC0 := DU1_e.2.2.2.2
end
end DU1
section
open DU1
noncomputable def DU2_s : {P : (Heap → Nat → Addr → Addr → Obj → (List (Addr × Obj)) → Addr → Nat → (Str → Option Value) → Heap → Nat → Obj → (List Value) → (List Value) → Nat → Nat → (List (Addr × Obj)) → Tok → (List Nat) → (List (List Nat)) → (List (List Nat)) → (List (Addr × Obj)) → Prop) × (Heap → Nat → Addr → Addr → Obj → (List (Addr × Obj)) → (Str → Option Value) → Heap → Nat → (List Value) → (List Value) → Nat → Nat → (List (Addr × Obj)) → (List (List Nat)) → (List (List Nat)) → Prop) // (∀ h9 tk O rl oc RL I i m₁ h tkT oI rv ov e1 e2 TB₁ tk1 t r ots RT, P.1 h9 tk O rl oc RL I i m₁ h tkT oI rv ov e1 e2 TB₁ tk1 t r ots RT) → (∀ h9 tk O rl oc RL m₁ h tkD rv ov e1 e2 TB₁ r ots, P.2 h9 tk O rl oc RL m₁ h tkD rv ov e1 e2 TB₁ r ots) → (DU1_s.1 DU1.w DU1.R DU1.RR DU1.l DU1.e DU1.vs DU1.cms DU1.TB DU1.pp DU1.ll DU1.mean DU1.mg DU1.mb DU1.gd DU1.cn DU1.cs DU1.ad DU1.ccd DU1.cl DU1.outer DU1.A₀ DU1.base DU1.h₀ DU1.L DU1.m DU1.s DU1.Q DU1.E DU1.g' DU1.L' DU1.h' DU1.tk' DU1.oC0)} := by
  refine' ⟨(_, _), fun HC1 HC2 => ?hcut⟩
  case hcut =>
    intro hi hc hlen hTB hTl hRR B F X N T hk C hret FG' B' X' T' lR N' F2 d2 hRc C'
    repeat (first | (fail_if_success (with_reducible show wpAny _ _ (exec (Stmt.For _ _ _ _ _) _) _ _ _)); walk_at "my_step")
    rename News _ _ _ _ => N1
    rename Fr _ _ _ _ => F1
    refine ex3_8 (due_name N1 F1 (by assumption) (by assumption) (by assumption)) fun O rl oc N3 F3 d3 ncr ncO nrO hRr hRO => ?_
    clear N1 F1
    obtain ⟨RL, hRL⟩ : ∃ RL, RL = (l, lstO vs e) :: R := ⟨_, rfl⟩
    rw [← hRL] at hTl hRR
    have hLl : (l, lstO vs e) ∈ RL := hRL ▸ .head _
    have hsR : ∀ p ∈ RL, p ∈ RR := fun p hp => by rw [hRR]; exact List.mem_append_right _ hp
    have hsT : ∀ p ∈ TB, p ∈ RR := fun p hp => by rw [hRR]; exact List.mem_append_left _ hp
    have hLr : ∀ p ∈ RL, p.1 ≠ rl := fun p hp => hRr p (hsR p hp)
    have hLO : ∀ p ∈ RL, p.1 ≠ O := fun p hp => hRO p (hsR p hp)
    have hfm := fun j => fold_mem (cms.take j) ([], [])
    have hfl := fun j => fold_len (cms.take j) ([], [])
    have htk : ∀ j, (cms.take j).length ≤ 20 := fun j => Nat.le_trans (List.length_take_le' ..) hlen
    have hrt : ∀ j, ∀ t ∈ ((cms.take j).foldl dueStep ([], [])).1, t.length ≤ 1000 := fun j t ht => by
      rcases (hfm j).1 t ht with h | ⟨c, hcm, rfl⟩
      · exact absurd h List.not_mem_nil
      · obtain ⟨a, t, rfl, _, htl⟩ := hc c (List.mem_of_mem_take hcm)
        exact htl
    rename Heap => h9
    k_dflt (refine' For_invVF F3 ?k1 ?k2 ?_; (case k1 => exact rfl); (case k2 => exact rfl))
    walk_at "my_step"
    k_dflt (refine' iter_new (l := l) (vs := vs) (k := e) ?hh (DueJ rl O (L' + 1) oc RL cms) ?F ?N ?hl ?h0 ?hJ ?turn ?done)
    case F => k_asm
    case N => exact N3
    case hh => exact rfl
    case hl => exact .tail _ (.tail _ (.tail _ (hsR _ hLl)))
    case h0 => rw [hRR]; exact ⟨by walk_at "my_var", [], [], 0, 0, TB, hTB, fun p hp => ⟨hRr p (hsT p hp), hRO p (hsT p hp), hRc p (hsT p hp)⟩, hTl, trivial, trivial⟩
    case hJ =>
      rintro i m news ⟨_, rv, ov, e1, e2, TB₁, _, _, _, _, _⟩
      exact .tail _ (.tail _ (.tail _ (List.mem_append_right _ hLl)))
    case turn =>
      rintro I i v m₁ news₁ h tkT oI hv hlt ⟨f1, rv, ov, e1, e2, TB₁, hT, hTa, hTb, hr, ho⟩ hoff hoc F9 N9
      obtain ⟨c, tk1, hci, rfl⟩ := istxts_get hi hv
      obtain ⟨sg, t, rfl, hsg, htl⟩ := hc c (List.mem_of_getElem? hci)
      have hl9 := hfl i
      have hti := htk i
      have hlr := istxts_len hr
      have hlo := istxts_len ho
      simp only [List.length_nil, Nat.zero_add] at hl9
      have ef : (cms.take (i + 1)).foldl dueStep ([], []) = dueStep ((cms.take i).foldl dueStep ([], [])) (sg :: t) := by
        rw [List.take_add_one, hci]; simp
      have hrt1 := hrt i
      generalize (cms.take i).foldl dueStep ([], []) = fd at *
      obtain ⟨r, ots⟩ := fd
      dsimp only at hr ho hl9 hlr hlo hrt1
      have i1 : rl ≠ I := hoff _ (.head _)
      have i2 : O ≠ I := hoff _ (.tail _ (.head _))
      have i3 : L' + 1 ≠ I := hoff _ (.tail _ (.tail _ (.head _)))
      have i4 : ∀ p ∈ RL, p.1 ≠ I := fun p hp => hoff p (.tail _ (.tail _ (.tail _ (List.mem_append_right _ hp))))
      have hTI : ∀ p ∈ TB₁, p.1 ≠ I := fun p hp => hoff p (.tail _ (.tail _ (.tail _ (List.mem_append_left _ hp))))
      obtain ⟨RT, hRT⟩ : ∃ RT, RT = TB₁ ++ RL := ⟨_, rfl⟩
      rw [← hRT] at N9
      have hU1 : ∀ p ∈ RT, p.1 ≠ rl := fun p hp => by rw [hRT] at hp; exact (List.mem_append.mp hp).elim (fun z => (hTa p z).1) (hLr p)
      have hU2 : ∀ p ∈ RT, p.1 ≠ O := fun p hp => by rw [hRT] at hp; exact (List.mem_append.mp hp).elim (fun z => (hTa p z).2.1) (hLO p)
      have hri : rv = [] ↔ r = [] := by
        constructor
        · intro z; subst z; exact List.length_eq_zero_iff.mp hlr.symm
        · intro z; subst z; exact List.length_eq_zero_iff.mp hlr
      clear N3 F3 hoff
      revert hi hc hlen hTB B F X N T hk C hret FG' B' X' T' lR d2 hRc C' d3 ncr ncO nrO hRr hRO hRR hTl hRL hLl hsR hsT hLr hLO hfm hfl htk hrt hlt f1 hT hTa hTb hoc hci hv F9 sg hsg htl hti hr ho hlr hlo hl9 ef hrt1 i1 i2 i3 i4 hTI N9 hRT hU1 hU2 hri
      exact HC1 h9 tk O rl oc RL I i m₁ h tkT oI rv ov e1 e2 TB₁ tk1 t r ots RT
    case done =>
      rintro m₁ news₁ h tkD ⟨f1, rv, ov, e1, e2, TB₁, hT, hTa, hTb, hr, ho⟩ F9 N9
      have e9 : cms.take vs.length = cms := List.take_of_length_le (by rw [istxts_len hi]; exact Nat.le_refl _)
      rw [e9] at hr ho
      have hlr := istxts_len hr
      have hlo := istxts_len ho
      have hl9 := fold_len cms ([], [])
      simp only [List.length_nil, Nat.zero_add] at hl9
      have hrt1 := hrt vs.length
      rw [e9] at hrt1
      generalize cms.foldl dueStep ([], []) = fd at *
      obtain ⟨r, ots⟩ := fd
      dsimp only at hr ho hl9 hlr hlo hrt1
      revert hi hc hlen hTB B F X N T hk C FG' B' X' T' lR d2 hRc C' N3 F3 d3 ncr ncO nrO hRr hRO hRR hTl hRL hLl hsR hsT hLr hLO hfm hfl htk hrt f1 hT hTa hTb F9 N9 e9 hret hr ho hlr hlo hl9 hrt1
      exact HC2 h9 tk O rl oc RL m₁ h tkD rv ov e1 e2 TB₁ r ots
@[irreducible] noncomputable def DU2_e : (Heap × Nat × Addr × Addr × Obj × (List (Addr × Obj)) × Addr × Nat) × ((Str → Option Value) × Heap × Nat × Obj × (List Value) × (List Value) × Nat × Nat) × ((List (Addr × Obj)) × Tok × (List Nat) × (List (List Nat)) × (List (List Nat)) × (List (Addr × Obj))) := Ep (by first | infer_instance | (repeat' (first | exact neW | exact neA | exact neS | infer_instance | refine neP ?_ ?_ | (refine ⟨?_⟩; constructor <;> exact default) | (refine ⟨?_⟩; constructor)))) fun x => DU2_s.1.1 x.1.1 x.1.2.1 x.1.2.2.1 x.1.2.2.2.1 x.1.2.2.2.2.1 x.1.2.2.2.2.2.1 x.1.2.2.2.2.2.2.1 x.1.2.2.2.2.2.2.2 x.2.1.1 x.2.1.2.1 x.2.1.2.2.1 x.2.1.2.2.2.1 x.2.1.2.2.2.2.1 x.2.1.2.2.2.2.2.1 x.2.1.2.2.2.2.2.2.1 x.2.1.2.2.2.2.2.2.2 x.2.2.1 x.2.2.2.1 x.2.2.2.2.1 x.2.2.2.2.2.1 x.2.2.2.2.2.2.1 x.2.2.2.2.2.2.2
namespace DU2
noncomputable section
 @[irreducible] def h9 := DU2_e.1.1
 @[irreducible] def tk := DU2_e.1.2.1
 @[irreducible] def O := DU2_e.1.2.2.1
 @[irreducible] def rl := DU2_e.1.2.2.2.1
 @[irreducible] def oc := DU2_e.1.2.2.2.2.1
 @[irreducible] def RL := DU2_e.1.2.2.2.2.2.1
 @[irreducible] def I := DU2_e.1.2.2.2.2.2.2.1
 @[irreducible] def i := DU2_e.1.2.2.2.2.2.2.2
 @[irreducible] def m₁ := DU2_e.2.1.1
 @[irreducible] def h := DU2_e.2.1.2.1
 @[irreducible] def tkT := DU2_e.2.1.2.2.1
 @[irreducible] def oI := DU2_e.2.1.2.2.2.1
 @[irreducible] def rv := DU2_e.2.1.2.2.2.2.1
 @[irreducible] def ov := DU2_e.2.1.2.2.2.2.2.1
 @[irreducible] def e1 := DU2_e.2.1.2.2.2.2.2.2.1
 @[irreducible] def e2 := DU2_e.2.1.2.2.2.2.2.2.2
 @[irreducible] def TB₁ := DU2_e.2.2.1
 @[irreducible] def tk1 := DU2_e.2.2.2.1
 @[irreducible] def t := DU2_e.2.2.2.2.1
 @[irreducible] def r := DU2_e.2.2.2.2.2.1
 @[irreducible] def ots := DU2_e.2.2.2.2.2.2.1
 @[irreducible] def RT := DU2_e.2.2.2.2.2.2.2
end
end DU2
section
open DU2
theorem DU2_b : DU2_s.1.1 DU2.h9 DU2.tk DU2.O DU2.rl DU2.oc DU2.RL DU2.I DU2.i DU2.m₁ DU2.h DU2.tkT DU2.oI DU2.rv DU2.ov DU2.e1 DU2.e2 DU2.TB₁ DU2.tk1 DU2.t DU2.r DU2.ots DU2.RT := by
  intro hi hc hlen hTB B F X N T hk C hret FG' B' X' T' lR d2 hRc C' d3 ncr ncO nrO hRr hRO hRR hTl hRL hLl hsR hsT hLr hLO hfm hfl htk hrt hlt f1 hT hTa hTb hoc hci hv F9 sg hsg htl hti hr ho hlr hlo hl9 ef hrt1 i1 i2 i3 i4 hTI N9 hRT hU1 hU2 hri
  rcases hsg with rfl | rfl | rfl | rfl
  · repeat' walk_at "my_step"
    refine due_end (TB := TB₁) (by k_asm) (by k_asm) hRT (by walk_at "my_var") hT hTa hTb hTI i1 i2 i3 i4 (istxts_snoc hr) ho ?_
    rw [ef]; rfl
  · by_cases h0 : r = []
    · have hb : decide (rv ≠ []) = false := by simp [hri.mpr h0]
      repeat' walk_at "my_step"
      rename News _ _ _ _ => NX
      refine due_end (TB := TB₁) (by k_asm) (fun p hp => NX p (.tail _ hp)) hRT (by walk_at "my_var") hT hTa hTb hTI i1 i2 i3 i4 hr ho ?_
      rw [ef, h0]; rfl
    · have hb : decide (rv ≠ []) = true := by simpa using fun z => h0 (hri.mp z)
      repeat (first | (fail_if_success (with_reducible show wpAny _ _ (call (Value.ref 836) _) _ _ _)); walk_at "my_step")
      rename News _ _ _ _ => N5
      have N6 := due_in (fun p hp => N5 p (.tail _ hp)) hRT
      clear N5
      k_dflt (refine' (taken_ctr w _ rl _ r _ hr ?ne ?ts ?z ?R TB₁ hT ?Tr ?TR).use rfl (Nat.le_of_ble_eq_true rfl) (Nat.le_of_ble_eq_true rfl) rfl rfl ?B ?F ?X N6 ?T ?K C' ?_)
      case B => k_asm
      case F => k_asm
      case X => k_asm
      case T => k_asm
      case K => exact rfl
      case ne => exact h0
      case ts => exact hrt1
      case z => omega
      case R => exact List.forall_mem_cons.mpr ⟨i1.symm, List.forall_mem_cons.mpr ⟨nrO.symm, List.forall_mem_cons.mpr ⟨ncr, hLr⟩⟩⟩
      case Tr => exact fun p hp => (hTa p hp).1
      case TR => exact fun p hp => List.forall_mem_cons.mpr ⟨hTI p hp, List.forall_mem_cons.mpr ⟨(hTa p hp).2.1, List.forall_mem_cons.mpr ⟨(hTa p hp).2.2, hTb p hp⟩⟩⟩
      rintro v' news' h5 tk5 ⟨k5, rv₂, TB₂, hr₂, hT₂, hTr₂, hTR₂⟩ F5 N7
      have N8 := due_out N7
      have hlr₂ := istxts_len hr₂
      have hle₂ := List.length_erase_le (a := mini r) (l := r)
      clear N6 N7
      have hTa₂ : ∀ p ∈ TB₂, p.1 ≠ rl ∧ p.1 ≠ O ∧ p.1 ≠ L' + 1 := fun p hp => ⟨hTr₂ p hp, hTR₂ p hp _ (.tail _ (.head _)), hTR₂ p hp _ (.tail _ (.tail _ (.head _)))⟩
      have hTb₂ : ∀ p ∈ TB₂, ∀ q ∈ RL, p.1 ≠ q.1 := fun p hp q hq => hTR₂ p hp q (.tail _ (.tail _ (.tail _ hq)))
      have hTI₂ : ∀ p ∈ TB₂, p.1 ≠ I := fun p hp => hTR₂ p hp _ (.head _)
      obtain ⟨RT₂, hRT₂⟩ : ∃ RT₂, RT₂ = TB₂ ++ RL := ⟨_, rfl⟩
      rw [← hRT₂] at N8
      have hU1₂ : ∀ p ∈ RT₂, p.1 ≠ rl := fun p hp => by rw [hRT₂] at hp; exact (List.mem_append.mp hp).elim (fun z => (hTa₂ p z).1) (hLr p)
      have hU2₂ : ∀ p ∈ RT₂, p.1 ≠ O := fun p hp => by rw [hRT₂] at hp; exact (List.mem_append.mp hp).elim (fun z => (hTa₂ p z).2.1) (hLO p)
      repeat' walk_at "my_step"
      refine due_end (TB := TB₂) (by k_asm) (by k_asm) hRT₂ (by walk_at "my_var") hT₂ hTa₂ hTb₂ hTI₂ i1 i2 i3 i4 hr₂ (istxts_snoc ho) ?_
      rw [ef]; simp [dueStep, h0]
  · by_cases h0 : r = []
    · have hb : decide (rv ≠ []) = false := by simp [hri.mpr h0]
      repeat' walk_at "my_step"
      rename News _ _ _ _ => NX
      refine due_end (TB := TB₁) (by k_asm) (fun p hp => NX p (.tail _ hp)) hRT (by walk_at "my_var") hT hTa hTb hTI i1 i2 i3 i4 (istxts_snoc hr) ho ?_
      rw [ef, h0]; rfl
    · have hb : decide (rv ≠ []) = true := by simpa using fun z => h0 (hri.mp z)
      repeat (first | (fail_if_success (with_reducible show wpAny _ _ (call (Value.ref 836) _) _ _ _)); walk_at "my_step")
      rename News _ _ _ _ => N5
      have N6 := due_in (fun p hp => N5 p (.tail _ hp)) hRT
      clear N5
      k_dflt (refine' (taken_ctr w _ rl _ r _ hr ?ne ?ts ?z ?R TB₁ hT ?Tr ?TR).use rfl (Nat.le_of_ble_eq_true rfl) (Nat.le_of_ble_eq_true rfl) rfl rfl ?B ?F ?X N6 ?T ?K C' ?_)
      case B => k_asm
      case F => k_asm
      case X => k_asm
      case T => k_asm
      case K => exact rfl
      case ne => exact h0
      case ts => exact hrt1
      case z => omega
      case R => exact List.forall_mem_cons.mpr ⟨i1.symm, List.forall_mem_cons.mpr ⟨nrO.symm, List.forall_mem_cons.mpr ⟨ncr, hLr⟩⟩⟩
      case Tr => exact fun p hp => (hTa p hp).1
      case TR => exact fun p hp => List.forall_mem_cons.mpr ⟨hTI p hp, List.forall_mem_cons.mpr ⟨(hTa p hp).2.1, List.forall_mem_cons.mpr ⟨(hTa p hp).2.2, hTb p hp⟩⟩⟩
      rintro v' news' h5 tk5 ⟨k5, rv₂, TB₂, hr₂, hT₂, hTr₂, hTR₂⟩ F5 N7
      have N8 := due_out N7
      have hlr₂ := istxts_len hr₂
      have hle₂ := List.length_erase_le (a := mini r) (l := r)
      clear N6 N7
      have hTa₂ : ∀ p ∈ TB₂, p.1 ≠ rl ∧ p.1 ≠ O ∧ p.1 ≠ L' + 1 := fun p hp => ⟨hTr₂ p hp, hTR₂ p hp _ (.tail _ (.head _)), hTR₂ p hp _ (.tail _ (.tail _ (.head _)))⟩
      have hTb₂ : ∀ p ∈ TB₂, ∀ q ∈ RL, p.1 ≠ q.1 := fun p hp q hq => hTR₂ p hp q (.tail _ (.tail _ (.tail _ hq)))
      have hTI₂ : ∀ p ∈ TB₂, p.1 ≠ I := fun p hp => hTR₂ p hp _ (.head _)
      obtain ⟨RT₂, hRT₂⟩ : ∃ RT₂, RT₂ = TB₂ ++ RL := ⟨_, rfl⟩
      rw [← hRT₂] at N8
      have hU1₂ : ∀ p ∈ RT₂, p.1 ≠ rl := fun p hp => by rw [hRT₂] at hp; exact (List.mem_append.mp hp).elim (fun z => (hTa₂ p z).1) (hLr p)
      have hU2₂ : ∀ p ∈ RT₂, p.1 ≠ O := fun p hp => by rw [hRT₂] at hp; exact (List.mem_append.mp hp).elim (fun z => (hTa₂ p z).2.1) (hLO p)
      repeat' walk_at "my_step"
      refine due_end (TB := TB₂) (by k_asm) (by k_asm) hRT₂ (by walk_at "my_var") hT₂ hTa₂ hTb₂ hTI₂ i1 i2 i3 i4 (istxts_snoc hr₂) (istxts_snoc ho) ?_
      rw [ef]; simp [dueStep, h0]
  · have hr9 := istxts_snoc (k := tk1) (t := t) hr
    repeat (first | (fail_if_success (with_reducible show wpAny _ _ (call (Value.ref 836) _) _ _ _)); walk_at "my_step")
    rename News _ _ _ _ => N5
    have N6 := due_in N5 hRT
    clear N5
    k_dflt (refine' (taken_ctr w _ rl _ (r ++ [t]) _ (istxts_snoc hr) ?ne ?ts ?z ?R TB₁ hT ?Tr ?TR).use rfl (Nat.le_of_ble_eq_true rfl) (Nat.le_of_ble_eq_true rfl) rfl rfl ?B ?F ?X N6 ?T ?K C' ?_)
    case B => k_asm
    case F => k_asm
    case X => k_asm
    case T => k_asm
    case K => exact rfl
    case ne => simp
    case ts => exact fun z hz => (List.mem_append.mp hz).elim (hrt1 z) fun hz => by rw [List.mem_singleton.mp hz]; exact htl
    case z => (rw [List.length_append, List.length_singleton]; omega)
    case R => exact List.forall_mem_cons.mpr ⟨i1.symm, List.forall_mem_cons.mpr ⟨nrO.symm, List.forall_mem_cons.mpr ⟨ncr, hLr⟩⟩⟩
    case Tr => exact fun p hp => (hTa p hp).1
    case TR => exact fun p hp => List.forall_mem_cons.mpr ⟨hTI p hp, List.forall_mem_cons.mpr ⟨(hTa p hp).2.1, List.forall_mem_cons.mpr ⟨(hTa p hp).2.2, hTb p hp⟩⟩⟩
    rintro v' news' h5 tk5 ⟨k5, rv₂, TB₂, hr₂, hT₂, hTr₂, hTR₂⟩ F5 N7
    have N8 := due_out N7
    have hlr₂ := istxts_len hr₂
    have hle₂ := List.length_erase_le (a := mini (r ++ [t])) (l := (r ++ [t]))
    rw [List.length_append, List.length_singleton] at hle₂
    clear N6 N7
    have hTa₂ : ∀ p ∈ TB₂, p.1 ≠ rl ∧ p.1 ≠ O ∧ p.1 ≠ L' + 1 := fun p hp => ⟨hTr₂ p hp, hTR₂ p hp _ (.tail _ (.head _)), hTR₂ p hp _ (.tail _ (.tail _ (.head _)))⟩
    have hTb₂ : ∀ p ∈ TB₂, ∀ q ∈ RL, p.1 ≠ q.1 := fun p hp q hq => hTR₂ p hp q (.tail _ (.tail _ (.tail _ hq)))
    have hTI₂ : ∀ p ∈ TB₂, p.1 ≠ I := fun p hp => hTR₂ p hp _ (.head _)
    obtain ⟨RT₂, hRT₂⟩ : ∃ RT₂, RT₂ = TB₂ ++ RL := ⟨_, rfl⟩
    rw [← hRT₂] at N8
    have hU1₂ : ∀ p ∈ RT₂, p.1 ≠ rl := fun p hp => by rw [hRT₂] at hp; exact (List.mem_append.mp hp).elim (fun z => (hTa₂ p z).1) (hLr p)
    have hU2₂ : ∀ p ∈ RT₂, p.1 ≠ O := fun p hp => by rw [hRT₂] at hp; exact (List.mem_append.mp hp).elim (fun z => (hTa₂ p z).2.1) (hLO p)
    repeat' walk_at "my_step"
    refine due_end (TB := TB₂) (by k_asm) (by k_asm) hRT₂ (by walk_at "my_var") hT₂ hTa₂ hTb₂ hTI₂ i1 i2 i3 i4 hr₂ (istxts_snoc ho) ?_
    rw [ef]; simp [dueStep]
end
@[irreducible] noncomputable def DU3_e : (Heap × Nat × Addr × Addr × Obj × (List (Addr × Obj)) × (Str → Option Value) × Heap) × (Nat × (List Value) × (List Value) × Nat × Nat × (List (Addr × Obj)) × (List (List Nat)) × (List (List Nat))) := Ep (by first | infer_instance | (repeat' (first | exact neW | exact neA | exact neS | infer_instance | refine neP ?_ ?_ | (refine ⟨?_⟩; constructor <;> exact default) | (refine ⟨?_⟩; constructor)))) fun x => DU2_s.1.2 x.1.1 x.1.2.1 x.1.2.2.1 x.1.2.2.2.1 x.1.2.2.2.2.1 x.1.2.2.2.2.2.1 x.1.2.2.2.2.2.2.1 x.1.2.2.2.2.2.2.2 x.2.1 x.2.2.1 x.2.2.2.1 x.2.2.2.2.1 x.2.2.2.2.2.1 x.2.2.2.2.2.2.1 x.2.2.2.2.2.2.2.1 x.2.2.2.2.2.2.2.2
namespace DU3
noncomputable section
 @[irreducible] def h9 := DU3_e.1.1
 @[irreducible] def tk := DU3_e.1.2.1
 @[irreducible] def O := DU3_e.1.2.2.1
 @[irreducible] def rl := DU3_e.1.2.2.2.1
 @[irreducible] def oc := DU3_e.1.2.2.2.2.1
 @[irreducible] def RL := DU3_e.1.2.2.2.2.2.1
 @[irreducible] def m₁ := DU3_e.1.2.2.2.2.2.2.1
 @[irreducible] def h := DU3_e.1.2.2.2.2.2.2.2
 @[irreducible] def tkD := DU3_e.2.1
 @[irreducible] def rv := DU3_e.2.2.1
 @[irreducible] def ov := DU3_e.2.2.2.1
 @[irreducible] def e1 := DU3_e.2.2.2.2.1
 @[irreducible] def e2 := DU3_e.2.2.2.2.2.1
 @[irreducible] def TB₁ := DU3_e.2.2.2.2.2.2.1
 @[irreducible] def r := DU3_e.2.2.2.2.2.2.2.1
 @[irreducible] def ots := DU3_e.2.2.2.2.2.2.2.2
end
end DU3
section
open DU3
theorem DU3_b : DU2_s.1.2 DU3.h9 DU3.tk DU3.O DU3.rl DU3.oc DU3.RL DU3.m₁ DU3.h DU3.tkD DU3.rv DU3.ov DU3.e1 DU3.e2 DU3.TB₁ DU3.r DU3.ots := by
  intro hi hc hlen hTB B F X N T hk C FG' B' X' T' lR d2 hRc C' N3 F3 d3 ncr ncO nrO hRr hRO hRR hTl hRL hLl hsR hsT hLr hLO hfm hfl htk hrt f1 hT hTa hTb F9 N9 e9 hret hr ho hlr hlo hl9 hrt1
  repeat (first | (fail_if_success (with_reducible show wpAny _ _ (eval (PySem.Expr.ListComp _ _ _ _) _) _ _ _)); walk_at "my_step")
  k_dflt (refine LCg.ListComp_U (F₀ := by k_asm) (by with_unfolding_all rfl) (by decide) (by rfl) (by decide) (by rfl) ?_)
  repeat (first | (fail_if_success (with_reducible show LCg.CompSrc _ _ _ _ _ _ _ _ _ _ _ _ _ _)); walk_at "my_step")
  rename News _ _ _ _ => N10
  rename Fr _ _ _ _ => F10
  k_dflt (refine LCg.CompSrc.range (by rfl) F10 N10 (by assumption) (small_one (by decide) (by decide) (by omega) (by omega)) (rangeSize_nat _ _) (by rw [PySem.sizeLine_eq]; omega) ?_)
  intro g2
  refine comp_inv (DrainJ rl O (L' + 1) oc ov e2 RL r) ⟨rv, e1, TB₁, hT, hTa, hTb, hr, trivial⟩ ?turn ?fin
  case turn =>
    rintro i v ys news I oI C₁ oC₁ D m₂ h₂ tk₂ E' hin ⟨rv₁, e1, TB₁, hT, hTa, hTb, hr, hys⟩ hv hC hx F11 N11 off3 ne3
    have hin' : i < r.length := by omega
    have hol := off_len i r (by omega)
    repeat (first | (fail_if_success (with_reducible show wpAny _ _ (call (Value.ref 836) _) _ _ _)); walk_at "my_step")
    rename News _ _ _ _ => N5
    have hz3 := off3.mem
    have zr := hz3 _ (.head _)
    have zO := hz3 _ (.tail _ (.head _))
    have zc := hz3 _ (.tail _ (.tail _ (.head _)))
    have zT : ∀ p ∈ TB₁, p.1 ≠ I ∧ p.1 ≠ C₁ ∧ p.1 ≠ D := fun p hp => hz3 p (.tail _ (.tail _ (.tail _ (List.mem_append_left _ hp))))
    have zL : ∀ p ∈ RL, p.1 ≠ I ∧ p.1 ≠ C₁ ∧ p.1 ≠ D := fun p hp => hz3 p (.tail _ (.tail _ (.tail _ (List.mem_append_right _ hp))))
    have N6 := drain_in N5
    clear N5
    have hne : off i r ≠ [] := fun z => by rw [z] at hol; simp at hol; omega
    k_dflt (refine' (taken_ctr w _ rl _ (off i r) _ hr hne ?ts ?z ?R TB₁ hT ?Tr ?TR).use rfl (Nat.le_of_ble_eq_true rfl) (Nat.le_of_ble_eq_true rfl) rfl rfl ?B ?F ?X N6 ?T ?K C' ?_)
    case B => k_asm
    case F => k_asm
    case X => k_asm
    case T => k_asm
    case K => exact rfl
    case ts => exact fun z hz => hrt1 z (off_mem i r z hz)
    case z => omega
    case R => exact List.forall_mem_cons.mpr ⟨zr.1.symm, List.forall_mem_cons.mpr ⟨zr.2.1.symm, List.forall_mem_cons.mpr ⟨zr.2.2.symm, List.forall_mem_cons.mpr ⟨nrO.symm, List.forall_mem_cons.mpr ⟨ncr, hLr⟩⟩⟩⟩⟩
    case Tr => exact fun p hp => (hTa p hp).1
    case TR => exact fun p hp => List.forall_mem_cons.mpr ⟨(zT p hp).1, List.forall_mem_cons.mpr ⟨(zT p hp).2.1, List.forall_mem_cons.mpr ⟨(zT p hp).2.2, List.forall_mem_cons.mpr ⟨(hTa p hp).2.1, List.forall_mem_cons.mpr ⟨(hTa p hp).2.2, hTb p hp⟩⟩⟩⟩⟩
    rintro v' news' h5 tk5 ⟨k5, rv₂, TB₂, hr₂, hT₂, hTr₂, hTR₂⟩ F5 N7
    have N8 := drain_out N7
    clear N6 N7
    have hTa₂ : ∀ p ∈ TB₂, p.1 ≠ rl ∧ p.1 ≠ O ∧ p.1 ≠ L' + 1 := fun p hp => ⟨hTr₂ p hp, hTR₂ p hp _ (.tail _ (.tail _ (.tail _ (.head _)))), hTR₂ p hp _ (.tail _ (.tail _ (.tail _ (.tail _ (.head _)))))⟩
    have hTb₂ : ∀ p ∈ TB₂, ∀ q ∈ RL, p.1 ≠ q.1 := fun p hp q hq => hTR₂ p hp q (.tail _ (.tail _ (.tail _ (.tail _ (.tail _ hq)))))
    have hTI₂ : ∀ p ∈ TB₂, p.1 ≠ I ∧ p.1 ≠ C₁ ∧ p.1 ≠ D := fun p hp => ⟨hTR₂ p hp _ (.head _), hTR₂ p hp _ (.tail _ (.head _)), hTR₂ p hp _ (.tail _ (.tail _ (.head _)))⟩
    refine LCg.CompEnd.intro F5 N8 _ (fun p hp => hp) (.of ?_) trivial ⟨rv₂, _, TB₂, hT₂, hTa₂, hTb₂, by rw [off_succ]; exact hr₂, by rw [drain_succ]; exact istxts_snoc hys⟩
    exact List.forall_mem_cons.mpr ⟨zr, List.forall_mem_cons.mpr ⟨zO, List.forall_mem_cons.mpr ⟨zc, fun p hp => (List.mem_append.mp hp).elim (hTI₂ p) (zL p)⟩⟩⟩
  case fin =>
    rintro ys news ⟨rv₁, e1, TB₁, hT, hTa, hTb, hr, hys⟩
    intro D hD tkF F12 N12 off1
    repeat (first | (fail_if_success (with_reducible show wpAny _ _ (binaryOp Operator.Add _ _) _ _ _)); walk_at "my_step")
    have hyl := istxts_len hys
    have hdl : ∀ n q, (drain n q).length = n := fun n => by
      induction n with
      | zero => intro q; rfl
      | succ n ih => intro q; show (mini q :: drain n _).length = _; rw [List.length_cons, ih]
    rw [hdl] at hyl
    k_dflt (refine' cat_l ?F N12 (.tail _ (.tail _ (.head _))) (.head _) ?z ?_)
    case F => k_asm
    case z => omega
    intro D₂ h₂ F13 N13 l13
    repeat' walk_at "my_step"
    rename News _ _ _ _ => N14
    rename Fr _ _ _ _ => F14
    refine hret _ ((D₂, lstO (ov ++ ys) 0) :: (TB₁ ++ (l, lstO vs e) :: R)) _ _ ⟨D₂, ov ++ ys, 0, TB₁, ?_, hT⟩ F14 (fun p hp => N14 p ?_)
    · have e1 : rv.length = r.length := by omega
      have e2 : ((rv.length : Int) - 0).toNat = r.length := by omega
      rw [e2] at hys
      exact istxts_app ho hys
    · rcases List.mem_cons.mp hp with rfl | hp
      · exact .head _
      · exact .tail _ (.tail _ (.tail _ (.tail _ (.tail _ (by rw [hRL]; exact hp)))))

end
theorem DU1_b : DU1_s.1 DU1.w DU1.R DU1.RR DU1.l DU1.e DU1.vs DU1.cms DU1.TB DU1.pp DU1.ll DU1.mean DU1.mg DU1.mb DU1.gd DU1.cn DU1.cs DU1.ad DU1.ccd DU1.cl DU1.outer DU1.A₀ DU1.base DU1.h₀ DU1.L DU1.m DU1.s DU1.Q DU1.E DU1.g' DU1.L' DU1.h' DU1.tk' DU1.oC0 := by
  exact DU2_s.2 (fun h9 tk O rl oc RL I i m₁ h tkT oI rv ov e1 e2 TB₁ tk1 t r ots RT => ep_all _ (P := fun x => DU2_s.1.1 x.1.1 x.1.2.1 x.1.2.2.1 x.1.2.2.2.1 x.1.2.2.2.2.1 x.1.2.2.2.2.2.1 x.1.2.2.2.2.2.2.1 x.1.2.2.2.2.2.2.2 x.2.1.1 x.2.1.2.1 x.2.1.2.2.1 x.2.1.2.2.2.1 x.2.1.2.2.2.2.1 x.2.1.2.2.2.2.2.1 x.2.1.2.2.2.2.2.2.1 x.2.1.2.2.2.2.2.2.2 x.2.2.1 x.2.2.2.1 x.2.2.2.2.1 x.2.2.2.2.2.1 x.2.2.2.2.2.2.1 x.2.2.2.2.2.2.2) (by with_unfolding_all exact DU2_b) ((h9, tk, O, rl, oc, RL, I, i), (m₁, h, tkT, oI, rv, ov, e1, e2), (TB₁, tk1, t, r, ots, RT))) (fun h9 tk O rl oc RL m₁ h tkD rv ov e1 e2 TB₁ r ots => ep_all _ (P := fun x => DU2_s.1.2 x.1.1 x.1.2.1 x.1.2.2.1 x.1.2.2.2.1 x.1.2.2.2.2.1 x.1.2.2.2.2.2.1 x.1.2.2.2.2.2.2.1 x.1.2.2.2.2.2.2.2 x.2.1 x.2.2.1 x.2.2.2.1 x.2.2.2.2.1 x.2.2.2.2.2.1 x.2.2.2.2.2.2.1 x.2.2.2.2.2.2.2.1 x.2.2.2.2.2.2.2.2) (by with_unfolding_all exact DU3_b) ((h9, tk, O, rl, oc, RL, m₁, h), (tkD, rv, ov, e1, e2, TB₁, r, ots))) 
end
theorem due_ctr (w : World) (R RR : List (Addr × Obj)) (l : Addr) (e : Nat) (vs : List Value) (cms : List (List Nat)) (hi : IsTxts vs cms) (hc : ∀ c ∈ cms, ∃ a t, c = a :: t ∧ sgn a ∧ t.length ≤ 1000) (hlen : cms.length ≤ 20) (TB : List (Addr × Obj)) (hTB : LamOk TB) (hTl : ∀ p ∈ TB, ∀ q ∈ (l, lstO vs e) :: R, p.1 ≠ q.1) (hRR : RR = TB ++ (l, lstO vs e) :: R) :
    SatC w 350 1500 841 [.ref l] RR (DuePost (cms.foldl dueStep ([], [])) R l vs e) := by
  exact DU1_s.2 (fun w R RR l e vs cms TB pp ll mean mg mb gd cn cs ad ccd cl outer A₀ base h₀ L m s Q E g' L' h' tk' oC0 => ep_all _ (P := fun x => DU1_s.1 x.1.1 x.1.2.1 x.1.2.2.1 x.1.2.2.2.1 x.1.2.2.2.2.1 x.1.2.2.2.2.2.1 x.1.2.2.2.2.2.2.1 x.1.2.2.2.2.2.2.2 x.2.1.1 x.2.1.2.1 x.2.1.2.2.1 x.2.1.2.2.2.1 x.2.1.2.2.2.2.1 x.2.1.2.2.2.2.2.1 x.2.1.2.2.2.2.2.2.1 x.2.1.2.2.2.2.2.2.2 x.2.2.1.1 x.2.2.1.2.1 x.2.2.1.2.2.1 x.2.2.1.2.2.2.1 x.2.2.1.2.2.2.2.1 x.2.2.1.2.2.2.2.2.1 x.2.2.1.2.2.2.2.2.2.1 x.2.2.1.2.2.2.2.2.2.2 x.2.2.2.1.1 x.2.2.2.1.2.1 x.2.2.2.1.2.2.1 x.2.2.2.1.2.2.2.1 x.2.2.2.1.2.2.2.2.1 x.2.2.2.1.2.2.2.2.2.1 x.2.2.2.1.2.2.2.2.2.2.1 x.2.2.2.1.2.2.2.2.2.2.2 x.2.2.2.2) (by with_unfolding_all exact DU1_b) ((w, R, RR, l, e, vs, cms, TB), (pp, ll, mean, mg, mb, gd, cn, cs), (ad, ccd, cl, outer, A₀, base, h₀, L), (m, s, Q, E, g', L', h', tk'), oC0)) w R RR l e vs cms hi hc hlen TB hTB hTl hRR

end
section
theorem strs_lay : ∀ xs : List Str, (∀ x ∈ xs, PyData.strOk x = true) → PyData.canLayAll0 (xs.map PyData.str) = true
  | [], _ => rfl
  | x :: r, h => by simp [PyData.canLayAll0, PyData.canLay0, h x (.head _), strs_lay r fun y hy => h y (.tail _ hy)]
theorem strs_depth : ∀ xs : List Str, PyData.depthAll (xs.map PyData.str) = 0
  | [] => rfl
  | _ :: r => by simp [PyData.depthAll, PyData.depth, strs_depth r]
theorem strs_shaped (xs : List Str) (h : ∀ x ∈ xs, PyData.strOk x = true) : SeqAt.shaped (.list (xs.map PyData.str)) = true := by
  simp [SeqAt.shaped, PyData.canLay0, PyData.depth, strs_lay xs h, strs_depth]
theorem strs_sameAll : ∀ xs : List Str, PySem.Spec.sameAll (xs.map PyData.str) (xs.map PyData.str) = true
  | [] => by simp [PySem.Spec.sameAll]
  | x :: r => by simp [PySem.Spec.sameAll, PySem.Spec.same, strs_sameAll r]
theorem strs_same (xs : List Str) : PySem.Spec.same (.list (xs.map PyData.str)) (.list (xs.map PyData.str)) = true := by
  simp only [PySem.Spec.same]; exact strs_sameAll xs
theorem eq_tx {prog : Program} {w : World} {A : Around} {E : Value → Shared → Prop} {s : Shared} {h₀ : Heap} {L a b : Addr} {news : List (Addr × Obj)} {xs ys : List Value} {n k : Nat} {ts : List (List Nat)} {Q : Value → Shared → Prop} (N : News h₀ L s.heap news) (h1 : (a, lstO xs n) ∈ news) (h2 : (b, lstO ys k) ∈ news) (hi : IsTxts xs ts) (hj : IsTxts ys ts) (hok : ∀ t ∈ ts, PyData.strOk (tx t) = true) (hu : A.units + 64 < cLine) (h : Q (.bool true) s) :
    wpAny (model prog w) A (compareOp .Eq (.ref a) (.ref b)) Q E s := by
  have hs : ∀ x ∈ ts.map tx, PyData.strOk x = true := fun x hx => by
    obtain ⟨t, ht, rfl⟩ := List.mem_map.mp hx
    exact hok t ht
  exact eq_dataH_same (reads_newData (PySem.IsL.isList (n := n) (N _ h1).1) (strsare hi).carried) (reads_newData (PySem.IsL.isList (n := k) (N _ h2).1) (strsare hj).carried) (strs_shaped _ hs) (strs_shaped _ hs) hu (SeqAt.noMix_of_shape (.list .str) rfl _ _ (list_map_has fun _ => rfl) (list_map_has fun _ => rfl)) (by rw [strs_same]; exact h)
theorem txt_strOk : ∀ t ∈ texts, PyData.strOk (tx t) = true := by decide +kernel

end
section
example : True := by
  (k_with "k_all" => assumption)
  (k_with "my_step" => (first | (k_unfold; (try dsimp only)) | walk1 | (dsimp only; walk1) | (leave1; try dsimp only)))
  (k_with "eval Name" => (k_here; k_dflt (refine' ld ?F_h ?v_h ?_; (case F_h => k_asm); (case v_h => walk_at "my_var"); (all_goals (try (first | exact Str.empty | exact (0 : Nat) | exact Value.none))); k_whole)))
  (k_with "eval Name" => (k_here; (with_reducible show wpAny _ _ (eval (PySem.Expr.Name (Str.ofString "heap") _) _) _ _ _); k_dflt (refine' nameX_C ?N_h ?c_h ?m_h ?d_h ?_ ?a_h ?b_h; (case a_h => rfl); (case b_h => rfl); (case N_h => k_asm); (case c_h => rfl); (case m_h => k_mem); (case d_h => k_asm); k_whole)))
  (k_with "eval Name" => (k_here; (with_reducible show wpAny _ _ (eval (PySem.Expr.Name _ _) (compEnvC _ _ _ _)) _ _ _); k_dflt (first | (refine LCgL.ld_own (by k_asm) (by k_mem) (by assumption) (by assumption) ?_) | (refine LCgL.ld_global (by k_asm) (by k_asm) (by k_asm) (by k_is) ?_) | (refine' lcf_cell ?N_h ?c_h ?m_h ?d_h ?_ ?a_h ?b_h; (case a_h => rfl); (case b_h => rfl); (case N_h => k_asm); (case c_h => rfl); (case m_h => k_mem); (case d_h => k_asm); k_whole))))
  (k_with "binaryOp Add ref ref" => (k_here; k_dflt (refine' cat_l ?F_h ?N_h ?m1_h ?m2_h ?z_h ?_; (case F_h => k_asm); (case N_h => k_asm); (case m1_h => k_mem); (case m2_h => k_mem); (case z_h => (try simp only [List.length_cons, List.length_nil]); omega); k_whole; intro D'_q h'_q F'_q N'_q l1_q; (try k_lt l1_q))))
  trivial
inductive CmdJ (R : List (Addr × Obj)) (i : Nat) (ys : List Value) : List (Addr × Obj) → Prop | mk (ts) (h1 : IsTxts ys ts) (h2 : ts.length = i) (h3 : ∀ t ∈ ts, t ∈ cmds) : CmdJ R i ys R
noncomputable def tens : List (List Nat) := [[43, 97], [43, 39, 32], [60], [62, 98, 98], [45], [43], [43, 98, 97], [60, 97, 98], [62], [43, 98]]
theorem is_tens {t1 t2 t3 t4 t5 t6 t7 t8 t9 t10 : Tok} : IsTxts [Value.str (Str.ofString "+a") t1, .str (Str.ofString "+' ") t2, .str (Str.ofString "<") t3, .str (Str.ofString ">bb") t4, .str (Str.ofString "-") t5, .str (Str.ofString "+") t6, .str (Str.ofString "+ba") t7, .str (Str.ofString "<ab") t8, .str (Str.ofString ">") t9, .str (Str.ofString "+b") t10] tens := by
  have one : ∀ (x : Str) (l : List Nat) (t : Tok), x = tx l → ∃ k, Value.str x t = .str (tx l) k := fun x l t e => ⟨t, by rw [e]⟩
  exact ⟨one _ _ _ (by decide +kernel), one _ _ _ (by decide +kernel), one _ _ _ (by decide +kernel), one _ _ _ (by decide +kernel), one _ _ _ (by decide +kernel), one _ _ _ (by decide +kernel), one _ _ _ (by decide +kernel), one _ _ _ (by decide +kernel), one _ _ _ (by decide +kernel), one _ _ _ (by decide +kernel), trivial⟩
theorem tens_cmds : ∀ t ∈ tens, t ∈ cmds := by decide
inductive QJ (R : List (Addr × Obj)) (cms : List (List Nat)) (i : Nat) (ys : List Value) : List (Addr × Obj) → Prop | mk (h : IsTxts ys ((cms.take i).map qt)) : QJ R cms i ys R
theorem qt_len : ∀ l ∈ texts ++ cmds, (qt l).length ≤ 20 := by decide +kernel
theorem cmd_1000 {l : List Nat} (h : l ∈ texts ++ cmds) : l.length ≤ 1000 := by
  have : ∀ l ∈ texts ++ cmds, l.length ≤ 3 := by decide
  have := this l h
  omega
theorem joinL_len (sep : List Nat) (B : Nat) : ∀ ts : List (List Nat), (∀ t ∈ ts, t.length ≤ B) → (joinL sep ts).length ≤ ts.length * (B + sep.length)
  | [], _ => Nat.zero_le _
  | [a], h => by
    have := h a (.head _)
    show a.length ≤ 1 * _
    omega
  | a :: b :: r, h => by
    have ih := joinL_len sep B (b :: r) fun t ht => h t (.tail _ ht)
    have := h a (.head _)
    show (a ++ (sep ++ joinL sep (b :: r))).length ≤ (r.length + 1 + 1) * _
    rw [List.length_append, List.length_append]
    rw [List.length_cons] at ih
    have e : (r.length + 1 + 1) * (B + sep.length) = (r.length + 1) * (B + sep.length) + (B + sep.length) := Nat.succ_mul _ _
    omega
theorem name_cmds {g h : Heap} {L DC a1 a2 a3 cc : Addr} {o1 o2 o3 co x y : Obj} {vs us : List Value} {n : Nat} {m : Str → Option Value} {ts us' : List (List Nat)} (N : News g L h [(DC, lstO (vs ++ us) n), (a1, o1), (a2, o2), (a3, o3), (cc, co), (831, x), (88, y)]) (F : Fr g L h (fun z => if z = Str.ofString "commands" then some (.ref DC) else m z)) (l1 : a1 < DC ∧ a2 < DC ∧ a3 < DC ∧ cc < DC ∧ 831 < DC ∧ 88 < DC) (hv : IsTxts vs ts) (hu : IsTxts us us') :
    ∃ DC cvs, News g L h [(DC, lstO cvs n), (cc, co), (831, x), (88, y)] ∧ Fr g L h (fun z => if z = Str.ofString "commands" then some (.ref DC) else m z) ∧ IsTxts cvs (ts ++ us') ∧ cc < DC ∧ @LT.lt Nat _ 831 DC ∧ @LT.lt Nat _ 88 DC := by
  refine ⟨DC, vs ++ us, fun p hp => N p ?_, F, istxts_app hv hu, l1.2.2.2.1, l1.2.2.2.2.1, l1.2.2.2.2.2⟩
  simp only [List.mem_cons] at hp ⊢
  rcases hp with z | z | z | z | z <;> simp [z]
theorem split_use (w : World) (R : List (Addr × Obj)) (l : List Nat) (hl : l.length ≤ 1000) (ts : List (List Nat)) (hx : Lexes false l ts) (hts : ts.length ≤ 1000) (t : Tok) {pp : Program} {ll : List Str} {mean : ExcName → Option Value} {mg mb : Str → Option Value} {gd : Option (List Code)} {cn : Str} {cs : Scope} {a : Addr} {ccd : Value} {cl : List (Str × Addr)} {outer : List Env} {A₀ A : Around} {h₀ : Heap} {L : Addr} {m : Str → Option Value} {s : Shared}
    {Q E : Value → Shared → Prop} (hh : A.handled = none) (hdp : A.depth ≤ 400) (hu : A.units ≤ 2000) (hf : A.frames = some (envX cn cs L a ccd cl :: outer)) (hg : A.guards = gd)
    (B : Below A₀ h₀ outer h₀) (F : Fr h₀ L s.heap m) (X : (hd.heap_1 w.params).In h₀) (N : News h₀ L s.heap R) (T : Top pp ll mean mg mb h₀) (K : cs.kind = .function)
    (hret : ∀ S vs c' h' tk', IsTxts vs ts → Fr h₀ L h' m → News h₀ L h' ((S, listOf vs.toArray c') :: R) → Q (.ref S) { s with heap := h', toks := tk' }) :
    wpAny (model PySem.Challenge.pw_ij0186_01 w) A (call (.ref 802) [.str (tx l) t]) Q E s :=
  weaken (A' := ktrTop 400 2000 gd cn cs L a ccd cl outer) hh hdp hu hf.symm hg.symm (split_go w R l hl ts hx hts t pp ll mean mg mb gd cn cs a ccd cl outer A₀ h₀ L m s Q E B F X N T K hret)
theorem perm_key {g h : Heap} {L : Addr} {O H S D2 DC cc a1 a2 : Addr × Obj} (N : News g L h [O, H, S, D2, DC, cc, a1, a2]) : News g L h [a2, H, O, S, cc, DC, a1] := fun p hp => N p (by
  simp only [List.mem_cons] at hp ⊢
  rcases hp with z | z | z | z | z | z | z | z <;> simp [z])
theorem all_lt {d : Addr} {l : List (Addr × Obj)} (h : AllLt d l) : ∀ p ∈ l, p.1 ≠ d := by
  induction l with
  | nil => exact fun p hp => absurd hp List.not_mem_nil
  | cons q r ih => exact List.forall_mem_cons.mpr ⟨Nat.ne_of_lt h.1, ih h.2⟩
theorem key_rows {g h : Heap} {L : Addr} {KR : List (Addr × Obj)} {t8 H O S cc DC a1 : Addr × Obj} (N : News g L h (KR ++ t8 :: [H, O, S, cc, DC, a1])) (hne : ∀ p ∈ KR, ∀ q ∈ t8 :: [H, O, S, cc, DC, a1], p.1 ≠ q.1) (l1 : ∀ p ∈ [t8, DC, a1], p.1 ≠ H.1) (l2 : ∀ p ∈ [t8, DC, a1], p.1 ≠ O.1) (l4 : ∀ p ∈ [t8, DC, a1], p.1 ≠ cc.1) :
    ∃ RK, News g L h (H :: O :: S :: cc :: RK) ∧ (∀ p ∈ KR, p ∈ RK) ∧ t8 ∈ RK ∧ DC ∈ RK ∧ a1 ∈ RK ∧ (∀ p ∈ RK, p.1 ≠ H.1) ∧ (∀ p ∈ RK, p.1 ≠ O.1) ∧ (∀ p ∈ RK, p.1 ≠ cc.1) := by
  refine ⟨KR ++ [t8, DC, a1], fun p hp => N p ?_, fun p hp => List.mem_append_left _ hp, by simp, by simp, by simp, ?_, ?_, ?_⟩
  · simp only [List.mem_cons, List.mem_append] at hp ⊢
    rcases hp with z | z | z | z | z | z | z | z | z <;> simp [z]
  · exact fun p hp => (List.mem_append.mp hp).elim (fun z => hne p z _ (by simp)) (l1 p)
  · exact fun p hp => (List.mem_append.mp hp).elim (fun z => hne p z _ (by simp)) (l2 p)
  · exact fun p hp => (List.mem_append.mp hp).elim (fun z => hne p z _ (by simp)) (l4 p)
theorem ne_obj {g h : Heap} {L : Addr} {N1 : List (Addr × Obj)} {a b : Addr} {x y : Obj} (N : News g L h N1) (ha : (a, x) ∈ N1) (hb : (b, y) ∈ N1) (h : x.cls ≠ y.cls) : a ≠ b := fun e => by
  have z1 := (N _ ha).1
  have z2 := (N _ hb).1
  dsimp only at z1 z2
  rw [e, z2] at z1
  exact h (congrArg Obj.cls (Option.some.inj z1)).symm
theorem all3 {a b c : Addr × Obj} {x : Addr} (h1 : a.1 ≠ x) (h2 : b.1 ≠ x) (h3 : c.1 ≠ x) : ∀ p ∈ [a, b, c], p.1 ≠ x := List.forall_mem_cons.mpr ⟨h1, List.forall_mem_cons.mpr ⟨h2, List.forall_mem_cons.mpr ⟨h3, fun p hp => absurd hp List.not_mem_nil⟩⟩⟩
theorem perm_red {g h : Heap} {L : Addr} {S H O l : Addr × Obj} {cc : Addr × Obj} {RK : List (Addr × Obj)} (N : News g L h (S :: H :: O :: l :: cc :: RK)) : News g L h (S :: H :: O :: l :: (cc :: RK)) := N
theorem itok_off2 {R : List (Addr × Obj)} {c3 I L : Addr} {oI : Obj} {h₀ h : Heap} {i : It} (N : News h₀ L h R) (hI : (I, oI) ∈ R) (hd1 : ∀ ys n, oI.data ≠ .seq ys n) (hd2 : oI.data ≠ .plain) (h1 : ItOk R c3 i) : ItOk (R.filter fun p => decide (p.1 ≠ I)) c3 i := by
  obtain ⟨k1, d1, t1, t2, hl, a, b⟩ := h1
  have zI := (N _ hI).1
  have off : ∀ q ∈ R, q.2.data ≠ oI.data → q ∈ R.filter fun p => decide (p.1 ≠ I) := fun q hq hne => by
    rw [List.mem_filter]
    refine ⟨hq, decide_eq_true fun e => hne ?_⟩
    have z := (N q hq).1
    rw [e] at z
    dsimp only at zI
    rw [zI] at z
    rw [← Option.some.inj z]
  exact ⟨k1, d1, t1, t2, hl, off _ a fun z => hd1 _ _ z.symm, off _ b fun z => hd2 z.symm⟩
theorem law_rows {g h : Heap} {L c3 cc : Addr} {co : Obj} {KR RK R' news' : List (Addr × Obj)} {t8 S H O l DC a1 : Addr × Obj} {its : List It} {v : Option Value} (N : News g L h news') (hs : ∀ p ∈ S :: H :: O :: R', p ∈ news') (hR : ∀ p ∈ l :: (cc, co) :: RK, p ∈ R') (hco : co.data = .cell v) (kKR : ∀ p ∈ KR, p ∈ RK) (k88 : t8 ∈ RK) (kDC : DC ∈ RK) (k831 : a1 ∈ RK) (rc : ∀ p ∈ RK, p.1 ≠ cc)
    (aS : ∀ p ∈ R', p.1 ≠ S.1) (aH : ∀ p ∈ R', p.1 ≠ H.1) (aO : ∀ p ∈ R', p.1 ≠ O.1) (hok : ∀ i ∈ its, ItOk R' c3 i) :
    ∃ RX, News g L h (S :: H :: O :: (cc, co) :: RX) ∧ (∀ p ∈ KR, p ∈ RX) ∧ t8 ∈ RX ∧ DC ∈ RX ∧ a1 ∈ RX ∧ (∀ p ∈ RX, p.1 ≠ S.1) ∧ (∀ p ∈ RX, p.1 ≠ H.1) ∧ (∀ p ∈ RX, p.1 ≠ O.1) ∧ (∀ p ∈ RX, p.1 ≠ cc) ∧ (∀ i ∈ its, ItOk RX c3 i) ∧ cc ≠ S.1 ∧ cc ≠ H.1 ∧ cc ≠ O.1 := by
  have keep : ∀ p ∈ RK, p ∈ R'.filter fun p => decide (p.1 ≠ cc) := fun p hp => List.mem_filter.mpr ⟨hR p (.tail _ (.tail _ hp)), decide_eq_true (rc p hp)⟩
  have sub : ∀ p ∈ R'.filter (fun p => decide (p.1 ≠ cc)), p ∈ R' := fun p hp => (List.mem_filter.mp hp).1
  have hcc : (cc, co) ∈ R' := hR _ (.tail _ (.head _))
  refine ⟨R'.filter fun p => decide (p.1 ≠ cc), fun p hp => N p ?_, fun p hp => keep p (kKR p hp), keep _ k88, keep _ kDC, keep _ k831, fun p hp => aS p (sub p hp), fun p hp => aH p (sub p hp), fun p hp => aO p (sub p hp), fun p hp => of_decide_eq_true (List.mem_filter.mp hp).2, fun i hi => itok_off2 (fun p hp => N p (hs p (.tail _ (.tail _ (.tail _ hp))))) hcc (by rw [hco]; nofun) (by rw [hco]; nofun) (hok i hi), aS _ hcc, aH _ hcc, aO _ hcc⟩
  rcases List.mem_cons.mp hp with rfl | hp
  · exact hs _ (.head _)
  rcases List.mem_cons.mp hp with rfl | hp
  · exact hs _ (.tail _ (.head _))
  rcases List.mem_cons.mp hp with rfl | hp
  · exact hs _ (.tail _ (.tail _ (.head _)))
  rcases List.mem_cons.mp hp with rfl | hp
  · exact hs _ (.tail _ (.tail _ (.tail _ hcc)))
  · exact hs _ (.tail _ (.tail _ (.tail _ (sub p hp))))
theorem cmd_shape {cms : List (List Nat)} (h : ∀ t ∈ cms, t ∈ cmds) : ∀ c ∈ cms, ∃ a t, c = a :: t ∧ sgn a ∧ t.length ≤ 1000 := fun c hc => by
  obtain ⟨h1, _, h3, h4⟩ := cmd_len c (h c hc)
  cases c with
  | nil => exact absurd rfl h3
  | cons a t =>
    refine ⟨a, t, rfl, ?_, ?_⟩
    · simp at h4; unfold sgn; omega
    · rw [List.length_cons] at h1; omega
example : True := by
  (k_with "call builtin:len" => (k_here; (with_reducible show wpAny _ _ (call (Value.builtin "len") [Value.ref _]) _ _ _); k_dflt (refine' len_l ?N_h ?hm_h ?hf_h ?_; (case N_h => k_asm); (case hm_h => k_mem); (case hf_h => assumption); k_whole)))
  trivial
inductive HDrainJ (c3 H : Addr) (RX : List (Addr × Obj)) (r : List (List Nat)) (i : Nat) (ys : List Value) : List (Addr × Obj) → Prop
  | mk (its e) (Hd : Holds xs its (off i r)) (hok : ∀ j ∈ its, ItOk RX c3 j) (hys : IsTxts ys (drain i r)) : HDrainJ c3 H RX r i ys ((H, lstO (vals its) e) :: RX)
theorem swap2 {g h : Heap} {L : Addr} {S H : Addr × Obj} {R : List (Addr × Obj)} (N : News g L h (S :: H :: R)) : News g L h (H :: S :: R) := news_swap N
theorem pull_h {g h : Heap} {L : Addr} {I C D H : Addr × Obj} {R : List (Addr × Obj)} (N : News g L h (I :: C :: D :: H :: R)) : News g L h (H :: I :: C :: D :: R) := pull3 N
theorem push_h {g h : Heap} {L : Addr} {I C D H : Addr × Obj} {R : List (Addr × Obj)} (N : News g L h (H :: I :: C :: D :: R)) : News g L h (I :: C :: D :: H :: R) := fun p hp => N p (by
  simp only [List.mem_cons] at hp ⊢
  rcases hp with z | z | z | z | z <;> simp [z])
theorem drain_mem : ∀ (n : Nat) (r : List (List Nat)), n ≤ r.length → ∀ t ∈ drain n r, t ∈ r
  | 0, _, _, _, h => absurd h List.not_mem_nil
  | n + 1, r, hn, t, h => by
    have hne : r ≠ [] := fun e => by subst e; simp at hn
    rcases List.mem_cons.mp h with rfl | h
    · exact mini_mem hne
    · have hl : (r.erase (mini r)).length = r.length - 1 := List.length_erase_of_mem (mini_mem hne)
      exact List.mem_of_mem_erase (drain_mem n _ (by omega) t h)
theorem okt : ∀ t ∈ texts ++ cmds, okw t = true := okw_all
theorem perm_due {g h : Heap} {L : Addr} {S2 x1 x2 x3 x4 x5 x6 x7 : Addr × Obj} {RX : List (Addr × Obj)} {DC a1 t8 : Addr × Obj} (N : News g L h (S2 :: x1 :: x2 :: x3 :: x4 :: x5 :: x6 :: x7 :: RX)) (h1 : DC ∈ RX) (h2 : a1 ∈ RX) (h3 : t8 ∈ RX) : News g L h ([a1] ++ DC :: [S2, t8]) := fun p hp => N p (by
  simp only [List.mem_append, List.mem_cons, List.not_mem_nil, or_false] at hp ⊢
  rcases hp with z | z | z | z <;> subst z <;> simp [h1, h2, h3])
noncomputable def LW1_s : {P : World → Shared → Shared → (Str → Option Value) → (Str → Option Value) → Addr → Obj → Value → Value → Value → (List Int) → (List Addr) → (List Addr) → Addr → (List Value) → (List Addr) → Obj → Addr → (List Value) → Addr → Addr → Addr → Heap → Nat → Addr → (List Value) → (List (List Nat)) → Prop // (∀ wW s0 s1 mg mb fa oo pm cd doc wA wB wC wD wE wF wG D8 ws8 D₁ l8 D'_q h83 tk DC cvs cms, P wW s0 s1 mg mb fa oo pm cd doc wA wB wC wD wE wF wG D8 ws8 D₁ l8 D'_q h83 tk DC cvs cms) → (PySem.Challenge.rw_ij0186_01.Holds)} := by
  refine' ⟨_, fun HC1 => ?hcut⟩
  case hcut =>
    refine hd ?_
    k_go0
    all_goals (try k_fold)
    rename 831 < _ ∧ 88 < _ => l0
    (try (rename Dflts _ _ _ => zz; clear zz))
    (try (rename Heap.CodeRec _ _ _ => zz; clear zz))
    (try (rename TopE _ _ _ _ _ => zz; clear zz))
    (try (rename TopW _ _ _ => zz; clear zz))
    (try (rename Tables _ _ _ _ => zz; clear zz))
    (try (rename LooseAre _ _ _ => zz; clear zz))
    (try (rename CellsAre _ _ _ => zz; clear zz))
    (try (rename Flt.MathXP _ _ _ => zz; clear zz))
    (try (rename TabsAt _ _ => zz; clear zz))
    (try (rename WShape.hasAll _ _ _ = true => zz; clear zz))
    (try (rename Shape.has _ _ = true => zz; clear zz))
    rename_i wW s0 s1 mg mb gG yY fa oo pm cd doc hoF hg tT tE wA hlay hLa hl2 wB wC wD wE wF hLb ra w1 r0 hI hr hca hcb hD hh1 tkk1 wG rgt xX tT2 kK FZ cdA NZ
    rename Fr _ _ _ _ => F0
    have F2 := fr_plain F0 (by funext y; rfl : _ = fun y => if y = Str.ofString "script" then some (Value.ref _) else none)
    clear F0
    repeat (first | (fail_if_success (with_reducible show wpAny _ _ (eval (PySem.Expr.ListComp _ _ _ _) _) _ _ _)); walk_at "my_step")
    k_dflt (refine LCg.ListComp_U (F₀ := by k_asm) (by with_unfolding_all rfl) (by decide) (by rfl) (by decide) (by rfl) ?_)
    repeat (first | (fail_if_success (with_reducible show LCg.CompSrc _ _ _ _ _ _ _ _ _ _ _ _ _ _)); walk_at "my_step")
    rename News _ _ _ _ => N1
    rename Fr _ _ _ _ => F1
    rename IntsAre _ (List.take 5 _) => hI5
    rename (List.take 5 _).length = _ => hC5
    have hlw := hI5.length
    k_dflt (refine LCg.CompSrc.ledger (by rfl) F1 N1 (.head _) (by rw [PySem.sizeLine_eq, List.size_toArray]; omega) ?_)
    intro g2
    refine comp_inv (CmdJ _) ⟨[], trivial, rfl, fun t h => absurd h List.not_mem_nil⟩ ?turn ?fin
    case turn =>
      rintro i v ys news I oI C₁ oC₁ D m₂ h₂ tk₂ E' hin ⟨ts, hts, htl, htm⟩ hv hC hx F2 N2 off3 ne3
      obtain ⟨k, tk, rfl, hk⟩ := IntsAre.at hI5 i v (by simpa using hv)
      repeat (first | (fail_if_success (with_reducible show wpAny _ _ (call (Value.ref 815) _) _ _ _)); walk_at "my_step")
      k_dflt (refine' (cmd_ctr _ _ _ _).use ?hh ?hd ?hu ?hf ?hg ?B ?F ?X ?N ?T ?K ?_; walk_at "my_use")
      rintro v' news' h' tk' ⟨⟨l, hl, t', rfl⟩, rfl⟩ F3 N3
      refine LCg.CompEnd.intro F3 N3 _ (fun p hp => hp) off3 (.inr ⟨_, .head _, rfl, _, rfl⟩) ⟨ts ++ [l], istxts_snoc hts, by rw [List.length_append, htl]; rfl, fun z hz => (List.mem_append.mp hz).elim (htm z) fun hz => by rw [List.mem_singleton.mp hz]; exact hl⟩
    case fin =>
      rintro ys news ⟨ts, hts, htl, htm⟩
      intro D₁ h₁ tk₁ F2 N2 off1
      rw [List.size_toArray] at htl
      have hyl := istxts_len hts
      repeat (first | (fail_if_success (with_reducible show wpAny _ _ (eval (PySem.Expr.ListComp _ _ _ _) _) _ _ _)); walk_at "my_step")
      rename News _ _ _ _ => N3
      rename Fr _ _ _ _ => F3
      refine ex2_6 (name_cmds N3 F3 (by assumption) hts is_tens) fun DC cvs N4 F4 hcv n1 n2 n3 => ?_
      clear N3 F3
      have hcm : ∀ t ∈ ts ++ tens, t ∈ cmds := fun t ht => (List.mem_append.mp ht).elim (htm t) (tens_cmds t)
      have hcl : (ts ++ tens).length ≤ 15 := by
        rw [List.length_append, htl]
        show _ + 10 ≤ 15
        omega
      clear htm htl hyl hts
      generalize ts ++ tens = cms at *
      have hcl2 := istxts_len hcv
      rename_i D8 ws8 h81 hL8 l81 l8 h82 l82 h83
      revert gG yY hoF hg hT8 tT tE hlay hLa hl2 hLb ra w1 r0 hI hr hca hcb hD rgt xX tT2 kK lifted cdA codeHd l0 hI5 hC5 hL8 l81 hlw off1 l82 l1_q N4 F4 n1 n2 n3 hcv hcm hcl hcl2
      exact HC1 wW s0 s1 mg mb fa oo pm cd doc wA wB wC wD wE wF wG D8 ws8 D₁ l8 D'_q h83 tk DC cvs cms
@[irreducible] noncomputable def LW1_e : (World × Shared × Shared × (Str → Option Value) × (Str → Option Value) × Addr × Obj × Value) × (Value × Value × (List Int) × (List Addr) × (List Addr) × Addr × (List Value) × (List Addr)) × (Obj × Addr × (List Value) × Addr × Addr × Addr × Heap × Nat) × (Addr × (List Value) × (List (List Nat))) := Ep (by first | infer_instance | (repeat' (first | exact neW | exact neA | exact neS | infer_instance | refine neP ?_ ?_ | (refine ⟨?_⟩; constructor <;> exact default) | (refine ⟨?_⟩; constructor)))) fun x => LW1_s.1 x.1.1 x.1.2.1 x.1.2.2.1 x.1.2.2.2.1 x.1.2.2.2.2.1 x.1.2.2.2.2.2.1 x.1.2.2.2.2.2.2.1 x.1.2.2.2.2.2.2.2 x.2.1.1 x.2.1.2.1 x.2.1.2.2.1 x.2.1.2.2.2.1 x.2.1.2.2.2.2.1 x.2.1.2.2.2.2.2.1 x.2.1.2.2.2.2.2.2.1 x.2.1.2.2.2.2.2.2.2 x.2.2.1.1 x.2.2.1.2.1 x.2.2.1.2.2.1 x.2.2.1.2.2.2.1 x.2.2.1.2.2.2.2.1 x.2.2.1.2.2.2.2.2.1 x.2.2.1.2.2.2.2.2.2.1 x.2.2.1.2.2.2.2.2.2.2 x.2.2.2.1 x.2.2.2.2.1 x.2.2.2.2.2
namespace LW1
noncomputable section
 @[irreducible] def wW := LW1_e.1.1
 @[irreducible] def s0 := LW1_e.1.2.1
 @[irreducible] def s1 := LW1_e.1.2.2.1
 @[irreducible] def mg := LW1_e.1.2.2.2.1
 @[irreducible] def mb := LW1_e.1.2.2.2.2.1
 @[irreducible] def fa := LW1_e.1.2.2.2.2.2.1
 @[irreducible] def oo := LW1_e.1.2.2.2.2.2.2.1
 @[irreducible] def pm := LW1_e.1.2.2.2.2.2.2.2
 @[irreducible] def cd := LW1_e.2.1.1
 @[irreducible] def doc := LW1_e.2.1.2.1
 @[irreducible] def wA := LW1_e.2.1.2.2.1
 @[irreducible] def wB := LW1_e.2.1.2.2.2.1
 @[irreducible] def wC := LW1_e.2.1.2.2.2.2.1
 @[irreducible] def wD := LW1_e.2.1.2.2.2.2.2.1
 @[irreducible] def wE := LW1_e.2.1.2.2.2.2.2.2.1
 @[irreducible] def wF := LW1_e.2.1.2.2.2.2.2.2.2
 @[irreducible] def wG := LW1_e.2.2.1.1
 @[irreducible] def D8 := LW1_e.2.2.1.2.1
 @[irreducible] def ws8 := LW1_e.2.2.1.2.2.1
 @[irreducible] def D₁ := LW1_e.2.2.1.2.2.2.1
 @[irreducible] def l8 := LW1_e.2.2.1.2.2.2.2.1
 @[irreducible] def D'_q := LW1_e.2.2.1.2.2.2.2.2.1
 @[irreducible] def h83 := LW1_e.2.2.1.2.2.2.2.2.2.1
 @[irreducible] def tk := LW1_e.2.2.1.2.2.2.2.2.2.2
 @[irreducible] def DC := LW1_e.2.2.2.1
 @[irreducible] def cvs := LW1_e.2.2.2.2.1
 @[irreducible] def cms := LW1_e.2.2.2.2.2
end
end LW1
section
open LW1
noncomputable def LW3_s : {P : Addr → Addr → (List Value) → Nat → Nat → Addr → Addr → Heap → (List (Addr × Obj)) → (Array Value) → Addr → Heap → Nat → (List (Addr × Obj)) → Prop // (∀ D₂ S₁ rvs c1 tk H O hO KR tab c3 h5 tk5 RK, P D₂ S₁ rvs c1 tk H O hO KR tab c3 h5 tk5 RK) → (LW1_s.1 LW1.wW LW1.s0 LW1.s1 LW1.mg LW1.mb LW1.fa LW1.oo LW1.pm LW1.cd LW1.doc LW1.wA LW1.wB LW1.wC LW1.wD LW1.wE LW1.wF LW1.wG LW1.D8 LW1.ws8 LW1.D₁ LW1.l8 LW1.D'_q LW1.h83 LW1.tk LW1.DC LW1.cvs LW1.cms)} := by
  refine' ⟨_, fun HC1 => ?hcut⟩
  case hcut =>
    intro gG yY hoF hg hT8 tT tE hlay hLa hl2 hLb ra w1 r0 hI hr hca hcb hD rgt xX tT2 kK lifted cdA codeHd l0 hI5 hC5 hL8 l81 hlw off1 l82 l1_q N4 F4 n1 n2 n3 hcv hcm hcl hcl2
    k_dflt (refine LCg.ListComp_U (F₀ := F4) (by with_unfolding_all rfl) (by decide) (by rfl) (by decide) (by rfl) ?_)
    repeat (first | (fail_if_success (with_reducible show LCg.CompSrc _ _ _ _ _ _ _ _ _ _ _ _ _ _)); walk_at "my_step")
    k_dflt (refine LCg.CompSrc.ledger (by rfl) F4 N4 (.head _) (by rw [PySem.sizeLine_eq, List.size_toArray]; omega) ?_)
    intro g3
    refine comp_inv (QJ _ cms) ⟨trivial⟩ ?turn ?fin
    case turn =>
      rintro i v ys news I oI C₁ oC₁ D m₂ h₂ tk₂ E' hin ⟨hys⟩ hv hC hx F2 N2 off3 ne3
      obtain ⟨c, tk, hci, rfl⟩ := istxts_get hcv (by simpa using hv)
      have hcc : c ∈ texts ++ cmds := List.mem_append_right _ (hcm c (List.mem_of_getElem? hci))
      repeat (first | (fail_if_success (with_reducible show wpAny _ _ (call (Value.ref 810) _) _ _ _)); walk_at "my_step")
      k_dflt (refine' (quote_ctr _ _ c hcc (cmd_1000 hcc) _).useT ?hh ?hd ?hu ?hf ?hg ?B ?F ?X ?N ?T ?K ?_; walk_at "my_use")
      intro t' h' tk' F3 N3
      refine LCg.CompEnd.intro F3 N3 _ (fun p hp => hp) off3 (.inr ⟨_, .head _, rfl, _, rfl⟩) ⟨?_⟩
      rw [List.take_add_one, hci, List.map_append]
      exact istxts_snoc hys
    case fin =>
      rintro ys news ⟨hys⟩
      rw [List.size_toArray, hcl2, List.take_length] at hys
      intro D₂ h₂ tk₂ F2 N2 off1
      repeat (first | (fail_if_success (with_reducible show wpAny _ _ (call (Value.builtin "str.join") _) _ _ _)); walk_at "my_step")
      have hq20 : ∀ t ∈ cms.map qt, t.length ≤ 20 := fun t ht => by
        obtain ⟨c, hc, rfl⟩ := List.mem_map.mp ht
        exact qt_len c (List.mem_append_right _ (hcm c hc))
      k_dflt (refine' join_goS [32, 32] (by decide +kernel) N2 (.head _) hys (fun t ht => Nat.le_trans (hq20 t ht) (by decide)) (by rw [List.length_map]; omega) (by decide) ?_)
      intro t3 k3
      repeat (first | (fail_if_success (with_reducible show wpAny _ _ (call (Value.ref 802) _) _ _ _)); walk_at "my_step")
      have hjl := joinL_len [32, 32] 20 (cms.map qt) hq20
      rw [List.length_map] at hjl
      have hok : ∀ t ∈ cms, okw t = true := fun t ht => okw_all t (List.mem_append_right _ (hcm t ht))
      have hsl := Nat.le_trans hjl (Nat.mul_le_mul_right _ hcl)
      k_dflt (refine' split_use _ _ _ (Nat.le_trans hsl (by decide)) cms (lexes_join [32, 32] (.inr rfl) cms hok) (Nat.le_trans hcl (by decide)) _ ?hh ?hd ?hu ?hf ?hg ?B ?F ?X ?N ?T ?K ?_; walk_at "my_use")
      intro S₁ rvs c1 h4 tk4 hrv F5 N5
      have nS8 : S₁ ≠ 88 := ne_obj N5 (.head _) (.tail _ (.tail _ (.tail _ (.tail _ (.tail _ (.head _)))))) nofun
      clear hjl hsl hok hq20 hys off1 N2 F2
      repeat (first | (fail_if_success (with_reducible show wpAny _ _ (call (Value.ref 93) _) _ _ _)); walk_at "my_step")
      rename_i H hH lH O hO FO NO lO
      have NK := perm_key NO
      rename CodeHd _ (92, 88).1 _ => C92
      rename CodeHd _ (835, 831).1 _ => C83
      k_dflt (refine' cmpkey_K ?hh ?hd ?hu ?hf FO ?X NK ?hR ?T C92 ?_; (case hh => rfl); (case hf => rfl); (case hd => exact Nat.le_of_ble_eq_true rfl); (case hu => exact Nat.le_of_ble_eq_true rfl); (case X => k_asm); (case T => k_asm); (case hR => exact List.forall_mem_cons.mpr ⟨(Nat.ne_of_lt lH.2.2.2.2.2).symm, List.forall_mem_cons.mpr ⟨(Nat.ne_of_lt lO.2.2.2.2.2.2).symm, List.forall_mem_cons.mpr ⟨nS8, List.forall_mem_cons.mpr ⟨(Nat.ne_of_lt (Nat.lt_succ_of_lt l0.2)).symm, List.forall_mem_cons.mpr ⟨(Nat.ne_of_lt n3).symm, List.forall_mem_cons.mpr ⟨fun e => absurd (show (831 : Nat) = 88 from e) (by decide), fun p hp => absurd hp List.not_mem_nil⟩⟩⟩⟩⟩⟩))
      intro KR tab c3 h5 tk5 hK hKne F6 N6
      refine ex1_8 (key_rows N6 hKne (all3 (Nat.ne_of_lt lH.2.2.2.2.2) (Nat.ne_of_lt lH.2.2.1) (Nat.ne_of_lt lH.2.2.2.2.1)) (all3 (Nat.ne_of_lt lO.2.2.2.2.2.2) (Nat.ne_of_lt lO.2.2.2.1) (Nat.ne_of_lt lO.2.2.2.2.2.1)) (all3 (Nat.ne_of_lt (Nat.lt_succ_of_lt l0.2)) (Nat.ne_of_lt n1).symm (Nat.ne_of_lt (Nat.lt_succ_of_lt l0.1)))) fun RK N7 kKR k88 kDC k831 rH rO rc => ?_
      clear N6 NO NK FO
      revert gG yY hoF hg hT8 tT tE hlay hLa hl2 hLb ra w1 r0 hI hr hca hcb hD rgt xX tT2 kK lifted C83 C92 l0 hI5 hC5 hL8 l81 hlw off1 l82 l1_q n1 n2 n3 hcv hcm hcl hcl2 hrv nS8 lH lO hK hKne F6 N7 kKR k88 kDC k831 rH rO rc
      exact HC1 D₂ S₁ rvs c1 tk H O hO KR tab c3 h5 tk5 RK
@[irreducible] noncomputable def LW3_e : (Addr × Addr × (List Value) × Nat × Nat × Addr × Addr × Heap) × ((List (Addr × Obj)) × (Array Value) × Addr × Heap × Nat × (List (Addr × Obj))) := Ep (by first | infer_instance | (repeat' (first | exact neW | exact neA | exact neS | infer_instance | refine neP ?_ ?_ | (refine ⟨?_⟩; constructor <;> exact default) | (refine ⟨?_⟩; constructor)))) fun x => LW3_s.1 x.1.1 x.1.2.1 x.1.2.2.1 x.1.2.2.2.1 x.1.2.2.2.2.1 x.1.2.2.2.2.2.1 x.1.2.2.2.2.2.2.1 x.1.2.2.2.2.2.2.2 x.2.1 x.2.2.1 x.2.2.2.1 x.2.2.2.2.1 x.2.2.2.2.2.1 x.2.2.2.2.2.2
namespace LW3
noncomputable section
 @[irreducible] def D₂ := LW3_e.1.1
 @[irreducible] def S₁ := LW3_e.1.2.1
 @[irreducible] def rvs := LW3_e.1.2.2.1
 @[irreducible] def c1 := LW3_e.1.2.2.2.1
 @[irreducible] def tk := LW3_e.1.2.2.2.2.1
 @[irreducible] def H := LW3_e.1.2.2.2.2.2.1
 @[irreducible] def O := LW3_e.1.2.2.2.2.2.2.1
 @[irreducible] def hO := LW3_e.1.2.2.2.2.2.2.2
 @[irreducible] def KR := LW3_e.2.1
 @[irreducible] def tab := LW3_e.2.2.1
 @[irreducible] def c3 := LW3_e.2.2.2.1
 @[irreducible] def h5 := LW3_e.2.2.2.2.1
 @[irreducible] def tk5 := LW3_e.2.2.2.2.2.1
 @[irreducible] def RK := LW3_e.2.2.2.2.2.2
end
end LW3
section
open LW3
noncomputable def LW4_s : {P : Addr → Heap → Heap → Nat → (List It) → (List Value) → Nat → Nat → (List (Addr × Obj)) → Prop // (∀ S hS h6 tk6 its ov e e2 RX, P S hS h6 tk6 its ov e e2 RX) → (LW3_s.1 LW3.D₂ LW3.S₁ LW3.rvs LW3.c1 LW3.tk LW3.H LW3.O LW3.hO LW3.KR LW3.tab LW3.c3 LW3.h5 LW3.tk5 LW3.RK)} := by
  refine' ⟨_, fun HC1 => ?hcut⟩
  case hcut =>
    intro gG yY hoF hg hT8 tT tE hlay hLa hl2 hLb ra w1 r0 hI hr hca hcb hD rgt xX tT2 kK lifted C83 C92 l0 hI5 hC5 hL8 l81 hlw off1 l82 l1_q n1 n2 n3 hcv hcm hcl hcl2 hrv nS8 lH lO hK hKne F6 N7 kKR k88 kDC k831 rH rO rc
    repeat (first | (fail_if_success (with_reducible show wpAny _ _ (call (Value.ref 102) _) _ _ _)); walk_at "my_step")
    rename_i S hS FS NS lS
    rename LW1.wG.data = _ => dco0
    have dco := dco0.trans (congrArg Data.cell (by rfl : _ = none))
    clear dco0
    k_dflt (refine' (red_ctr _ KR _ c3 hK ?hKR S H O S₁ _ _ _ _ rvs cms hrv (cmd_shape hcm) (Nat.le_trans hcl (by decide)) (Nat.ne_of_lt lS.1).symm (Nat.ne_of_lt lS.2.1).symm (Nat.ne_of_lt lO.1) (Nat.ne_of_lt lS.2.2.1) (Nat.ne_of_lt lH.1) (Nat.ne_of_lt lO.2.1) ?rS ?rH ?rO).useP ?hh ?hd ?hu ?hf ?hg ?B ?F ?X ?N ?T ?K ?_)
    case N => exact NS
    case hKR => exact fun p hp => .tail _ (kKR p hp)
    case rS => exact List.forall_mem_cons.mpr ⟨Nat.ne_of_lt lS.2.2.2.1, all_lt lS.2.2.2.2⟩
    case rH => exact List.forall_mem_cons.mpr ⟨Nat.ne_of_lt lH.2.2.2.1, rH⟩
    case rO => exact List.forall_mem_cons.mpr ⟨Nat.ne_of_lt lO.2.2.2.2.1, rO⟩
    case hh => exact rfl
    case hd => exact Nat.le_of_ble_eq_true rfl
    case hu => exact Nat.le_of_ble_eq_true rfl
    case hf => exact rfl
    case hg => exact rfl
    case B => k_asm
    case F => exact FS
    case X => k_asm
    case T => k_asm
    case K => exact rfl
    rintro news' h6 tk6 ⟨its, ov, e, e2, R', hs, hR, aS, aH, aO, hok, ho, Hd⟩ F8 N8
    refine ex1_13 (law_rows N8 hs hR dco kKR k88 kDC k831 rc aS aH aO hok) fun RX N9 xKR x88 xDC x831 xS xH xO xc hok ncS ncH ncO => ?_
    clear N8 hs hR aS aH aO NS FS
    dsimp only at xS xH xO ncS ncH ncO
    revert gG yY hoF hg hT8 tT tE hlay hLa hl2 hLb ra w1 r0 hI hr hca hcb hD xX tT2 kK lifted C83 C92 l0 hI5 hC5 hL8 l81 hlw off1 l82 l1_q n1 n2 n3 hcv hcm hcl hcl2 hrv nS8 lH lO hK hKne kKR k88 kDC k831 rH rO rc lS dco ho Hd F8 N9 xKR x88 xDC x831 xS xH xO xc hok ncS ncH ncO
    exact HC1 S hS h6 tk6 its ov e e2 RX
@[irreducible] noncomputable def LW4_e : (Addr × Heap × Heap × Nat × (List It) × (List Value) × Nat × Nat) × (List (Addr × Obj)) := Ep (by first | infer_instance | (repeat' (first | exact neW | exact neA | exact neS | infer_instance | refine neP ?_ ?_ | (refine ⟨?_⟩; constructor <;> exact default) | (refine ⟨?_⟩; constructor)))) fun x => LW4_s.1 x.1.1 x.1.2.1 x.1.2.2.1 x.1.2.2.2.1 x.1.2.2.2.2.1 x.1.2.2.2.2.2.1 x.1.2.2.2.2.2.2.1 x.1.2.2.2.2.2.2.2 x.2
namespace LW4
noncomputable section
 @[irreducible] def S := LW4_e.1.1
 @[irreducible] def hS := LW4_e.1.2.1
 @[irreducible] def h6 := LW4_e.1.2.2.1
 @[irreducible] def tk6 := LW4_e.1.2.2.2.1
 @[irreducible] def its := LW4_e.1.2.2.2.2.1
 @[irreducible] def ov := LW4_e.1.2.2.2.2.2.1
 @[irreducible] def e := LW4_e.1.2.2.2.2.2.2.1
 @[irreducible] def e2 := LW4_e.1.2.2.2.2.2.2.2
 @[irreducible] def RX := LW4_e.2
end
end LW4
section
open LW4
noncomputable def LW5_s : {P : Obj → Heap → Nat → Heap → Nat → Tok → Tok → Tok → (List (List Nat)) → (List (List Nat)) → Heap → (List Value) → (List It) → Nat → Addr → Heap → Nat → Prop // (∀ co2 x3 tk x4 tkx t1x u1x v1x r ots g4 ys2 its2 e3 D₄ h₄ tk₄, P co2 x3 tk x4 tkx t1x u1x v1x r ots g4 ys2 its2 e3 D₄ h₄ tk₄) → (LW4_s.1 LW4.S LW4.hS LW4.h6 LW4.tk6 LW4.its LW4.ov LW4.e LW4.e2 LW4.RX)} := by
  refine' ⟨_, fun HC1 => ?hcut⟩
  case hcut =>
    intro gG yY hoF hg hT8 tT tE hlay hLa hl2 hLb ra w1 r0 hI hr hca hcb hD xX tT2 kK lifted C83 C92 l0 hI5 hC5 hL8 l81 hlw off1 l82 l1_q n1 n2 n3 hcv hcm hcl hcl2 hrv nS8 lH lO hK hKne kKR k88 kDC k831 rH rO rc lS dco ho Hd F8 N9 xKR x88 xDC x831 xS xH xO xc hok ncS ncH ncO
    repeat (first | (fail_if_success (with_reducible show wpAny _ _ (storeName _ _ _) _ _ _)); walk_at "my_step")
    rename Fr _ _ _ _ => F8
    rename News _ _ _ _ => N9
    k_dflt (refine' storeX_C F8 N9 ?qc ?qU dco ?_ ?qa ?qb; (case qa => exact rfl); (case qb => exact rfl); (case qc => exact rfl); (case qU => exact .tail ncS.symm (.tail ncH.symm (.tail ncO.symm (.head xc)))))
    intro h8 co2 F10 N10 dc2
    (try dsimp only at N10)
    clear F8 N9
    have hfl := fold_len cms ([], [])
    simp only [List.length_nil, Nat.zero_add] at hfl
    have hfm := fold_mem cms ([], [])
    have hvl : (vals its).length < 1000 := by
      have z1 := Hd.len
      rw [vals_len]; omega
    have hol1 := istxts_len ho
    repeat (first | (fail_if_success (with_reducible show LCg.CompSrc _ _ _ _ _ _ _ _ _ _ _ _ _ _)); walk_at "my_step")
    generalize hfd : cms.foldl dueStep ([], []) = fd at *
    obtain ⟨r, ots⟩ := fd
    dsimp only at Hd ho hfl hfm hol1
    have hrl := Hd.len
    have hv2 := vals_len (l := its)
    rename News _ _ _ _ => N11
    rename Fr _ _ _ _ => F11
    have N12 := swap2 N11
    clear N11
    k_dflt (refine LCg.CompSrc.range (by rfl) F11 N12 (by assumption) (small_one (by decide) (by decide) (by omega) (by omega)) (rangeSize_nat _ _) (by rw [PySem.sizeLine_eq]; omega) ?_)
    intro g4
    refine comp_inv (HDrainJ c3 H _ r) ⟨its, e, Hd, fun j hj => (hok j hj).mono fun p hp => .tail _ (.tail _ (.tail _ hp)), trivial⟩ ?turn ?fin
    case turn =>
      rintro i v ys news I oI C₁ oC₁ D m₂ h₂ tk₂ E' hin ⟨its, e, Hd, hok, hys⟩ hv hC hx F2 N2 off3 ne3
      have hin' : i < r.length := by omega
      have hol := off_len i r (by omega)
      have hl1 := Hd.len
      have h0 : 0 < its.length := by omega
      have hz3 := off3.mem
      have zH := hz3 _ (.head _)
      obtain ⟨k1, d1, u1, u2, hl, mt1, mt2⟩ := hok _ (top_mem h0)
      repeat (first | (fail_if_success (with_reducible show wpAny _ _ (call (Value.ref 58) _) _ _ _)); walk_at "my_step")
      rename News _ _ _ _ => N3
      have N4 := pull_h N3
      clear N3
      k_dflt (refine' (heappop_ctr _ _ ltI _ (tup_lt _ KR _ c3 hK ?hKR) H ?ap e its ?ok h0 ?len).use ?hh ?hd ?hu ?hf ?hg ?B ?F ?X N4 ?T ?K ?_)
      case hKR => exact fun p hp => .tail _ (.tail _ (.tail _ (.tail _ (.tail _ (.tail _ (xKR p hp))))))
      case ap => exact List.forall_mem_cons.mpr ⟨zH.1.symm, List.forall_mem_cons.mpr ⟨zH.2.1.symm, List.forall_mem_cons.mpr ⟨zH.2.2.symm, List.forall_mem_cons.mpr ⟨(Nat.ne_of_lt lS.1).symm, List.forall_mem_cons.mpr ⟨(Nat.ne_of_lt lO.1).symm, List.forall_mem_cons.mpr ⟨ncH, xH⟩⟩⟩⟩⟩⟩
      case ok => exact fun j hj => (hok j hj).mono fun p hp => .tail _ (.tail _ (.tail _ hp))
      case len => omega
      case hh => exact rfl
      case hd => exact Nat.le_of_ble_eq_true rfl
      case hu => exact Nat.le_of_ble_eq_true rfl
      case hf => exact rfl
      case hg => exact rfl
      case B => k_asm
      case F => k_asm
      case X => k_asm
      case T => k_asm
      case K => exact rfl
      rintro v' news' h5 tk5 ⟨rfl, rfl⟩ F5 N5
      have N6 := push_h N5
      clear N4 N5
      repeat (first | (fail_if_success (with_reducible show wpAny _ _ (subscriptTail _ _ _ _) _ _ _)); walk_at "my_step")
      k_dflt (refine' item1 N6 ?m ?_; (case m => exact .tail _ (.tail _ (.tail _ (.tail _ mt1)))))
      repeat (first | (fail_if_success (with_reducible show LCg.CompEnd _ _ _ _ _ _ _ _ _ _ _ _ _ _)); walk_at "my_step")
      refine LCg.CompEnd.intro (by k_asm) N6 _ (fun p hp => hp) (.of ?_) trivial ⟨hpop ltI its, e + 1, by rw [off_succ]; exact Hd.pop h0, oks_popd hok (fun p hp => hp) Hd.1 h0, by rw [drain_succ]; exact istxts_top hys (Hd.top h0)⟩
      exact List.forall_mem_cons.mpr ⟨zH, fun p hp => hz3 p (.tail _ hp)⟩
    case fin =>
      rintro ys2 news ⟨its2, e3, Hd2, hok2, hys2⟩
      intro D₄ h₄ tk₄ F13 N13 off4
      have hdn : ((its.length : Int) - 0).toNat = r.length := by omega
      rw [hv2, hdn] at hys2
      have hyl2 := istxts_len hys2
      have hdl : ∀ n q, (drain n q).length = n := fun n => by
        induction n with
        | zero => intro q; rfl
        | succ n ih => intro q; show (mini q :: drain n _).length = _; rw [List.length_cons, ih]
      rw [hdl] at hyl2
      repeat (first | (fail_if_success (with_reducible show wpAny _ _ (eval (PySem.Expr.ListComp _ _ _ _) _) _ _ _)); walk_at "my_step")
      have hct : ∀ c ∈ cms, c.tail ∈ texts := fun c hc => (cmd_len c (hcm c hc)).2.1
      have hots : ∀ t ∈ ots ++ drain r.length r, t ∈ texts := fun t ht => by
        rcases List.mem_append.mp ht with ht | ht
        · rcases hfm.2 t ht with h | h | ⟨c, hc, rfl⟩
          · exact absurd h List.not_mem_nil
          · exact absurd h List.not_mem_nil
          · exact hct c hc
        · rcases hfm.1 t (drain_mem _ _ (Nat.le_refl _) t ht) with h | ⟨c, hc, rfl⟩
          · exact absurd h List.not_mem_nil
          · exact hct c hc
      have hov := istxts_app ho hys2
      have hovl := istxts_len hov
      have hol3 : (ots ++ drain r.length r).length ≤ 30 := by rw [List.length_append, hdl]; omega
      rename_i x1 x2 x3 FX NX x4 tkx t1x u1x v1x ax1 ax2
      revert gG yY hoF hg hT8 tT tE hlay hLa hl2 hLb ra w1 r0 hI hr hca hcb hD xX tT2 kK lifted C83 C92 l0 hI5 hC5 hL8 l81 hlw off1 l82 l1_q n1 n2 n3 hcv hcm hcl hcl2 hrv nS8 lH lO hK hKne kKR k88 kDC k831 rH rO rc lS dco xKR x88 xDC x831 xS xH xO xc hok ncS ncH ncO dc2 hvl FX NX ax1 F11 ax2 hfd ho Hd hfl hfm hol1 hrl hv2 N12 Hd2 hok2 hys2 F13 N13 off4 hdn hyl2 hdl hct hots hov hovl hol3
      exact HC1 co2 x3 tk x4 tkx t1x u1x v1x r ots g4 ys2 its2 e3 D₄ h₄ tk₄
@[irreducible] noncomputable def LW5_e : (Obj × Heap × Nat × Heap × Nat × Tok × Tok × Tok) × ((List (List Nat)) × (List (List Nat)) × Heap × (List Value) × (List It) × Nat × Addr × Heap) × Nat := Ep (by first | infer_instance | (repeat' (first | exact neW | exact neA | exact neS | infer_instance | refine neP ?_ ?_ | (refine ⟨?_⟩; constructor <;> exact default) | (refine ⟨?_⟩; constructor)))) fun x => LW5_s.1 x.1.1 x.1.2.1 x.1.2.2.1 x.1.2.2.2.1 x.1.2.2.2.2.1 x.1.2.2.2.2.2.1 x.1.2.2.2.2.2.2.1 x.1.2.2.2.2.2.2.2 x.2.1.1 x.2.1.2.1 x.2.1.2.2.1 x.2.1.2.2.2.1 x.2.1.2.2.2.2.1 x.2.1.2.2.2.2.2.1 x.2.1.2.2.2.2.2.2.1 x.2.1.2.2.2.2.2.2.2 x.2.2
namespace LW5
noncomputable section
 @[irreducible] def co2 := LW5_e.1.1
 @[irreducible] def x3 := LW5_e.1.2.1
 @[irreducible] def tk := LW5_e.1.2.2.1
 @[irreducible] def x4 := LW5_e.1.2.2.2.1
 @[irreducible] def tkx := LW5_e.1.2.2.2.2.1
 @[irreducible] def t1x := LW5_e.1.2.2.2.2.2.1
 @[irreducible] def u1x := LW5_e.1.2.2.2.2.2.2.1
 @[irreducible] def v1x := LW5_e.1.2.2.2.2.2.2.2
 @[irreducible] def r := LW5_e.2.1.1
 @[irreducible] def ots := LW5_e.2.1.2.1
 @[irreducible] def g4 := LW5_e.2.1.2.2.1
 @[irreducible] def ys2 := LW5_e.2.1.2.2.2.1
 @[irreducible] def its2 := LW5_e.2.1.2.2.2.2.1
 @[irreducible] def e3 := LW5_e.2.1.2.2.2.2.2.1
 @[irreducible] def D₄ := LW5_e.2.1.2.2.2.2.2.2.1
 @[irreducible] def h₄ := LW5_e.2.1.2.2.2.2.2.2.2
 @[irreducible] def tk₄ := LW5_e.2.2
end
end LW5
section
open LW5
theorem LW5_b : LW5_s.1 LW5.co2 LW5.x3 LW5.tk LW5.x4 LW5.tkx LW5.t1x LW5.u1x LW5.v1x LW5.r LW5.ots LW5.g4 LW5.ys2 LW5.its2 LW5.e3 LW5.D₄ LW5.h₄ LW5.tk₄ := by
  intro gG yY hoF hg hT8 tT tE hlay hLa hl2 hLb ra w1 r0 hI hr hca hcb hD xX tT2 kK lifted C83 C92 l0 hI5 hC5 hL8 l81 hlw off1 l82 l1_q n1 n2 n3 hcv hcm hcl hcl2 hrv nS8 lH lO hK hKne kKR k88 kDC k831 rH rO rc lS dco xKR x88 xDC x831 xS xH xO xc hok ncS ncH ncO dc2 hvl FX NX ax1 F11 ax2 hfd ho Hd hfl hfm hol1 hrl hv2 N12 Hd2 hok2 hys2 F13 N13 off4 hdn hyl2 hdl hct hots hov hovl hol3
  k_dflt (refine LCg.ListComp_U (F₀ := by k_asm) (by with_unfolding_all rfl) (by decide) (by rfl) (by decide) (by rfl) ?_)
  repeat (first | (fail_if_success (with_reducible show wpAny _ _ (binaryOp Operator.Add _ _) _ _ _)); walk_at "my_step")
  rename News _ _ _ _ => N14
  rename Fr _ _ _ _ => F14
  refine cat_l F14 N14 (.tail _ (.tail _ (.tail _ (.head _)))) (.head _) (by omega) ?_
  intro D₅ h₅ F15 N15 l15
  clear N14 F14
  repeat (first | (fail_if_success (with_reducible show LCg.CompSrc _ _ _ _ _ _ _ _ _ _ _ _ _ _)); walk_at "my_step")
  k_dflt (refine LCg.CompSrc.ledger (by rfl) F15 N15 (.head _) (by rw [PySem.sizeLine_eq, List.size_toArray]; omega) ?_)
  intro g5
  refine comp_inv (QJ _ (ots ++ drain r.length r)) ⟨trivial⟩ ?turn ?fin
  case turn =>
    rintro i v ys news I oI C₁ oC₁ D m₂ h₂ tk₂ E' hin ⟨hys⟩ hv hC hx F2 N2 off3 ne3
    obtain ⟨c, tk, hci, rfl⟩ := istxts_get hov (by simpa using hv)
    have hcc : c ∈ texts ++ cmds := List.mem_append_left _ (hots c (List.mem_of_getElem? hci))
    repeat (first | (fail_if_success (with_reducible show wpAny _ _ (call (Value.ref 810) _) _ _ _)); walk_at "my_step")
    k_dflt (refine' (quote_ctr _ _ c hcc (cmd_1000 hcc) _).useT ?hh ?hd ?hu ?hf ?hg ?B ?F ?X ?N ?T ?K ?_; walk_at "my_use")
    intro t' h' tk' F3 N3
    refine LCg.CompEnd.intro F3 N3 _ (fun p hp => hp) off3 (.inr ⟨_, .head _, rfl, _, rfl⟩) ⟨?_⟩
    rw [List.take_add_one, hci, List.map_append]
    exact istxts_snoc hys
  case fin =>
    rintro ys5 news ⟨hys5⟩
    rw [List.size_toArray, hovl, List.take_length] at hys5
    intro D₆ h₆ tk₆ F16 N16 off6
    repeat (first | (fail_if_success (with_reducible show wpAny _ _ (call (Value.builtin "str.join") _) _ _ _)); walk_at "my_step")
    have hq20 : ∀ t ∈ (ots ++ drain r.length r).map qt, t.length ≤ 20 := fun t ht => by
      obtain ⟨c, hc, rfl⟩ := List.mem_map.mp ht
      exact qt_len c (List.mem_append_left _ (hots c hc))
    k_dflt (refine' join_goS [32] (by decide +kernel) N16 (.head _) hys5 (fun t ht => Nat.le_trans (hq20 t ht) (by decide)) (by rw [List.length_map]; omega) (by decide) ?_)
    intro t7 k7
    repeat (first | (fail_if_success (with_reducible show wpAny _ _ (call (Value.ref 802) _) _ _ _)); walk_at "my_step")
    have hjl := joinL_len [32] 20 _ hq20
    rw [List.length_map] at hjl
    have hok9 : ∀ t ∈ ots ++ drain r.length r, okw t = true := fun t ht => okt t (List.mem_append_left _ (hots t ht))
    have hsl := Nat.le_trans hjl (Nat.mul_le_mul_right _ hol3)
    k_dflt (refine' split_use _ _ _ (Nat.le_trans hsl (by decide)) (ots ++ drain r.length r) (lexes_join [32] (.inl rfl) _ hok9) (Nat.le_trans hol3 (by decide)) _ ?hh ?hd ?hu ?hf ?hg ?B ?F ?X ?N ?T ?K ?_; walk_at "my_use")
    intro S₂ svs c2 h7 tk7 hsv F17 N17
    clear hjl hsl hok9 hq20 hys5 off6 N16 F16
    repeat (first | (fail_if_success (with_reducible show wpAny _ _ (call (Value.ref 841) _) _ _ _)); walk_at "my_step")
    rename News _ _ _ _ => N18
    k_dflt (refine' (due_ctr _ [(S₂, lstO svs c2), (88, tabObj tab)] _ DC 0 cvs cms hcv (cmd_shape hcm) (Nat.le_trans hcl (by decide)) [(831, tabObj #[])] (.inl rfl) ?tl rfl).use ?hh ?hd ?hu ?hf ?hg ?B ?F ?X (perm_due N18 xDC x831 x88) ?T ?K C83 ?_)
    case tl => exact List.forall_mem_cons.mpr ⟨List.forall_mem_cons.mpr ⟨Nat.ne_of_lt n2, List.forall_mem_cons.mpr ⟨ne_obj N18 (.tail _ (.tail _ (.tail _ (.tail _ (.tail _ (.tail _ (.tail _ (.tail _ x831)))))))) (.head _) nofun, List.forall_mem_cons.mpr ⟨fun e => absurd (show (831 : Nat) = 88 from e) (by decide), fun p hp => absurd hp List.not_mem_nil⟩⟩⟩, fun p hp => absurd hp List.not_mem_nil⟩
    case hh => exact rfl
    case hd => exact Nat.le_of_ble_eq_true rfl
    case hu => exact Nat.le_of_ble_eq_true rfl
    case hf => exact rfl
    case hg => exact rfl
    case B => k_asm
    case F => k_asm
    case X => k_asm
    case T => k_asm
    case K => exact rfl
    rintro v' news' h9 tk9 ⟨D₉, dv, e9, TB, hdv, hTB⟩ F19 N19
    rw [hfd] at hdv
    clear N18 F17 N15 F15
    repeat (first | (fail_if_success (with_reducible show wpAny _ _ (compareOp _ _ _) _ _ _)); walk_at "my_step")
    k_dflt (refine' eq_tx N19 (.tail _ (List.mem_append_right _ (.tail _ (.head _)))) (.head _) hsv hdv (fun t ht => txt_strOk t (hots t ht)) ?hu ?_; (case hu => exact Nat.le_of_ble_eq_true rfl))
    have g831 : GrownAt 831 h9 := by
      rcases hTB with rfl | ⟨c', oc, ocs, qt, rfl, _, _⟩
      · exact GrownAt.of N19 (.tail _ (.head _))
      · exact GrownAt.of N19 (.tail _ (.head _))
    refine ⟨?_, g831, GrownAt.of (ps := tab) N19 (.tail _ (List.mem_append_right _ (.tail _ (.tail _ (.head _))))), trivial⟩
    refine goodW_bool F19 (by assumption) (fun _ => rfl) ?_
    first | wrow_post | kc_post

end
theorem LW4_b : LW4_s.1 LW4.S LW4.hS LW4.h6 LW4.tk6 LW4.its LW4.ov LW4.e LW4.e2 LW4.RX := by
  exact LW5_s.2 (fun co2 x3 tk x4 tkx t1x u1x v1x r ots g4 ys2 its2 e3 D₄ h₄ tk₄ => ep_all _ (P := fun x => LW5_s.1 x.1.1 x.1.2.1 x.1.2.2.1 x.1.2.2.2.1 x.1.2.2.2.2.1 x.1.2.2.2.2.2.1 x.1.2.2.2.2.2.2.1 x.1.2.2.2.2.2.2.2 x.2.1.1 x.2.1.2.1 x.2.1.2.2.1 x.2.1.2.2.2.1 x.2.1.2.2.2.2.1 x.2.1.2.2.2.2.2.1 x.2.1.2.2.2.2.2.2.1 x.2.1.2.2.2.2.2.2.2 x.2.2) (by with_unfolding_all exact LW5_b) ((co2, x3, tk, x4, tkx, t1x, u1x, v1x), (r, ots, g4, ys2, its2, e3, D₄, h₄), tk₄)) 
end
theorem LW3_b : LW3_s.1 LW3.D₂ LW3.S₁ LW3.rvs LW3.c1 LW3.tk LW3.H LW3.O LW3.hO LW3.KR LW3.tab LW3.c3 LW3.h5 LW3.tk5 LW3.RK := by
  exact LW4_s.2 (fun S hS h6 tk6 its ov e e2 RX => ep_all _ (P := fun x => LW4_s.1 x.1.1 x.1.2.1 x.1.2.2.1 x.1.2.2.2.1 x.1.2.2.2.2.1 x.1.2.2.2.2.2.1 x.1.2.2.2.2.2.2.1 x.1.2.2.2.2.2.2.2 x.2) (by with_unfolding_all exact LW4_b) ((S, hS, h6, tk6, its, ov, e, e2), RX)) 
end
theorem LW1_b : LW1_s.1 LW1.wW LW1.s0 LW1.s1 LW1.mg LW1.mb LW1.fa LW1.oo LW1.pm LW1.cd LW1.doc LW1.wA LW1.wB LW1.wC LW1.wD LW1.wE LW1.wF LW1.wG LW1.D8 LW1.ws8 LW1.D₁ LW1.l8 LW1.D'_q LW1.h83 LW1.tk LW1.DC LW1.cvs LW1.cms := by
  exact LW3_s.2 (fun D₂ S₁ rvs c1 tk H O hO KR tab c3 h5 tk5 RK => ep_all _ (P := fun x => LW3_s.1 x.1.1 x.1.2.1 x.1.2.2.1 x.1.2.2.2.1 x.1.2.2.2.2.1 x.1.2.2.2.2.2.1 x.1.2.2.2.2.2.2.1 x.1.2.2.2.2.2.2.2 x.2.1 x.2.2.1 x.2.2.2.1 x.2.2.2.2.1 x.2.2.2.2.2.1 x.2.2.2.2.2.2) (by with_unfolding_all exact LW3_b) ((D₂, S₁, rvs, c1, tk, H, O, hO), (KR, tab, c3, h5, tk5, RK))) 
end
theorem law_holds : PySem.Challenge.rw_ij0186_01.Holds := by
  exact LW1_s.2 (fun wW s0 s1 mg mb fa oo pm cd doc wA wB wC wD wE wF wG D8 ws8 D₁ l8 D'_q h83 tk DC cvs cms => ep_all _ (P := fun x => LW1_s.1 x.1.1 x.1.2.1 x.1.2.2.1 x.1.2.2.2.1 x.1.2.2.2.2.1 x.1.2.2.2.2.2.1 x.1.2.2.2.2.2.2.1 x.1.2.2.2.2.2.2.2 x.2.1.1 x.2.1.2.1 x.2.1.2.2.1 x.2.1.2.2.2.1 x.2.1.2.2.2.2.1 x.2.1.2.2.2.2.2.1 x.2.1.2.2.2.2.2.2.1 x.2.1.2.2.2.2.2.2.2 x.2.2.1.1 x.2.2.1.2.1 x.2.2.1.2.2.1 x.2.2.1.2.2.2.1 x.2.2.1.2.2.2.2.1 x.2.2.1.2.2.2.2.2.1 x.2.2.1.2.2.2.2.2.2.1 x.2.2.1.2.2.2.2.2.2.2 x.2.2.2.1 x.2.2.2.2.1 x.2.2.2.2.2) (by with_unfolding_all exact LW1_b) ((wW, s0, s1, mg, mb, fa, oo, pm), (cd, doc, wA, wB, wC, wD, wE, wF), (wG, D8, ws8, D₁, l8, D'_q, h83, tk), (DC, cvs, cms))) 

end
end
end Mine
theorem PySem.Challenge.cw_ij0186_01_holds : PySem.Challenge.rw_ij0186_01.Holds := by
  exact Mine.law_holds
