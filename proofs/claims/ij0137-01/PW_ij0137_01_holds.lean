import PyProof.Rows.All
import Wide.All
import OpenK.AllK
import Wide.FinOn
import PySem.Challenge.RW_ij0137_01
open PySem PySem.W PyProof.Rows PySem.Calls
set_option Elab.async false
set_option maxRecDepth 100000
set_option linter.unusedVariables false
set_option maxHeartbeats 8000000
namespace Mine.H
theorem b3 : OpenLaw.wellSaid PySem.Challenge.rw_ij0137_01 = true := by
  unfold OpenLaw.wellSaid OpenRow.wellSaid OpenRow.partSaid looksOpen
  repeat' with_reducible refine look_both ?_ ?_
  all_goals decide +kernel
noncomputable abbrev pg : Program := PySem.Challenge.rw_ij0137_01.row.prog
noncomputable abbrev row : OpenRow := PySem.Challenge.rw_ij0137_01.row
noncomputable def s (i : Nat) : Stmt := (pg.main.body[i]?).getD (.Pass ⟨0, 0, 0, 0⟩)
noncomputable def c (i j : Nat) : Stmt := match s i with
  | .ClassDef _ _ _ b _ _ _ _ _ _ _ => (b[j]?).getD (.Pass ⟨0, 0, 0, 0⟩)
  | x => x
abbrev S (x : String) : Str := Str.ofString x
abbrev r (a : Nat) : Value := .ref a
abbrev vi (i : Int) (t : Nat) : Value := .int i t
abbrev vs (x : String) (t : Nat) : Value := .str (Str.ofString x) t
abbrev vt (x : List Nat) (t : Nat) : Value := .str (Str.mk x.toArray) t
noncomputable def E (P : Params) (x : String) (t : Nat) (v : Value) : DictEntry := ⟨PyData.keyHash P (Str.ofString x), .str (Str.ofString x) t, v⟩
noncomputable def E' (P : Params) (x : List Nat) (t : Nat) (v : Value) : DictEntry := ⟨PyData.keyHash P (Str.mk x.toArray), .str (Str.mk x.toArray) t, v⟩
noncomputable def D (es : List DictEntry) (n : Nat) : Obj := ⟨.type "dict", none, .dict es.toArray n, #[]⟩
noncomputable def T (xs : List Value) : Obj := ⟨.type "tuple", none, .seq xs.toArray 0, #[]⟩
noncomputable def C (xs : List Value) : Obj := ⟨.type "code", none, .fields xs.toArray, #[]⟩
noncomputable def Z (xs : List Value) : Obj := ⟨.none, none, .fields xs.toArray, #[]⟩
noncomputable def F (st : Stmt) (q : String) (g : Nat) (cl : List (Str × Addr)) (dv kv doc pm : Value) (an : Option Addr) (cd ct : Value) : FuncData := match st with
  | .FunctionDef n a b _ _ _ sc _ _ _ => { name := n, qualname := Str.ofString q, params := a, body := .stmts b, scope := sc, globals := g, closure := cl, defaults := dv, kwdefaults := kv, doc := doc, pyModule := pm, annotations := an, code := cd, closureTuple := ct }
  | _ => default
noncomputable def G (f : FuncData) : Obj := ⟨.none, none, .func f, #[]⟩
noncomputable def H (f : FuncData) : Obj := ⟨.type "function", none, .func f, #[]⟩
abbrev n (x : Obj) (a b : BT) : BT := .node x a b
abbrev l (x : Obj) : BT := .node x .nil .nil
abbrev z : BT := .nil
noncomputable def o0 (P : Params) : Obj := D [E P "__name__" 1 (vs "builtins" 160), E P "__doc__" 2 (.builtin "builtins.__doc__:str#opaque"), E P "__package__" 3 (.builtin "builtins.__package__:str#opaque"), E P "__loader__" 4 (.builtin "builtins.__loader__:shared#opaque"), E P "__spec__" 5 (.builtin "builtins.__spec__#opaque"), E P "__build_class__" 6 (.builtin "__build_class__"), E P "__import__" 7 (.builtin "__import__"), E P "abs" 8 (.builtin "abs"), E P "all" 9 (.builtin "all"), E P "any" 10 (.builtin "any"), E P "ascii" 11 (.builtin "ascii"), E P "bin" 12 (.builtin "bin"), E P "breakpoint" 13 (.builtin "breakpoint"), E P "callable" 14 (.builtin "callable"), E P "chr" 15 (.builtin "chr"), E P "compile" 16 (.builtin "compile"), E P "delattr" 17 (.builtin "delattr"), E P "dir" 18 (.builtin "dir"), E P "divmod" 19 (.builtin "divmod"), E P "eval" 20 (.builtin "eval"), E P "exec" 21 (.builtin "exec"), E P "format" 22 (.builtin "format"), E P "getattr" 23 (.builtin "getattr"), E P "globals" 24 (.builtin "globals"), E P "hasattr" 25 (.builtin "hasattr"), E P "hash" 26 (.builtin "hash"), E P "hex" 27 (.builtin "hex"), E P "id" 28 (.builtin "id"), E P "input" 29 (.builtin "input"), E P "isinstance" 30 (.builtin "isinstance"), E P "issubclass" 31 (.builtin "issubclass"), E P "iter" 32 (.builtin "iter"), E P "aiter" 33 (.builtin "aiter"), E P "len" 34 (.builtin "len"), E P "locals" 35 (.builtin "locals"), E P "max" 36 (.builtin "max"), E P "min" 37 (.builtin "min"), E P "next" 38 (.builtin "next"), E P "anext" 39 (.builtin "anext"), E P "oct" 40 (.builtin "oct"), E P "ord" 41 (.builtin "ord"), E P "pow" 42 (.builtin "pow"), E P "print" 43 (.builtin "print"), E P "repr" 44 (.builtin "repr"), E P "round" 45 (.builtin "round"), E P "setattr" 46 (.builtin "setattr"), E P "sorted" 47 (.builtin "sorted"), E P "sum" 48 (.builtin "sum"), E P "vars" 49 (.builtin "vars"), E P "None" 50 .none, E P "Ellipsis" 51 .ellipsis, E P "NotImplemented" 52 .notImplemented, E P "False" 53 (.bool false), E P "True" 54 (.bool true), E P "bool" 55 (.type "bool"), E P "memoryview" 56 (.type "memoryview"), E P "bytearray" 57 (.type "bytearray"), E P "bytes" 58 (.type "bytes"), E P "classmethod" 59 (.type "classmethod"), E P "complex" 60 (.type "complex"), E P "dict" 61 (.type "dict"), E P "enumerate" 62 (.type "enumerate"), E P "filter" 63 (.type "filter"), E P "float" 64 (.type "float"), E P "frozenset" 65 (.type "frozenset"), E P "property" 66 (.type "property"), E P "int" 67 (.type "int"), E P "list" 68 (.type "list"), E P "map" 69 (.type "map"), E P "object" 70 (.type "object"), E P "range" 71 (.type "range"), E P "reversed" 72 (.type "reversed"), E P "set" 73 (.type "set"), E P "slice" 74 (.type "slice"), E P "staticmethod" 75 (.type "staticmethod"), E P "str" 76 (.type "str"), E P "super" 77 (.type "super"), E P "tuple" 78 (.type "tuple"), E P "type" 79 (.type "type"), E P "zip" 80 (.type "zip"), E P "__debug__" 81 (.bool true), E P "BaseException" 82 (.type "BaseException"), E P "BaseExceptionGroup" 83 (.type "BaseExceptionGroup"), E P "Exception" 84 (.type "Exception"), E P "GeneratorExit" 85 (.type "GeneratorExit"), E P "KeyboardInterrupt" 86 (.type "KeyboardInterrupt"), E P "SystemExit" 87 (.type "SystemExit"), E P "ArithmeticError" 88 (.type "ArithmeticError"), E P "AssertionError" 89 (.type "AssertionError"), E P "AttributeError" 90 (.type "AttributeError"), E P "BufferError" 91 (.type "BufferError"), E P "EOFError" 92 (.type "EOFError"), E P "ImportError" 93 (.type "ImportError"), E P "LookupError" 94 (.type "LookupError"), E P "MemoryError" 95 (.type "MemoryError"), E P "NameError" 96 (.type "NameError"), E P "OSError" 97 (.type "OSError"), E P "ReferenceError" 98 (.type "ReferenceError"), E P "RuntimeError" 99 (.type "RuntimeError"), E P "StopAsyncIteration" 100 (.type "StopAsyncIteration"), E P "StopIteration" 101 (.type "StopIteration"), E P "SyntaxError" 102 (.type "SyntaxError"), E P "SystemError" 103 (.type "SystemError"), E P "TypeError" 104 (.type "TypeError"), E P "ValueError" 105 (.type "ValueError"), E P "Warning" 106 (.type "Warning"), E P "FloatingPointError" 107 (.type "FloatingPointError"), E P "OverflowError" 108 (.type "OverflowError"), E P "ZeroDivisionError" 109 (.type "ZeroDivisionError"), E P "BytesWarning" 110 (.type "BytesWarning"), E P "DeprecationWarning" 111 (.type "DeprecationWarning"), E P "EncodingWarning" 112 (.type "EncodingWarning"), E P "FutureWarning" 113 (.type "FutureWarning"), E P "ImportWarning" 114 (.type "ImportWarning"), E P "PendingDeprecationWarning" 115 (.type "PendingDeprecationWarning"), E P "ResourceWarning" 116 (.type "ResourceWarning"), E P "RuntimeWarning" 117 (.type "RuntimeWarning"), E P "SyntaxWarning" 118 (.type "SyntaxWarning"), E P "UnicodeWarning" 119 (.type "UnicodeWarning"), E P "UserWarning" 120 (.type "UserWarning"), E P "BlockingIOError" 121 (.type "BlockingIOError"), E P "ChildProcessError" 122 (.type "ChildProcessError"), E P "ConnectionError" 123 (.type "ConnectionError"), E P "FileExistsError" 124 (.type "FileExistsError"), E P "FileNotFoundError" 125 (.type "FileNotFoundError"), E P "InterruptedError" 126 (.type "InterruptedError"), E P "IsADirectoryError" 127 (.type "IsADirectoryError"), E P "NotADirectoryError" 128 (.type "NotADirectoryError"), E P "PermissionError" 129 (.type "PermissionError"), E P "ProcessLookupError" 130 (.type "ProcessLookupError"), E P "TimeoutError" 131 (.type "TimeoutError"), E P "IndentationError" 132 (.type "IndentationError"), E P "_IncompleteInputError" 133 (.type "_IncompleteInputError"), E P "IndexError" 134 (.type "IndexError"), E P "KeyError" 135 (.type "KeyError"), E P "ModuleNotFoundError" 136 (.type "ModuleNotFoundError"), E P "NotImplementedError" 137 (.type "NotImplementedError"), E P "PythonFinalizationError" 138 (.type "PythonFinalizationError"), E P "RecursionError" 139 (.type "RecursionError"), E P "UnboundLocalError" 140 (.type "UnboundLocalError"), E P "UnicodeError" 141 (.type "UnicodeError"), E P "BrokenPipeError" 142 (.type "BrokenPipeError"), E P "ConnectionAbortedError" 143 (.type "ConnectionAbortedError"), E P "ConnectionRefusedError" 144 (.type "ConnectionRefusedError"), E P "ConnectionResetError" 145 (.type "ConnectionResetError"), E P "TabError" 146 (.type "TabError"), E P "UnicodeDecodeError" 147 (.type "UnicodeDecodeError"), E P "UnicodeEncodeError" 148 (.type "UnicodeEncodeError"), E P "UnicodeTranslateError" 149 (.type "UnicodeTranslateError"), E P "ExceptionGroup" 150 (.type "ExceptionGroup"), E P "EnvironmentError" 151 (.type "OSError"), E P "IOError" 152 (.type "OSError"), E P "open" 153 (.builtin "open"), E P "quit" 154 (.builtin "builtins.quit#opaque"), E P "exit" 155 (.builtin "builtins.exit#opaque"), E P "copyright" 156 (.builtin "builtins.copyright#opaque"), E P "credits" 157 (.builtin "builtins.credits#opaque"), E P "license" 158 (.builtin "builtins.license#opaque"), E P "help" 159 (.builtin "builtins.help#opaque")] 159
noncomputable def o1 (P : Params) : Obj := D [E P "builtins" 162 (r 4), E P "__main__" 163 (r 5), E P "_sre" 244 (r 12), E P "_collections" 292 (r 30)] 4
noncomputable def o2 (P : Params) : Obj := ⟨.none, none, .dict #[E P "\x69mport.loaded._sre" 183 (.bool true), E P "class._frozen_importlib.BuiltinImporter" 185 (r 14), E P "watched.\x69mport" 206 (r 18), E P "class._frozen_importlib.ModuleSpec" 216 (r 22), E P "sys.modules.booked-epoch" 245 (vi 4 0), E P "\x69mport.later-laid._sre" 270 (.bool true), E P "watched.library" 272 (r 27), E P "watched.library-objects" 0 (vs "\x0c\x1e" 0), E P "watched.library-deep._sre" 273 (vs "\x04\x00\x00\x0b\x04\x00\x00\x0b\x04\x00\x00\x03\x04\x00\x00\x0b\x08\x04dict\x02" 0), E P "\x69mport.loaded._collections" 280 (.bool true), E P "sys.modules.landed._collections" 294 (.bool true), E P "\x69mport.later-laid._collections" 309 (.bool true), E P "watched.library-deep._collections" 311 (vs "\x04\x00\x00\x1d\x04\x00\x00\x1d\x04\x00\x00\x03\x04\x00\x00\x1d\x08\x04dict\x02" 0)] 13, #[]⟩
noncomputable def o3 (P : Params) : Obj := D [E P "__name__" 165 (vs "__main__" 164), E P "__doc__" 166 .none, E P "__package__" 167 .none, E P "__loader__" 168 (.builtin "__main__.__loader__#opaque"), E P "__spec__" 169 .none, E P "__annotations__" 170 (r 6), E P "__builtins__" 171 (r 4), E P "__file__" 173 (vs "/claim/cut.py" 172), E P "__cached__" 174 .none, E P "_sre" 275 (r 12), E P "deque" 317 (.type "collections.deque")] 11
noncomputable def o4 : Obj := ⟨.type "module", (some 0), .plain, #[]⟩
noncomputable def o5 : Obj := ⟨.type "module", (some 3), .plain, #[]⟩
noncomputable def o6 : Obj := D [] 0
noncomputable def o7 : Obj := T []
noncomputable def o8 : Obj := Z []
noncomputable def o9 : Obj := C [vs "<module>" 176, vs "<module>" 177, vs "/claim/cut.py" 178, vi 1 0, vi 0 0, vi 0 0, vi 0 0, vi 0 0, r 7, .bool false, vi 175 0, r 8, .none, .none, .none, .none, vi 179 0, vi 1 0, vs "/claim/cut.py" 180]
noncomputable def o10 : Obj := ⟨.type "frame", none, .plain, #[some (r 9), some (r 3), some (r 3), none, some (vs "__main__" 164), none, some (r 0)]⟩
noncomputable def o11 (P : Params) : Obj := D [E P "__name__" 247 (vs "_sre" 246), E P "__doc__" 248 .none, E P "__package__" 250 (vs "" 249), E P "__loader__" 251 (.builtin "off-the-table:_sre.__loader__:shared#opaque"), E P "__spec__" 252 (.builtin "off-the-table:_sre.__spec__:shared#opaque"), E P "compile" 253 (.builtin "_sre.compile"), E P "template" 254 (.builtin "off-the-table:_sre.template:shared#opaque"), E P "getcodesize" 255 (.builtin "off-the-table:_sre.getcodesize:shared#opaque"), E P "ascii_iscased" 256 (.builtin "off-the-table:_sre.ascii_iscased:shared#opaque"), E P "unicode_iscased" 257 (.builtin "off-the-table:_sre.unicode_iscased:shared#opaque"), E P "ascii_tolower" 258 (.builtin "off-the-table:_sre.ascii_tolower:shared#opaque"), E P "unicode_tolower" 259 (.builtin "off-the-table:_sre.unicode_tolower:shared#opaque"), E P "MAGIC" 261 (vi 20230612 260), E P "CODESIZE" 263 (vi 4 262), E P "MAXREPEAT" 265 (vi 4294967295 264), E P "MAXGROUPS" 267 (vi 1073741823 266), E P "copyright" 269 (vs " SRE 2.2.2 Copyright (c) 1997-2002 by Secret Labs AB " 268)] 17
noncomputable def o12 : Obj := ⟨.type "module", (some 11), .plain, #[]⟩
noncomputable def o13 (P : Params) : Obj := D [E P "__module__" 189 (vs "_frozen_importlib" 186), E P "__firstlineno__" 190 (vi 971 187), E P "__doc__" 191 (.builtin "_frozen_importlib.BuiltinImporter.__doc__:str#opaque"), E P "_ORIGIN" 192 (vs "built-in" 188), E P "find_spec" 193 (.builtin "_frozen_importlib.BuiltinImporter.find_spec#opaque"), E P "create_module" 194 (.builtin "_frozen_importlib.BuiltinImporter.create_module#opaque"), E P "exec_module" 195 (.builtin "_frozen_importlib.BuiltinImporter.exec_module#opaque"), E P "get_code" 196 (.builtin "_frozen_importlib.BuiltinImporter.get_code#opaque"), E P "get_source" 197 (.builtin "_frozen_importlib.BuiltinImporter.get_source#opaque"), E P "is_package" 198 (.builtin "_frozen_importlib.BuiltinImporter.is_package#opaque"), E P "load_module" 199 (.builtin "_frozen_importlib.BuiltinImporter.load_module#opaque"), E P "__static_attributes__" 200 (r 15), E P "__dict__" 202 (r 16), E P "__weakref__" 204 (r 17)] 14
noncomputable def o14 : Obj := ⟨.type "type", none, .cls ⟨(S "BuiltinImporter"), [.type "object"], [r 14, .type "object"], 13, (S "BuiltinImporter"), true, [], [], false, none, false⟩, #[]⟩
noncomputable def o15 : Obj := T []
noncomputable def o16 : Obj := ⟨.type "getset_descriptor", none, .fields #[vs "__dict__" 201, r 14, .builtin "function.__dict__", .builtin "function.__dict__#set"], #[]⟩
noncomputable def o17 : Obj := ⟨.type "getset_descriptor", none, .fields #[vs "__weakref__" 203, r 14, .builtin "ExceptionGroup.__weakref__", .none], #[]⟩
noncomputable def o18 : Obj := ⟨.none, none, .seq #[vi 13 0, vs "\x06½\n__module__\x06º\x11_frozen_importlib\x06¾\x0f__firstlineno__\x04»\x00ϋ\x06¿\x07__doc__\t4_frozen_importlib.BuiltinImporter.__doc__:str#opaque\x06À\x07_ORIGIN\x06¼\x08built-in\x06Á\tfind_spec\t2_frozen_importlib.BuiltinImporter.find_spec#opaque\x06Â\x0dcreate_module\t6_frozen_importlib.BuiltinImporter.create_module#opaque\x06Ã\x0bexec_module\t4_frozen_importlib.BuiltinImporter.exec_module#opaque\x06Ä\x08get_code\t1_frozen_importlib.BuiltinImporter.get_code#opaque\x06Å\nget_source\t3_frozen_importlib.BuiltinImporter.get_source#opaque\x06Æ\nis_package\t3_frozen_importlib.BuiltinImporter.is_package#opaque\x06Ç\x0bload_module\t4_frozen_importlib.BuiltinImporter.load_module#opaque\x06È\x15__static_attributes__\x04\x00\x00\x0f\x06Ê\x08__dict__\x04\x00\x00\x10\x06Ì\x0b__weakref__\x04\x00\x00\x11" 0, .bool true, .bool true, vs "" 205, vi 21 0, vs "\x06ã\n__module__\x06Ù\x11_frozen_importlib\x06ä\x0f__firstlineno__\x04Ú\x00Ȳ\x06å\x07__doc__\t/_frozen_importlib.ModuleSpec.__doc__:str#opaque\x06æ\x08__init__\t,_frozen_importlib.ModuleSpec.__init__#opaque\x06ç\x08__repr__\t,_frozen_importlib.ModuleSpec.__repr__#opaque\x06è\x06__eq__\t*_frozen_importlib.ModuleSpec.__eq__#opaque\x06é\x06cached\t*_frozen_importlib.ModuleSpec.cached#opaque\x06ê\x06parent\t*_frozen_importlib.ModuleSpec.parent#opaque\x06ë\x0chas_location\t0_frozen_importlib.ModuleSpec.has_location#opaque\x06ì\x15__static_attributes__\x04\x00\x00\x17\x06î\x08__dict__\x04\x00\x00\x18\x06ð\x0b__weakref__\x04\x00\x00\x19\x06ñ\x08__hash__\x00" 0, .bool true, .bool true, vs "" 242] 1, #[]⟩
noncomputable def o19 : Obj := ⟨.type "list", none, .seq #[] 0, #[]⟩
noncomputable def o20 (P : Params) : Obj := D [E P "name" 208 (vs "_sre" 207), E P "loader" 209 (r 14), E P "origin" 210 (vs "built-in" 184), E P "loader_state" 211 .none, E P "submodule_search_locations" 212 .none, E P "_uninitialized_submodules" 213 (r 19), E P "_set_fileattr" 214 (.bool false), E P "_cached" 215 .none, E P "_initializing" 243 (.bool false)] 9
noncomputable def o21 (P : Params) : Obj := D [E P "__module__" 227 (vs "_frozen_importlib" 217), E P "__firstlineno__" 228 (vi 562 218), E P "__doc__" 229 (.builtin "_frozen_importlib.ModuleSpec.__doc__:str#opaque"), E P "__init__" 230 (.builtin "_frozen_importlib.ModuleSpec.__init__#opaque"), E P "__repr__" 231 (.builtin "_frozen_importlib.ModuleSpec.__repr__#opaque"), E P "__eq__" 232 (.builtin "_frozen_importlib.ModuleSpec.__eq__#opaque"), E P "cached" 233 (.builtin "_frozen_importlib.ModuleSpec.cached#opaque"), E P "parent" 234 (.builtin "_frozen_importlib.ModuleSpec.parent#opaque"), E P "has_location" 235 (.builtin "_frozen_importlib.ModuleSpec.has_location#opaque"), E P "__static_attributes__" 236 (r 23), E P "__dict__" 238 (r 24), E P "__weakref__" 240 (r 25), E P "__hash__" 241 .none] 13
noncomputable def o22 : Obj := ⟨.type "type", none, .cls ⟨(S "ModuleSpec"), [.type "object"], [r 22, .type "object"], 21, (S "ModuleSpec"), true, [], [], false, none, false⟩, #[]⟩
noncomputable def o23 : Obj := T [vs "_cached" 219, vs "_set_fileattr" 220, vs "_uninitialized_submodules" 221, vs "loader" 222, vs "loader_state" 223, vs "name" 224, vs "origin" 225, vs "submodule_search_locations" 226]
noncomputable def o24 : Obj := ⟨.type "getset_descriptor", none, .fields #[vs "__dict__" 237, r 22, .builtin "function.__dict__", .builtin "function.__dict__#set"], #[]⟩
noncomputable def o25 : Obj := ⟨.type "getset_descriptor", none, .fields #[vs "__weakref__" 239, r 22, .builtin "ExceptionGroup.__weakref__", .none], #[]⟩
noncomputable def o26 : Obj := ⟨r 22, (some 20), .plain, #[]⟩
noncomputable def o27 : Obj := ⟨.none, none, .seq #[vi 11 0, vt [6, 247, 8, 95, 95, 110, 97, 109, 101, 95, 95, 6, 246, 4, 95, 115, 114, 101, 6, 248, 7, 95, 95, 100, 111, 99, 95, 95, 0, 6, 250, 11, 95, 95, 112, 97, 99, 107, 97, 103, 101, 95, 95, 6, 249, 0, 6, 251, 10, 95, 95, 108, 111, 97, 100, 101, 114, 95, 95, 4, 0, 0, 14, 6, 252, 8, 95, 95, 115, 112, 101, 99, 95, 95, 4, 0, 0, 26, 6, 253, 7, 99, 111, 109, 112, 105, 108, 101, 9, 12, 95, 115, 114, 101, 46, 99, 111, 109, 112, 105, 108, 101, 6, 254, 8, 116, 101, 109, 112, 108, 97, 116, 101, 9, 13, 95, 115, 114, 101, 46, 116, 101, 109, 112, 108, 97, 116, 101, 6, 255, 11, 103, 101, 116, 99, 111, 100, 101, 115, 105, 122, 101, 9, 16, 95, 115, 114, 101, 46, 103, 101, 116, 99, 111, 100, 101, 115, 105, 122, 101, 6, 256, 13, 97, 115, 99, 105, 105, 95, 105, 115, 99, 97, 115, 101, 100, 9, 18, 95, 115, 114, 101, 46, 97, 115, 99, 105, 105, 95, 105, 115, 99, 97, 115, 101, 100, 6, 257, 15, 117, 110, 105, 99, 111, 100, 101, 95, 105, 115, 99, 97, 115, 101, 100, 9, 20, 95, 115, 114, 101, 46, 117, 110, 105, 99, 111, 100, 101, 95, 105, 115, 99, 97, 115, 101, 100, 6, 258, 13, 97, 115, 99, 105, 105, 95, 116, 111, 108, 111, 119, 101, 114, 9, 18, 95, 115, 114, 101, 46, 97, 115, 99, 105, 105, 95, 116, 111, 108, 111, 119, 101, 114, 6, 259, 15, 117, 110, 105, 99, 111, 100, 101, 95, 116, 111, 108, 111, 119, 101, 114, 9, 20, 95, 115, 114, 101, 46, 117, 110, 105, 99, 111, 100, 101, 95, 116, 111, 108, 111, 119, 101, 114, 6, 261, 5, 77, 65, 71, 73, 67, 4, 260, 0, 20230612, 6, 263, 8, 67, 79, 68, 69, 83, 73, 90, 69, 4, 262, 0, 4, 6, 265, 9, 77, 65, 88, 82, 69, 80, 69, 65, 84, 4, 264, 0, 4294967295, 6, 267, 9, 77, 65, 88, 71, 82, 79, 85, 80, 83, 4, 266, 0, 1073741823, 6, 269, 9, 99, 111, 112, 121, 114, 105, 103, 104, 116, 6, 268, 53, 32, 83, 82, 69, 32, 50, 46, 50, 46, 50, 32, 67, 111, 112, 121, 114, 105, 103, 104, 116, 32, 40, 99, 41, 32, 49, 57, 57, 55, 45, 50, 48, 48, 50, 32, 98, 121, 32, 83, 101, 99, 114, 101, 116, 32, 76, 97, 98, 115, 32, 65, 66, 32] 0, .bool true, .bool false, vs "_sre" 271, vi 29 0, vs "\x06Ĩ\x08__name__\x06ħ\x0c_collections\x06ĩ\x07__doc__\t\x1f_collections.__doc__:str#opaque\x06ī\x0b__package__\x06Ī\x00\x06Ĭ\n__loader__\x04\x00\x00\x0e\x06ĭ\x08__spec__\x04\x00\x00!\x06Į\x0f_count_elements\t\x1c_collections._count_elements\x06į\x05deque\x08\x11collections.deque\x06İ\x0bdefaultdict\x08\x17collections.defaultdict\x06ı\x0f_deque_iterator\x08\x1bcollections._deque_iterator\x06Ĳ\x17_deque_reverse_iterator\x08#collections._deque_reverse_iterator\x06ĳ\x0c_tuplegetter\x08\x18collections._tuplegetter\x06Ĵ\x0bOrderedDict\x08\x17collections.OrderedDict" 0, .bool true, .bool false, vs "_collections" 310] 1, #[]⟩
noncomputable def o28 : Obj := T [vs "deque" 277]
noncomputable def o29 (P : Params) : Obj := D [E P "__name__" 296 (vs "_collections" 295), E P "__doc__" 297 (.builtin "off-the-table:_collections.__doc__:shared#opaque"), E P "__package__" 299 (vs "" 298), E P "__loader__" 300 (.builtin "off-the-table:_collections.__loader__:shared#opaque"), E P "__spec__" 301 (.builtin "off-the-table:_collections.__spec__:shared#opaque"), E P "_count_elements" 302 (.builtin "_collections._count_elements"), E P "deque" 303 (.type "collections.deque"), E P "defaultdict" 304 (.type "collections.defaultdict"), E P "_deque_iterator" 305 (.builtin "off-the-table:_collections._deque_iterator:shared#opaque"), E P "_deque_reverse_iterator" 306 (.builtin "off-the-table:_collections._deque_reverse_iterator:shared#opaque"), E P "_tuplegetter" 307 (.type "collections._tuplegetter"), E P "OrderedDict" 308 (.type "collections.OrderedDict")] 12
noncomputable def o30 : Obj := ⟨.type "module", (some 29), .plain, #[]⟩
noncomputable def o31 : Obj := ⟨.type "list", none, .seq #[] 0, #[]⟩
noncomputable def o32 (P : Params) : Obj := D [E P "name" 283 (vs "_collections" 282), E P "loader" 284 (r 14), E P "origin" 285 (vs "built-in" 281), E P "loader_state" 286 .none, E P "submodule_search_locations" 287 .none, E P "_uninitialized_submodules" 288 (r 31), E P "_set_fileattr" 289 (.bool false), E P "_cached" 290 .none, E P "_initializing" 291 (.bool false)] 9
noncomputable def o33 : Obj := ⟨r 22, (some 32), .plain, #[]⟩
noncomputable def h0 (P : Params) : Heap := ⟨⟨(o0 P) :: (o1 P) :: (o2 P) :: (o3 P) :: o4 :: o5 :: o6 :: o7 :: o8 :: o9 :: o10 :: (o11 P) :: o12 :: (o13 P) :: o14 :: o15 :: o16 :: o17 :: o18 :: o19 :: (o20 P) :: (o21 P) :: o22 :: o23 :: o24 :: o25 :: o26 :: o27 :: o28 :: (o29 P) :: o30 :: o31 :: (o32 P) :: o33 :: []⟩, {}⟩
noncomputable def o34 : Obj := T []
noncomputable def o35 : Obj := Z []
noncomputable def o36 : Obj := C [vs "<module>" 319, vs "<module>" 320, vs "/claim/cut.py" 321, vi 1 0, vi 0 0, vi 0 0, vi 0 0, vi 0 0, r 34, .bool false, vi 318 0, r 35, .none, .none, .none, .none, vi 322 0, vi 1 0, vs "/claim/cut.py" 323]
noncomputable def o37 : Obj := ⟨.type "frame", none, .plain, #[some (r 36), some (r 3), some (r 3), none, some (vs "__main__" 164), none, some (r 0)]⟩
noncomputable def h1 (P : Params) : Heap := ⟨⟨(o0 P) :: (o1 P) :: (o2 P) :: (o3 P) :: o4 :: o5 :: o6 :: o7 :: o8 :: o9 :: o10 :: (o11 P) :: o12 :: (o13 P) :: o14 :: o15 :: o16 :: o17 :: o18 :: o19 :: (o20 P) :: (o21 P) :: o22 :: o23 :: o24 :: o25 :: o26 :: o27 :: o28 :: (o29 P) :: o30 :: o31 :: (o32 P) :: o33 :: o34 :: o35 :: o36 :: o37 :: []⟩, {}⟩
noncomputable def t0 (P : Params) : BT := n (o0 P) (n (o1 P) (n (o3 P) (n o7 (n o15 (l o31) z) (l o23)) (n (o11 P) (n o19 (l o35) z) (l o27))) (n o5 (n o9 (n o17 (l o33) z) (l o25)) (n (o13 P) (n (o21 P) (l o37) z) (l (o29 P))))) (n (o2 P) (n o4 (n o8 (n o16 (l (o32 P)) z) (l o24)) (n o12 (n (o20 P) (l o36) z) (l o28))) (n o6 (n o10 (n o18 (l o34) z) (l o26)) (n o14 (l o22) (l o30))))
noncomputable def o38 (P : Params) : Obj := ⟨.none, none, .dict #[E P "\x69mport.loaded._sre" 183 (.bool true), E P "class._frozen_importlib.BuiltinImporter" 185 (r 14), E P "watched.\x69mport" 206 (r 18), E P "class._frozen_importlib.ModuleSpec" 216 (r 22), E P "sys.modules.booked-epoch" 245 (vi 4 0), E P "\x69mport.later-laid._sre" 270 (.bool true), E P "watched.library" 272 (r 27), E P "watched.library-objects" 0 (vs "\x0c\x1e" 0), E P "watched.library-deep._sre" 273 (vs "\x04\x00\x00\x0b\x04\x00\x00\x0b\x04\x00\x00\x03\x04\x00\x00\x0b\x08\x04dict\x02" 0), E P "\x69mport.loaded._collections" 280 (.bool true), E P "sys.modules.landed._collections" 294 (.bool true), E P "\x69mport.later-laid._collections" 309 (.bool true), E P "watched.library-deep._collections" 311 (vs "\x04\x00\x00\x1d\x04\x00\x00\x1d\x04\x00\x00\x03\x04\x00\x00\x1d\x08\x04dict\x02" 0), E P "type.__subclasses__.OSError.0" 439 (vi 95 0), E P "type.__subclasses__.OSError.n" 440 (vi 1 0)] 15, #[]⟩
noncomputable def o39 (P : Params) : Obj := D [E P "__name__" 165 (vs "io" 403), E P "__doc__" 166 .none, E P "__package__" 167 .none, E P "__loader__" 168 (.builtin "__main__.__loader__#opaque"), E P "__spec__" 169 .none, E P "__annotations__" 170 (r 6), E P "__builtins__" 171 (r 4), E P "__file__" 173 (vs "/claim/cut.py" 172), E P "__cached__" 174 .none, E P "_sre" 275 (r 12), E P "deque" 317 (.type "collections.deque"), E P "_wall" 330 (r 44), E P "_deduplicate" 341 (r 52), E P "_deduplicate_unhashable" 350 (r 59), E P "_compare_args_orderless" 362 (r 66), E P "_twin_re_1" 402 (r 71), E P "_whence" 412 (r 78), E P "_index" 420 (r 85), E P "UnsupportedOperation" 442 (r 95), E P "IOBase" 474 (r 115)] 20
noncomputable def o40 : Obj := Z [vi 3 0, vi 0 0, r 43, vi 7 0, vi 0 0, r 51, vi 14 0, vi 0 0, r 58, vi 20 0, vi 0 0, r 65, vi 32 0, vi 0 0, r 77, vi 37 0, vi 0 0, r 84, vi 44 0, vi 0 0, r 91, vi 46 0, vi 0 0, r 104]
noncomputable def o41 : Obj := T []
noncomputable def o42 : Obj := Z []
noncomputable def o43 : Obj := T [vs "k" 327]
noncomputable def o44 : Obj := T []
noncomputable def o45 : Obj := G (F (s 2) "_wall" 0 [] .none .none .none .none none .none .none)
noncomputable def o46 : Obj := C [vs "_wall" 324, vs "_wall" 325, vs "/claim/cut.py" 326, vi 3 0, vi 1 0, vi 0 0, vi 0 0, vi 3 0, r 38, .bool true, vi 318 0, r 39, .none, r 40, r 41, r 42, vi 328 0, vi 3 0, vs "/claim/cut.py" 329]
noncomputable def o47 : Obj := H (F (s 2) "_wall" 3 [] .none .none .none (vs "__main__" 164) none (r 43) .none)
noncomputable def o48 (P : Params) : Obj := D [E P "unhashable_fallback" 333 (.bool false)] 1
noncomputable def o49 : Obj := T []
noncomputable def o50 : Obj := Z []
noncomputable def o51 : Obj := T [vs "params" 337, vs "unhashable_fallback" 338]
noncomputable def o52 : Obj := T []
noncomputable def o53 : Obj := G (F (s 4) "_deduplicate" 0 [] .none .none .none .none none .none .none)
noncomputable def o54 : Obj := C [vs "_deduplicate" 334, vs "_deduplicate" 335, vs "/claim/cut.py" 336, vi 7 0, vi 1 0, vi 0 0, vi 1 0, vi 3 0, r 46, .bool true, vi 318 0, r 47, .none, r 48, r 49, r 50, vi 339 0, vi 7 0, vs "/claim/cut.py" 340]
noncomputable def o55 : Obj := H (F (s 4) "_deduplicate" 3 [] .none (r 45) .none (vs "cpy313.typing" 331) none (r 51) .none)
noncomputable def o56 : Obj := T []
noncomputable def o57 : Obj := Z []
noncomputable def o58 : Obj := T [vs "unhashable_params" 345, vs "new_unhashable" 346, vs "t" 347]
noncomputable def o59 : Obj := T []
noncomputable def o60 : Obj := G (F (s 5) "_deduplicate_unhashable" 0 [] .none .none .none .none none .none .none)
noncomputable def o61 : Obj := C [vs "_deduplicate_unhashable" 342, vs "_deduplicate_unhashable" 343, vs "/claim/cut.py" 344, vi 14 0, vi 1 0, vi 0 0, vi 0 0, vi 3 0, r 53, .bool true, vi 318 0, r 54, .none, r 55, r 56, r 57, vi 348 0, vi 14 0, vs "/claim/cut.py" 349]
noncomputable def o62 : Obj := H (F (s 5) "_deduplicate_unhashable" 3 [] .none .none .none (vs "cpy313.typing" 331) none (r 58) .none)
noncomputable def o63 : Obj := T []
noncomputable def o64 : Obj := Z []
noncomputable def o65 : Obj := T [vs "first_args" 354, vs "second_args" 355, vs "first_unhashable" 356, vs "second_unhashable" 357, vs "t" 358, vs "elem" 359]
noncomputable def o66 : Obj := T []
noncomputable def o67 : Obj := G (F (s 6) "_compare_args_orderless" 0 [] .none .none .none .none none .none .none)
noncomputable def o68 : Obj := C [vs "_compare_args_orderless" 351, vs "_compare_args_orderless" 352, vs "/claim/cut.py" 353, vi 20 0, vi 2 0, vi 0 0, vi 0 0, vi 3 0, r 60, .bool true, vi 318 0, r 61, .none, r 62, r 63, r 64, vi 360 0, vi 20 0, vs "/claim/cut.py" 361]
noncomputable def o69 : Obj := H (F (s 6) "_compare_args_orderless" 3 [] .none .none .none (vs "cpy313.typing" 331) none (r 65) .none)
noncomputable def o70 : Obj := ⟨.type "list", none, .seq #[vi 14 366, vi 17 367, vi 4 368, vi 1 369, vi 1 370, vi 21 371, vi 9 372, vi 0 373, vi 604043296 374, vi 1 375, vi 0 376, vi 0 377, vi 0 378, vi 0 379, vi 0 380, vi 8 381, vi 4 382, vi 0 383, vi 13 384, vi 14 385, vi 21 386, vi 9 387, vi 0 388, vi 604043296 389, vi 1 390, vi 0 391, vi 0 392, vi 0 393, vi 0 394, vi 0 395, vi 8 396, vi 4 397, vi 0 398, vi 1 399] 0, #[]⟩
noncomputable def o71 : Obj := D [] 0
noncomputable def o72 : Obj := T [.none]
noncomputable def o73 : Obj := T [vi 14 0, vi 17 0, vi 4 0, vi 1 0, vi 1 0, vi 21 0, vi 9 0, vi 0 0, vi 604043296 0, vi 1 0, vi 0 0, vi 0 0, vi 0 0, vi 0 0, vi 0 0, vi 8 0, vi 4 0, vi 0 0, vi 13 0, vi 14 0, vi 21 0, vi 9 0, vi 0 0, vi 604043296 0, vi 1 0, vi 0 0, vi 0 0, vi 0 0, vi 0 0, vi 0 0, vi 8 0, vi 4 0, vi 0 0, vi 1 0]
noncomputable def o74 : Obj := ⟨.type "re.Pattern", none, .fields #[vs "[^\\w@%+=:,./-]" 364, vi 256 401, vi 0 0, .none, .none, r 70, vi 0 0], #[]⟩
noncomputable def o75 : Obj := T []
noncomputable def o76 : Obj := Z []
noncomputable def o77 : Obj := T [vs "n" 408, vs "what" 409]
noncomputable def o78 : Obj := T []
noncomputable def o79 : Obj := G (F (s 9) "_whence" 0 [] .none .none .none .none none .none .none)
noncomputable def o80 : Obj := C [vs "_whence" 405, vs "_whence" 406, vs "/claim/cut.py" 407, vi 32 0, vi 2 0, vi 0 0, vi 0 0, vi 3 0, r 72, .bool true, vi 318 0, r 73, .none, r 74, r 75, r 76, vi 410 0, vi 32 0, vs "/claim/cut.py" 411]
noncomputable def o81 : Obj := H (F (s 9) "_whence" 3 [] .none .none .none (vs "io" 403) none (r 77) .none)
noncomputable def o82 : Obj := T []
noncomputable def o83 : Obj := Z []
noncomputable def o84 : Obj := T [vs "n" 416, vs "what" 417]
noncomputable def o85 : Obj := T []
noncomputable def o86 : Obj := G (F (s 10) "_index" 0 [] .none .none .none .none none .none .none)
noncomputable def o87 : Obj := C [vs "_index" 413, vs "_index" 414, vs "/claim/cut.py" 415, vi 37 0, vi 2 0, vi 0 0, vi 0 0, vi 3 0, r 79, .bool true, vi 318 0, r 80, .none, r 81, r 82, r 83, vi 418 0, vi 37 0, vs "/claim/cut.py" 419]
noncomputable def o88 : Obj := H (F (s 10) "_index" 3 [] .none .none .none (vs "io" 403) none (r 84) .none)
noncomputable def o89 : Obj := T [.type "OSError", .type "ValueError"]
noncomputable def o90 : Obj := ⟨.type "builtin_function_or_method", none, .fields #[.builtin "type.__prepare__", .type "type"], #[]⟩
noncomputable def o91 (P : Params) : Obj := D [E P "__module__" 428 (vs "io" 433), E P "__qualname__" 430 (vs "UnsupportedOperation" 429), E P "__firstlineno__" 432 (vi 44 431), E P "__static_attributes__" 435 (r 93)] 4
noncomputable def o92 : Obj := T []
noncomputable def o93 : Obj := Z []
noncomputable def o94 : Obj := C [vs "UnsupportedOperation" 423, vs "UnsupportedOperation" 424, vs "/claim/cut.py" 425, vi 44 0, vi 0 0, vi 0 0, vi 0 0, vi 0 0, r 89, .bool false, vi 318 0, r 90, .none, .none, .none, .none, vi 426 0, vi 44 0, vs "/claim/cut.py" 427]
noncomputable def o95 : Obj := ⟨.type "frame", none, .plain, #[some (r 91), some (r 3), some (r 88), none, some (vs "io" 403), none, some (r 0)]⟩
noncomputable def o96 : Obj := T []
noncomputable def o97 (P : Params) : Obj := D [E P "__module__" 428 (vs "io" 433), E P "__firstlineno__" 432 (vi 44 431), E P "__static_attributes__" 435 (r 93), E P "__weakref__" 437 (r 96), E P "__doc__" 438 .none] 3
noncomputable def o98 : Obj := ⟨.type "type", none, .cls ⟨(S "UnsupportedOperation"), [.type "OSError", .type "ValueError"], [r 95, .type "OSError", .type "ValueError", .type "Exception", .type "BaseException", .type "object"], 94, (S "UnsupportedOperation"), true, [], [], false, none, false⟩, #[some (r 86), none, some (vs "UnsupportedOperation" 421), some (vs "UnsupportedOperation" 429), some (.builtin "OSError.__new__"), some (.bool true)]⟩
noncomputable def o99 : Obj := ⟨.type "getset_descriptor", none, .fields #[vs "__weakref__" 436, r 95, .builtin "ExceptionGroup.__weakref__", .none], #[]⟩
noncomputable def o100 : Obj := ⟨.type "super", none, .fields #[r 95, r 95, r 95], #[]⟩
noncomputable def o101 : Obj := ⟨.type "builtin_function_or_method", none, .fields #[.builtin "object.__init_subclass__", r 95], #[]⟩
noncomputable def o102 : Obj := T []
noncomputable def o103 : Obj := ⟨.type "builtin_function_or_method", none, .fields #[.builtin "type.__prepare__", .type "type"], #[]⟩
noncomputable def o104 (P : Params) : Obj := D [E P "__module__" 450 (vs "io" 455), E P "__qualname__" 452 (vs "IOBase" 451), E P "__firstlineno__" 454 (vi 46 453), E P "__new__" 465 (r 112), E P "__static_attributes__" 466 (r 113)] 5
noncomputable def o105 : Obj := T []
noncomputable def o106 : Obj := Z [vi 49 0, vi 4 0, r 111]
noncomputable def o107 : Obj := C [vs "IOBase" 445, vs "IOBase" 446, vs "/claim/cut.py" 447, vi 46 0, vi 0 0, vi 0 0, vi 0 0, vi 0 0, r 102, .bool false, vi 318 0, r 103, .none, .none, .none, .none, vi 448 0, vi 46 0, vs "/claim/cut.py" 449]
noncomputable def o108 : Obj := ⟨.type "frame", none, .plain, #[some (r 104), some (r 3), some (r 101), none, some (vs "io" 403), none, some (r 0)]⟩
noncomputable def o109 : Obj := T []
noncomputable def o110 : Obj := Z []
noncomputable def o111 : Obj := T [vs "cls" 460, vs "args" 461, vs "kwargs" 462]
noncomputable def o112 : Obj := T []
noncomputable def o113 : Obj := G (F (c 12 1) "IOBase.__new__" 0 [] .none .none .none .none none .none .none)
noncomputable def o114 : Obj := C [vs "__new__" 457, vs "IOBase.__new__" 458, vs "/claim/cut.py" 459, vi 49 0, vi 1 0, vi 1 0, vi 0 0, vi 15 0, r 106, .bool true, vi 318 0, r 107, .none, r 108, r 109, r 110, vi 463 0, vi 49 0, vs "/claim/cut.py" 464]
noncomputable def o115 : Obj := H (F (c 12 1) "IOBase.__new__" 3 [] .none .none .none (vs "io" 403) none (r 111) .none)
noncomputable def o116 : Obj := T []
noncomputable def o117 (P : Params) : Obj := D [E P "__module__" 450 (vs "io" 455), E P "__firstlineno__" 454 (vi 46 453), E P "__new__" 465 (r 116), E P "__static_attributes__" 466 (r 113), E P "__dict__" 469 (r 117), E P "__weakref__" 471 (r 118), E P "__doc__" 472 .none] 4
noncomputable def o118 : Obj := ⟨.type "type", none, .cls ⟨(S "IOBase"), [.type "object"], [r 115, .type "object"], 114, (S "IOBase"), true, [], [], false, none, false⟩, #[none, none, some (vs "IOBase" 443), some (vs "IOBase" 451), some .none, some (.bool true)]⟩
noncomputable def o119 : Obj := ⟨.type "staticmethod", none, .fields #[r 112], #[]⟩
noncomputable def o120 : Obj := ⟨.type "getset_descriptor", none, .fields #[vs "__dict__" 468, r 115, .builtin "function.__dict__", .builtin "function.__dict__#set"], #[]⟩
noncomputable def o121 : Obj := ⟨.type "getset_descriptor", none, .fields #[vs "__weakref__" 470, r 115, .builtin "ExceptionGroup.__weakref__", .none], #[]⟩
noncomputable def o122 : Obj := ⟨.type "super", none, .fields #[r 115, r 115, r 115], #[]⟩
noncomputable def o123 : Obj := ⟨.type "builtin_function_or_method", none, .fields #[.builtin "object.__init_subclass__", r 115], #[]⟩
noncomputable def t1 (P : Params) : BT := n (o0 P) (n (o1 P) (n (o39 P) (n o7 (n o15 (n o31 (l o66) (l o98)) (n o50 (l o82) (l o114))) (n o23 (n o42 (l o74) (l o106)) (n o58 (l o90) (l o122)))) (n (o11 P) (n o19 (n o40 (l o70) (l o102)) (n o54 (l o86) (l o118))) (n o27 (n o46 (l o78) (l o110)) (n o62 (l o94) z)))) (n o5 (n o9 (n o17 (n o33 (l o68) (l o100)) (n o52 (l o84) (l o116))) (n o25 (n o44 (l o76) (l o108)) (n o60 (l o92) z))) (n (o13 P) (n (o21 P) (n o37 (l o72) (l (o104 P))) (n o56 (l o88) (l o120))) (n (o29 P) (n (o48 P) (l o80) (l o112)) (n o64 (l o96) z))))) (n (o38 P) (n o4 (n o8 (n o16 (n (o32 P) (l o67) (l o99)) (n o51 (l o83) (l o115))) (n o24 (n o43 (l o75) (l o107)) (n o59 (l (o91 P)) (l o123)))) (n o12 (n (o20 P) (n o36 (l o71) (l o103)) (n o55 (l o87) (l o119))) (n o28 (n o47 (l o79) (l o111)) (n o63 (l o95) z)))) (n o6 (n o10 (n o18 (n o34 (l o69) (l o101)) (n o53 (l o85) (l (o117 P)))) (n o26 (n o45 (l o77) (l o109)) (n o61 (l o93) z))) (n o14 (n o22 (n o41 (l o73) (l o105)) (n o57 (l o89) (l o121))) (n o30 (n o49 (l o81) (l o113)) (n o65 (l (o97 P)) z)))))
noncomputable def o124 (P : Params) : Obj := D [E P "__name__" 165 (vs "io" 403), E P "__doc__" 166 .none, E P "__package__" 167 .none, E P "__loader__" 168 (.builtin "__main__.__loader__#opaque"), E P "__spec__" 169 .none, E P "__annotations__" 170 (r 6), E P "__builtins__" 171 (r 4), E P "__file__" 173 (vs "/claim/cut.py" 172), E P "__cached__" 174 .none, E P "_sre" 275 (r 12), E P "deque" 317 (.type "collections.deque"), E P "_wall" 330 (r 44), E P "_deduplicate" 341 (r 52), E P "_deduplicate_unhashable" 350 (r 59), E P "_compare_args_orderless" 362 (r 66), E P "_twin_re_1" 402 (r 71), E P "_whence" 412 (r 78), E P "_index" 420 (r 85), E P "UnsupportedOperation" 442 (r 95), E P "IOBase" 474 (r 115), E P "BufferedIOBase" 492 (r 130), E P "TextIOBase" 510 (r 142)] 22
noncomputable def o125 : Obj := Z [vi 3 0, vi 0 0, r 43, vi 7 0, vi 0 0, r 51, vi 14 0, vi 0 0, r 58, vi 20 0, vi 0 0, r 65, vi 32 0, vi 0 0, r 77, vi 37 0, vi 0 0, r 84, vi 44 0, vi 0 0, r 91, vi 46 0, vi 0 0, r 104, vi 53 0, vi 0 0, r 126, vi 55 0, vi 0 0, r 138]
noncomputable def o126 : Obj := ⟨.type "type", none, .cls ⟨(S "IOBase"), [.type "object"], [r 115, .type "object"], 114, (S "IOBase"), true, [], [r 130, r 142], false, none, false⟩, #[none, none, some (vs "IOBase" 443), some (vs "IOBase" 451), some .none, some (.bool true)]⟩
noncomputable def o127 : Obj := T [r 115]
noncomputable def o128 : Obj := ⟨.type "builtin_function_or_method", none, .fields #[.builtin "type.__prepare__", .type "type"], #[]⟩
noncomputable def o129 (P : Params) : Obj := D [E P "__module__" 482 (vs "io" 487), E P "__qualname__" 484 (vs "BufferedIOBase" 483), E P "__firstlineno__" 486 (vi 53 485), E P "__static_attributes__" 489 (r 128)] 4
noncomputable def o130 : Obj := T []
noncomputable def o131 : Obj := Z []
noncomputable def o132 : Obj := C [vs "BufferedIOBase" 477, vs "BufferedIOBase" 478, vs "/claim/cut.py" 479, vi 53 0, vi 0 0, vi 0 0, vi 0 0, vi 0 0, r 124, .bool false, vi 318 0, r 125, .none, .none, .none, .none, vi 480 0, vi 53 0, vs "/claim/cut.py" 481]
noncomputable def o133 : Obj := ⟨.type "frame", none, .plain, #[some (r 126), some (r 3), some (r 123), none, some (vs "io" 403), none, some (r 0)]⟩
noncomputable def o134 : Obj := T []
noncomputable def o135 (P : Params) : Obj := D [E P "__module__" 482 (vs "io" 487), E P "__firstlineno__" 486 (vi 53 485), E P "__static_attributes__" 489 (r 128), E P "__doc__" 490 .none] 2
noncomputable def o136 : Obj := ⟨.type "type", none, .cls ⟨(S "BufferedIOBase"), [r 115], [r 130, r 115, .type "object"], 129, (S "BufferedIOBase"), true, [], [], false, none, false⟩, #[some (r 121), none, some (vs "BufferedIOBase" 475), some (vs "BufferedIOBase" 483), some .none, some (.bool true)]⟩
noncomputable def o137 : Obj := ⟨.type "super", none, .fields #[r 130, r 130, r 130], #[]⟩
noncomputable def o138 : Obj := ⟨.type "builtin_function_or_method", none, .fields #[.builtin "object.__init_subclass__", r 130], #[]⟩
noncomputable def o139 : Obj := T [r 115]
noncomputable def o140 : Obj := ⟨.type "builtin_function_or_method", none, .fields #[.builtin "type.__prepare__", .type "type"], #[]⟩
noncomputable def o141 (P : Params) : Obj := D [E P "__module__" 500 (vs "io" 505), E P "__qualname__" 502 (vs "TextIOBase" 501), E P "__firstlineno__" 504 (vi 55 503), E P "__static_attributes__" 507 (r 140)] 4
noncomputable def o142 : Obj := T []
noncomputable def o143 : Obj := Z []
noncomputable def o144 : Obj := C [vs "TextIOBase" 495, vs "TextIOBase" 496, vs "/claim/cut.py" 497, vi 55 0, vi 0 0, vi 0 0, vi 0 0, vi 0 0, r 136, .bool false, vi 318 0, r 137, .none, .none, .none, .none, vi 498 0, vi 55 0, vs "/claim/cut.py" 499]
noncomputable def o145 : Obj := ⟨.type "frame", none, .plain, #[some (r 138), some (r 3), some (r 135), none, some (vs "io" 403), none, some (r 0)]⟩
noncomputable def o146 : Obj := T []
noncomputable def o147 (P : Params) : Obj := D [E P "__module__" 500 (vs "io" 505), E P "__firstlineno__" 504 (vi 55 503), E P "__static_attributes__" 507 (r 140), E P "__doc__" 508 .none] 2
noncomputable def o148 : Obj := ⟨.type "type", none, .cls ⟨(S "TextIOBase"), [r 115], [r 142, r 115, .type "object"], 141, (S "TextIOBase"), true, [], [], false, none, false⟩, #[some (r 133), none, some (vs "TextIOBase" 493), some (vs "TextIOBase" 501), some .none, some (.bool true)]⟩
noncomputable def o149 : Obj := ⟨.type "super", none, .fields #[r 142, r 142, r 142], #[]⟩
noncomputable def o150 : Obj := ⟨.type "builtin_function_or_method", none, .fields #[.builtin "object.__init_subclass__", r 142], #[]⟩
noncomputable def t2 (P : Params) : BT := n (o0 P) (n (o1 P) (n (o124 P) (n o7 (n o15 (n o31 (n o66 (l o133) z) (l o98)) (n o50 (n o82 (l o149) z) (l o114))) (n o23 (n o42 (n o74 (l (o141 P)) z) (l o106)) (n o58 (l o90) (l o122)))) (n (o11 P) (n o19 (n o125 (n o70 (l o137) z) (l o102)) (n o54 (l o86) (l o126))) (n o27 (n o46 (n o78 (l o145) z) (l o110)) (n o62 (l o94) (l (o129 P)))))) (n o5 (n o9 (n o17 (n o33 (n o68 (l (o135 P)) z) (l o100)) (n o52 (l o84) (l o116))) (n o25 (n o44 (n o76 (l o143) z) (l o108)) (n o60 (l o92) (l o127)))) (n (o13 P) (n (o21 P) (n o37 (n o72 (l o139) z) (l (o104 P))) (n o56 (l o88) (l o120))) (n (o29 P) (n (o48 P) (n o80 (l (o147 P)) z) (l o112)) (n o64 (l o96) (l o131)))))) (n (o38 P) (n o4 (n o8 (n o16 (n (o32 P) (n o67 (l o134) z) (l o99)) (n o51 (n o83 (l o150) z) (l o115))) (n o24 (n o43 (n o75 (l o142) z) (l o107)) (n o59 (l (o91 P)) (l o123)))) (n o12 (n (o20 P) (n o36 (n o71 (l o138) z) (l o103)) (n o55 (l o87) (l o119))) (n o28 (n o47 (n o79 (l o146) z) (l o111)) (n o63 (l o95) (l o130))))) (n o6 (n o10 (n o18 (n o34 (n o69 (l o136) z) (l o101)) (n o53 (l o85) (l (o117 P)))) (n o26 (n o45 (n o77 (l o144) z) (l o109)) (n o61 (l o93) (l o128)))) (n o14 (n o22 (n o41 (n o73 (l o140) z) (l o105)) (n o57 (l o89) (l o121))) (n o30 (n o49 (n o81 (l o148) z) (l o113)) (n o65 (l (o97 P)) (l o132))))))
noncomputable def o151 (P : Params) : Obj := D [E P "__name__" 165 (vs "io" 403), E P "__doc__" 166 .none, E P "__package__" 167 .none, E P "__loader__" 168 (.builtin "__main__.__loader__#opaque"), E P "__spec__" 169 .none, E P "__annotations__" 170 (r 6), E P "__builtins__" 171 (r 4), E P "__file__" 173 (vs "/claim/cut.py" 172), E P "__cached__" 174 .none, E P "_sre" 275 (r 12), E P "deque" 317 (.type "collections.deque"), E P "_wall" 330 (r 44), E P "_deduplicate" 341 (r 52), E P "_deduplicate_unhashable" 350 (r 59), E P "_compare_args_orderless" 362 (r 66), E P "_twin_re_1" 402 (r 71), E P "_whence" 412 (r 78), E P "_index" 420 (r 85), E P "UnsupportedOperation" 442 (r 95), E P "IOBase" 474 (r 115), E P "BufferedIOBase" 492 (r 130), E P "TextIOBase" 510 (r 142), E P "BytesIO" 772 (r 372)] 23
noncomputable def o152 : Obj := Z [vi 3 0, vi 0 0, r 43, vi 7 0, vi 0 0, r 51, vi 14 0, vi 0 0, r 58, vi 20 0, vi 0 0, r 65, vi 32 0, vi 0 0, r 77, vi 37 0, vi 0 0, r 84, vi 44 0, vi 0 0, r 91, vi 46 0, vi 0 0, r 104, vi 53 0, vi 0 0, r 126, vi 55 0, vi 0 0, r 138, vi 57 0, vi 0 0, r 150]
noncomputable def o153 : Obj := ⟨.type "type", none, .cls ⟨(S "BufferedIOBase"), [r 115], [r 130, r 115, .type "object"], 129, (S "BufferedIOBase"), true, [], [r 372], false, none, false⟩, #[some (r 121), none, some (vs "BufferedIOBase" 475), some (vs "BufferedIOBase" 483), some .none, some (.bool true)]⟩
noncomputable def o154 : Obj := T [r 130]
noncomputable def o155 : Obj := ⟨.type "builtin_function_or_method", none, .fields #[.builtin "type.__prepare__", .type "type"], #[]⟩
noncomputable def o156 (P : Params) : Obj := D [E P "__module__" 518 (vs "_io" 523), E P "__qualname__" 520 (vs "BytesIO" 519), E P "__firstlineno__" 522 (vi 57 521), E P "__init__" 532 (r 159), E P "_BytesIO__check" 539 (r 166), E P "_BytesIO__line" 550 (r 173), E P "closed" 558 (r 181), E P "close" 565 (r 188), E P "__enter__" 572 (r 195), E P "__exit__" 580 (r 202), E P "readable" 587 (r 209), E P "writable" 594 (r 216), E P "seekable" 601 (r 223), E P "isatty" 608 (r 230), E P "flush" 615 (r 237), E P "fileno" 622 (r 244), E P "detach" 629 (r 251), E P "getvalue" 636 (r 258), E P "getbuffer" 643 (r 265), E P "tell" 650 (r 272), E P "seek" 660 (r 280), E P "truncate" 668 (r 288), E P "read" 680 (r 296), E P "read1" 690 (r 304), E P "readinto" 700 (r 311), E P "readinto1" 708 (r 318), E P "readline" 718 (r 326), E P "readlines" 726 (r 334), E P "__iter__" 733 (r 341), E P "__next__" 741 (r 348), E P "write" 751 (r 355), E P "writelines" 759 (r 362), E P "__repr__" 766 (r 369), E P "__static_attributes__" 769 (r 370)] 34
noncomputable def o157 : Obj := T []
noncomputable def o158 : Obj := Z [vi 60 0, vi 4 0, r 158, vi 66 0, vi 4 0, r 165, vi 70 0, vi 4 0, r 172, vi 84 0, vi 4 0, r 179, vi 87 0, vi 4 0, r 187, vi 90 0, vi 4 0, r 194, vi 94 0, vi 4 0, r 201, vi 97 0, vi 4 0, r 208, vi 101 0, vi 4 0, r 215, vi 105 0, vi 4 0, r 222, vi 109 0, vi 4 0, r 229, vi 113 0, vi 4 0, r 236, vi 116 0, vi 4 0, r 243, vi 119 0, vi 4 0, r 250, vi 122 0, vi 4 0, r 257, vi 125 0, vi 4 0, r 264, vi 128 0, vi 4 0, r 271, vi 132 0, vi 4 0, r 279, vi 149 0, vi 4 0, r 287, vi 152 0, vi 4 0, r 295, vi 166 0, vi 4 0, r 303, vi 169 0, vi 4 0, r 310, vi 183 0, vi 4 0, r 317, vi 186 0, vi 4 0, r 325, vi 193 0, vi 4 0, r 333, vi 196 0, vi 4 0, r 340, vi 199 0, vi 4 0, r 347, vi 206 0, vi 4 0, r 354, vi 222 0, vi 4 0, r 361, vi 225 0, vi 4 0, r 368]
noncomputable def o159 : Obj := C [vs "BytesIO" 513, vs "BytesIO" 514, vs "/claim/cut.py" 515, vi 57 0, vi 0 0, vi 0 0, vi 0 0, vi 0 0, r 148, .bool false, vi 318 0, r 149, .none, .none, .none, .none, vi 516 0, vi 57 0, vs "/claim/cut.py" 517]
noncomputable def o160 : Obj := ⟨.type "frame", none, .plain, #[some (r 150), some (r 3), some (r 147), none, some (vs "io" 403), none, some (r 0)]⟩
noncomputable def o161 : Obj := T [.none]
noncomputable def o162 : Obj := T []
noncomputable def o163 : Obj := Z []
noncomputable def o164 : Obj := T [vs "self" 528, vs "initial_bytes" 529]
noncomputable def o165 : Obj := T []
noncomputable def o166 : Obj := G (F (c 15 1) "BytesIO.__init__" 0 [] .none .none .none .none none .none .none)
noncomputable def o167 : Obj := C [vs "__init__" 525, vs "BytesIO.__init__" 526, vs "/claim/cut.py" 527, vi 60 0, vi 2 0, vi 0 0, vi 0 0, vi 3 0, r 153, .bool true, vi 318 0, r 154, .none, r 155, r 156, r 157, vi 530 0, vi 60 0, vs "/claim/cut.py" 531]
noncomputable def o168 : Obj := H (F (c 15 1) "BytesIO.__init__" 3 [] (r 152) .none .none (vs "io" 403) none (r 158) .none)
noncomputable def o169 : Obj := T []
noncomputable def o170 : Obj := Z []
noncomputable def o171 : Obj := T [vs "self" 536]
noncomputable def o172 : Obj := T []
noncomputable def o173 : Obj := G (F (c 15 2) "BytesIO.__check" 0 [] .none .none .none .none none .none .none)
noncomputable def o174 : Obj := C [vs "__check" 533, vs "BytesIO.__check" 534, vs "/claim/cut.py" 535, vi 66 0, vi 1 0, vi 0 0, vi 0 0, vi 3 0, r 160, .bool true, vi 318 0, r 161, .none, r 162, r 163, r 164, vi 537 0, vi 66 0, vs "/claim/cut.py" 538]
noncomputable def o175 : Obj := H (F (c 15 2) "BytesIO.__check" 3 [] .none .none .none (vs "io" 403) none (r 165) .none)
noncomputable def o176 : Obj := T []
noncomputable def o177 : Obj := Z []
noncomputable def o178 : Obj := T [vs "self" 543, vs "limit" 544, vs "start" 545, vs "stop" 546, vs "i" 547]
noncomputable def o179 : Obj := T []
noncomputable def o180 : Obj := G (F (c 15 3) "BytesIO.__line" 0 [] .none .none .none .none none .none .none)
noncomputable def o181 : Obj := C [vs "__line" 540, vs "BytesIO.__line" 541, vs "/claim/cut.py" 542, vi 70 0, vi 2 0, vi 0 0, vi 0 0, vi 3 0, r 167, .bool true, vi 318 0, r 168, .none, r 169, r 170, r 171, vi 548 0, vi 70 0, vs "/claim/cut.py" 549]
noncomputable def o182 : Obj := H (F (c 15 3) "BytesIO.__line" 3 [] .none .none .none (vs "io" 403) none (r 172) .none)
noncomputable def o183 : Obj := T []
noncomputable def o184 : Obj := Z []
noncomputable def o185 : Obj := T [vs "self" 554]
noncomputable def o186 : Obj := T []
noncomputable def o187 : Obj := G (F (c 15 4) "BytesIO.closed" 0 [] .none .none .none .none none .none .none)
noncomputable def o188 : Obj := C [vs "closed" 551, vs "BytesIO.closed" 552, vs "/claim/cut.py" 553, vi 83 0, vi 1 0, vi 0 0, vi 0 0, vi 3 0, r 174, .bool true, vi 318 0, r 175, .none, r 176, r 177, r 178, vi 555 0, vi 83 0, vs "/claim/cut.py" 556]
noncomputable def o189 : Obj := H (F (c 15 4) "BytesIO.closed" 3 [] .none .none .none (vs "io" 403) none (r 179) .none)
noncomputable def o190 : Obj := ⟨.type "property", none, .fields #[r 180, .none, .none, .none, vs "closed" 558, .bool false], #[]⟩
noncomputable def o191 : Obj := T []
noncomputable def o192 : Obj := Z []
noncomputable def o193 : Obj := T [vs "self" 562]
noncomputable def o194 : Obj := T []
noncomputable def o195 : Obj := G (F (c 15 5) "BytesIO.close" 0 [] .none .none .none .none none .none .none)
noncomputable def o196 : Obj := C [vs "close" 559, vs "BytesIO.close" 560, vs "/claim/cut.py" 561, vi 87 0, vi 1 0, vi 0 0, vi 0 0, vi 3 0, r 182, .bool true, vi 318 0, r 183, .none, r 184, r 185, r 186, vi 563 0, vi 87 0, vs "/claim/cut.py" 564]
noncomputable def o197 : Obj := H (F (c 15 5) "BytesIO.close" 3 [] .none .none .none (vs "io" 403) none (r 187) .none)
noncomputable def o198 : Obj := T []
noncomputable def o199 : Obj := Z []
noncomputable def o200 : Obj := T [vs "self" 569]
noncomputable def o201 : Obj := T []
noncomputable def o202 : Obj := G (F (c 15 6) "BytesIO.__enter__" 0 [] .none .none .none .none none .none .none)
noncomputable def o203 : Obj := C [vs "__enter__" 566, vs "BytesIO.__enter__" 567, vs "/claim/cut.py" 568, vi 90 0, vi 1 0, vi 0 0, vi 0 0, vi 3 0, r 189, .bool true, vi 318 0, r 190, .none, r 191, r 192, r 193, vi 570 0, vi 90 0, vs "/claim/cut.py" 571]
noncomputable def o204 : Obj := H (F (c 15 6) "BytesIO.__enter__" 3 [] .none .none .none (vs "io" 403) none (r 194) .none)
noncomputable def o205 : Obj := T []
noncomputable def o206 : Obj := Z []
noncomputable def o207 : Obj := T [vs "self" 576, vs "args" 577]
noncomputable def o208 : Obj := T []
noncomputable def o209 : Obj := G (F (c 15 7) "BytesIO.__exit__" 0 [] .none .none .none .none none .none .none)
noncomputable def o210 : Obj := C [vs "__exit__" 573, vs "BytesIO.__exit__" 574, vs "/claim/cut.py" 575, vi 94 0, vi 1 0, vi 0 0, vi 0 0, vi 7 0, r 196, .bool true, vi 318 0, r 197, .none, r 198, r 199, r 200, vi 578 0, vi 94 0, vs "/claim/cut.py" 579]
noncomputable def o211 : Obj := H (F (c 15 7) "BytesIO.__exit__" 3 [] .none .none .none (vs "io" 403) none (r 201) .none)
noncomputable def o212 : Obj := T []
noncomputable def o213 : Obj := Z []
noncomputable def o214 : Obj := T [vs "self" 584]
noncomputable def o215 : Obj := T []
noncomputable def o216 : Obj := G (F (c 15 8) "BytesIO.readable" 0 [] .none .none .none .none none .none .none)
noncomputable def o217 : Obj := C [vs "readable" 581, vs "BytesIO.readable" 582, vs "/claim/cut.py" 583, vi 97 0, vi 1 0, vi 0 0, vi 0 0, vi 3 0, r 203, .bool true, vi 318 0, r 204, .none, r 205, r 206, r 207, vi 585 0, vi 97 0, vs "/claim/cut.py" 586]
noncomputable def o218 : Obj := H (F (c 15 8) "BytesIO.readable" 3 [] .none .none .none (vs "io" 403) none (r 208) .none)
noncomputable def o219 : Obj := T []
noncomputable def o220 : Obj := Z []
noncomputable def o221 : Obj := T [vs "self" 591]
noncomputable def o222 : Obj := T []
noncomputable def o223 : Obj := G (F (c 15 9) "BytesIO.writable" 0 [] .none .none .none .none none .none .none)
noncomputable def o224 : Obj := C [vs "writable" 588, vs "BytesIO.writable" 589, vs "/claim/cut.py" 590, vi 101 0, vi 1 0, vi 0 0, vi 0 0, vi 3 0, r 210, .bool true, vi 318 0, r 211, .none, r 212, r 213, r 214, vi 592 0, vi 101 0, vs "/claim/cut.py" 593]
noncomputable def o225 : Obj := H (F (c 15 9) "BytesIO.writable" 3 [] .none .none .none (vs "io" 403) none (r 215) .none)
noncomputable def o226 : Obj := T []
noncomputable def o227 : Obj := Z []
noncomputable def o228 : Obj := T [vs "self" 598]
noncomputable def o229 : Obj := T []
noncomputable def o230 : Obj := G (F (c 15 10) "BytesIO.seekable" 0 [] .none .none .none .none none .none .none)
noncomputable def o231 : Obj := C [vs "seekable" 595, vs "BytesIO.seekable" 596, vs "/claim/cut.py" 597, vi 105 0, vi 1 0, vi 0 0, vi 0 0, vi 3 0, r 217, .bool true, vi 318 0, r 218, .none, r 219, r 220, r 221, vi 599 0, vi 105 0, vs "/claim/cut.py" 600]
noncomputable def o232 : Obj := H (F (c 15 10) "BytesIO.seekable" 3 [] .none .none .none (vs "io" 403) none (r 222) .none)
noncomputable def o233 : Obj := T []
noncomputable def o234 : Obj := Z []
noncomputable def o235 : Obj := T [vs "self" 605]
noncomputable def o236 : Obj := T []
noncomputable def o237 : Obj := G (F (c 15 11) "BytesIO.isatty" 0 [] .none .none .none .none none .none .none)
noncomputable def o238 : Obj := C [vs "isatty" 602, vs "BytesIO.isatty" 603, vs "/claim/cut.py" 604, vi 109 0, vi 1 0, vi 0 0, vi 0 0, vi 3 0, r 224, .bool true, vi 318 0, r 225, .none, r 226, r 227, r 228, vi 606 0, vi 109 0, vs "/claim/cut.py" 607]
noncomputable def o239 : Obj := H (F (c 15 11) "BytesIO.isatty" 3 [] .none .none .none (vs "io" 403) none (r 229) .none)
noncomputable def o240 : Obj := T []
noncomputable def o241 : Obj := Z []
noncomputable def o242 : Obj := T [vs "self" 612]
noncomputable def o243 : Obj := T []
noncomputable def o244 : Obj := G (F (c 15 12) "BytesIO.flush" 0 [] .none .none .none .none none .none .none)
noncomputable def o245 : Obj := C [vs "flush" 609, vs "BytesIO.flush" 610, vs "/claim/cut.py" 611, vi 113 0, vi 1 0, vi 0 0, vi 0 0, vi 3 0, r 231, .bool true, vi 318 0, r 232, .none, r 233, r 234, r 235, vi 613 0, vi 113 0, vs "/claim/cut.py" 614]
noncomputable def o246 : Obj := H (F (c 15 12) "BytesIO.flush" 3 [] .none .none .none (vs "io" 403) none (r 236) .none)
noncomputable def o247 : Obj := T []
noncomputable def o248 : Obj := Z []
noncomputable def o249 : Obj := T [vs "self" 619]
noncomputable def o250 : Obj := T []
noncomputable def o251 : Obj := G (F (c 15 13) "BytesIO.fileno" 0 [] .none .none .none .none none .none .none)
noncomputable def o252 : Obj := C [vs "fileno" 616, vs "BytesIO.fileno" 617, vs "/claim/cut.py" 618, vi 116 0, vi 1 0, vi 0 0, vi 0 0, vi 3 0, r 238, .bool true, vi 318 0, r 239, .none, r 240, r 241, r 242, vi 620 0, vi 116 0, vs "/claim/cut.py" 621]
noncomputable def o253 : Obj := H (F (c 15 13) "BytesIO.fileno" 3 [] .none .none .none (vs "io" 403) none (r 243) .none)
noncomputable def o254 : Obj := T []
noncomputable def o255 : Obj := Z []
noncomputable def o256 : Obj := T [vs "self" 626]
noncomputable def o257 : Obj := T []
noncomputable def o258 : Obj := G (F (c 15 14) "BytesIO.detach" 0 [] .none .none .none .none none .none .none)
noncomputable def o259 : Obj := C [vs "detach" 623, vs "BytesIO.detach" 624, vs "/claim/cut.py" 625, vi 119 0, vi 1 0, vi 0 0, vi 0 0, vi 3 0, r 245, .bool true, vi 318 0, r 246, .none, r 247, r 248, r 249, vi 627 0, vi 119 0, vs "/claim/cut.py" 628]
noncomputable def o260 : Obj := H (F (c 15 14) "BytesIO.detach" 3 [] .none .none .none (vs "io" 403) none (r 250) .none)
noncomputable def o261 : Obj := T []
noncomputable def o262 : Obj := Z []
noncomputable def o263 : Obj := T [vs "self" 633]
noncomputable def o264 : Obj := T []
noncomputable def o265 : Obj := G (F (c 15 15) "BytesIO.getvalue" 0 [] .none .none .none .none none .none .none)
noncomputable def o266 : Obj := C [vs "getvalue" 630, vs "BytesIO.getvalue" 631, vs "/claim/cut.py" 632, vi 122 0, vi 1 0, vi 0 0, vi 0 0, vi 3 0, r 252, .bool true, vi 318 0, r 253, .none, r 254, r 255, r 256, vi 634 0, vi 122 0, vs "/claim/cut.py" 635]
noncomputable def o267 : Obj := H (F (c 15 15) "BytesIO.getvalue" 3 [] .none .none .none (vs "io" 403) none (r 257) .none)
noncomputable def o268 : Obj := T []
noncomputable def o269 : Obj := Z []
noncomputable def o270 : Obj := T [vs "self" 640]
noncomputable def o271 : Obj := T []
noncomputable def o272 : Obj := G (F (c 15 16) "BytesIO.getbuffer" 0 [] .none .none .none .none none .none .none)
noncomputable def o273 : Obj := C [vs "getbuffer" 637, vs "BytesIO.getbuffer" 638, vs "/claim/cut.py" 639, vi 125 0, vi 1 0, vi 0 0, vi 0 0, vi 3 0, r 259, .bool true, vi 318 0, r 260, .none, r 261, r 262, r 263, vi 641 0, vi 125 0, vs "/claim/cut.py" 642]
noncomputable def o274 : Obj := H (F (c 15 16) "BytesIO.getbuffer" 3 [] .none .none .none (vs "io" 403) none (r 264) .none)
noncomputable def o275 : Obj := T []
noncomputable def o276 : Obj := Z []
noncomputable def o277 : Obj := T [vs "self" 647]
noncomputable def o278 : Obj := T []
noncomputable def o279 : Obj := G (F (c 15 17) "BytesIO.tell" 0 [] .none .none .none .none none .none .none)
noncomputable def o280 : Obj := C [vs "tell" 644, vs "BytesIO.tell" 645, vs "/claim/cut.py" 646, vi 128 0, vi 1 0, vi 0 0, vi 0 0, vi 3 0, r 266, .bool true, vi 318 0, r 267, .none, r 268, r 269, r 270, vi 648 0, vi 128 0, vs "/claim/cut.py" 649]
noncomputable def o281 : Obj := H (F (c 15 17) "BytesIO.tell" 3 [] .none .none .none (vs "io" 403) none (r 271) .none)
noncomputable def o282 : Obj := T [vi 0 651]
noncomputable def o283 : Obj := T []
noncomputable def o284 : Obj := Z []
noncomputable def o285 : Obj := T [vs "self" 655, vs "pos" 656, vs "whence" 657]
noncomputable def o286 : Obj := T []
noncomputable def o287 : Obj := G (F (c 15 18) "BytesIO.seek" 0 [] .none .none .none .none none .none .none)
noncomputable def o288 : Obj := C [vs "seek" 652, vs "BytesIO.seek" 653, vs "/claim/cut.py" 654, vi 132 0, vi 3 0, vi 3 0, vi 0 0, vi 3 0, r 274, .bool true, vi 318 0, r 275, .none, r 276, r 277, r 278, vi 658 0, vi 132 0, vs "/claim/cut.py" 659]
noncomputable def o289 : Obj := H (F (c 15 18) "BytesIO.seek" 3 [] (r 273) .none .none (vs "io" 403) none (r 279) .none)
noncomputable def o290 : Obj := T [.none]
noncomputable def o291 : Obj := T []
noncomputable def o292 : Obj := Z []
noncomputable def o293 : Obj := T [vs "self" 664, vs "size" 665]
noncomputable def o294 : Obj := T []
noncomputable def o295 : Obj := G (F (c 15 19) "BytesIO.truncate" 0 [] .none .none .none .none none .none .none)
noncomputable def o296 : Obj := C [vs "truncate" 661, vs "BytesIO.truncate" 662, vs "/claim/cut.py" 663, vi 149 0, vi 2 0, vi 2 0, vi 0 0, vi 3 0, r 282, .bool true, vi 318 0, r 283, .none, r 284, r 285, r 286, vi 666 0, vi 149 0, vs "/claim/cut.py" 667]
noncomputable def o297 : Obj := H (F (c 15 19) "BytesIO.truncate" 3 [] (r 281) .none .none (vs "io" 403) none (r 287) .none)
noncomputable def o298 : Obj := T [vi (-1) 670]
noncomputable def o299 : Obj := T []
noncomputable def o300 : Obj := Z []
noncomputable def o301 : Obj := T [vs "self" 674, vs "size" 675, vs "start" 676, vs "stop" 677]
noncomputable def o302 : Obj := T []
noncomputable def o303 : Obj := G (F (c 15 20) "BytesIO.read" 0 [] .none .none .none .none none .none .none)
noncomputable def o304 : Obj := C [vs "read" 671, vs "BytesIO.read" 672, vs "/claim/cut.py" 673, vi 152 0, vi 2 0, vi 2 0, vi 0 0, vi 3 0, r 290, .bool true, vi 318 0, r 291, .none, r 292, r 293, r 294, vi 678 0, vi 152 0, vs "/claim/cut.py" 679]
noncomputable def o305 : Obj := H (F (c 15 20) "BytesIO.read" 3 [] (r 289) .none .none (vs "io" 403) none (r 295) .none)
noncomputable def o306 : Obj := T [vi (-1) 682]
noncomputable def o307 : Obj := T []
noncomputable def o308 : Obj := Z []
noncomputable def o309 : Obj := T [vs "self" 686, vs "size" 687]
noncomputable def o310 : Obj := T []
noncomputable def o311 : Obj := G (F (c 15 21) "BytesIO.read1" 0 [] .none .none .none .none none .none .none)
noncomputable def o312 : Obj := C [vs "read1" 683, vs "BytesIO.read1" 684, vs "/claim/cut.py" 685, vi 166 0, vi 2 0, vi 2 0, vi 0 0, vi 3 0, r 298, .bool true, vi 318 0, r 299, .none, r 300, r 301, r 302, vi 688 0, vi 166 0, vs "/claim/cut.py" 689]
noncomputable def o313 : Obj := H (F (c 15 21) "BytesIO.read1" 3 [] (r 297) .none .none (vs "io" 403) none (r 303) .none)
noncomputable def o314 : Obj := T []
noncomputable def o315 : Obj := Z []
noncomputable def o316 : Obj := T [vs "self" 694, vs "buffer" 695, vs "start" 696, vs "n" 697]
noncomputable def o317 : Obj := T []
noncomputable def o318 : Obj := G (F (c 15 22) "BytesIO.readinto" 0 [] .none .none .none .none none .none .none)
noncomputable def o319 : Obj := C [vs "readinto" 691, vs "BytesIO.readinto" 692, vs "/claim/cut.py" 693, vi 169 0, vi 2 0, vi 2 0, vi 0 0, vi 3 0, r 305, .bool true, vi 318 0, r 306, .none, r 307, r 308, r 309, vi 698 0, vi 169 0, vs "/claim/cut.py" 699]
noncomputable def o320 : Obj := H (F (c 15 22) "BytesIO.readinto" 3 [] .none .none .none (vs "io" 403) none (r 310) .none)
noncomputable def o321 : Obj := T []
noncomputable def o322 : Obj := Z []
noncomputable def o323 : Obj := T [vs "self" 704, vs "buffer" 705]
noncomputable def o324 : Obj := T []
noncomputable def o325 : Obj := G (F (c 15 23) "BytesIO.readinto1" 0 [] .none .none .none .none none .none .none)
noncomputable def o326 : Obj := C [vs "readinto1" 701, vs "BytesIO.readinto1" 702, vs "/claim/cut.py" 703, vi 183 0, vi 2 0, vi 2 0, vi 0 0, vi 3 0, r 312, .bool true, vi 318 0, r 313, .none, r 314, r 315, r 316, vi 706 0, vi 183 0, vs "/claim/cut.py" 707]
noncomputable def o327 : Obj := H (F (c 15 23) "BytesIO.readinto1" 3 [] .none .none .none (vs "io" 403) none (r 317) .none)
noncomputable def o328 : Obj := T [vi (-1) 710]
noncomputable def o329 : Obj := T []
noncomputable def o330 : Obj := Z []
noncomputable def o331 : Obj := T [vs "self" 714, vs "size" 715]
noncomputable def o332 : Obj := T []
noncomputable def o333 : Obj := G (F (c 15 24) "BytesIO.readline" 0 [] .none .none .none .none none .none .none)
noncomputable def o334 : Obj := C [vs "readline" 711, vs "BytesIO.readline" 712, vs "/claim/cut.py" 713, vi 186 0, vi 2 0, vi 2 0, vi 0 0, vi 3 0, r 320, .bool true, vi 318 0, r 321, .none, r 322, r 323, r 324, vi 716 0, vi 186 0, vs "/claim/cut.py" 717]
noncomputable def o335 : Obj := H (F (c 15 24) "BytesIO.readline" 3 [] (r 319) .none .none (vs "io" 403) none (r 325) .none)
noncomputable def o336 : Obj := T [.none]
noncomputable def o337 : Obj := T []
noncomputable def o338 : Obj := Z []
noncomputable def o339 : Obj := T [vs "self" 722, vs "size" 723]
noncomputable def o340 : Obj := T []
noncomputable def o341 : Obj := G (F (c 15 25) "BytesIO.readlines" 0 [] .none .none .none .none none .none .none)
noncomputable def o342 : Obj := C [vs "readlines" 719, vs "BytesIO.readlines" 720, vs "/claim/cut.py" 721, vi 193 0, vi 2 0, vi 2 0, vi 0 0, vi 3 0, r 328, .bool true, vi 318 0, r 329, .none, r 330, r 331, r 332, vi 724 0, vi 193 0, vs "/claim/cut.py" 725]
noncomputable def o343 : Obj := H (F (c 15 25) "BytesIO.readlines" 3 [] (r 327) .none .none (vs "io" 403) none (r 333) .none)
noncomputable def o344 : Obj := T []
noncomputable def o345 : Obj := Z []
noncomputable def o346 : Obj := T [vs "self" 730]
noncomputable def o347 : Obj := T []
noncomputable def o348 : Obj := G (F (c 15 26) "BytesIO.__iter__" 0 [] .none .none .none .none none .none .none)
noncomputable def o349 : Obj := C [vs "__iter__" 727, vs "BytesIO.__iter__" 728, vs "/claim/cut.py" 729, vi 196 0, vi 1 0, vi 0 0, vi 0 0, vi 3 0, r 335, .bool true, vi 318 0, r 336, .none, r 337, r 338, r 339, vi 731 0, vi 196 0, vs "/claim/cut.py" 732]
noncomputable def o350 : Obj := H (F (c 15 26) "BytesIO.__iter__" 3 [] .none .none .none (vs "io" 403) none (r 340) .none)
noncomputable def o351 : Obj := T []
noncomputable def o352 : Obj := Z []
noncomputable def o353 : Obj := T [vs "self" 737, vs "line" 738]
noncomputable def o354 : Obj := T []
noncomputable def o355 : Obj := G (F (c 15 27) "BytesIO.__next__" 0 [] .none .none .none .none none .none .none)
noncomputable def o356 : Obj := C [vs "__next__" 734, vs "BytesIO.__next__" 735, vs "/claim/cut.py" 736, vi 199 0, vi 1 0, vi 0 0, vi 0 0, vi 3 0, r 342, .bool true, vi 318 0, r 343, .none, r 344, r 345, r 346, vi 739 0, vi 199 0, vs "/claim/cut.py" 740]
noncomputable def o357 : Obj := H (F (c 15 27) "BytesIO.__next__" 3 [] .none .none .none (vs "io" 403) none (r 347) .none)
noncomputable def o358 : Obj := T []
noncomputable def o359 : Obj := Z []
noncomputable def o360 : Obj := T [vs "self" 745, vs "b" 746, vs "n" 747, vs "start" 748]
noncomputable def o361 : Obj := T []
noncomputable def o362 : Obj := G (F (c 15 28) "BytesIO.write" 0 [] .none .none .none .none none .none .none)
noncomputable def o363 : Obj := C [vs "write" 742, vs "BytesIO.write" 743, vs "/claim/cut.py" 744, vi 206 0, vi 2 0, vi 2 0, vi 0 0, vi 3 0, r 349, .bool true, vi 318 0, r 350, .none, r 351, r 352, r 353, vi 749 0, vi 206 0, vs "/claim/cut.py" 750]
noncomputable def o364 : Obj := H (F (c 15 28) "BytesIO.write" 3 [] .none .none .none (vs "io" 403) none (r 354) .none)
noncomputable def o365 : Obj := T []
noncomputable def o366 : Obj := Z []
noncomputable def o367 : Obj := T [vs "self" 755, vs "lines" 756]
noncomputable def o368 : Obj := T []
noncomputable def o369 : Obj := G (F (c 15 29) "BytesIO.writelines" 0 [] .none .none .none .none none .none .none)
noncomputable def o370 : Obj := C [vs "writelines" 752, vs "BytesIO.writelines" 753, vs "/claim/cut.py" 754, vi 222 0, vi 2 0, vi 2 0, vi 0 0, vi 3 0, r 356, .bool true, vi 318 0, r 357, .none, r 358, r 359, r 360, vi 757 0, vi 222 0, vs "/claim/cut.py" 758]
noncomputable def o371 : Obj := H (F (c 15 29) "BytesIO.writelines" 3 [] .none .none .none (vs "io" 403) none (r 361) .none)
noncomputable def o372 : Obj := T []
noncomputable def o373 : Obj := Z []
noncomputable def o374 : Obj := T [vs "self" 763]
noncomputable def o375 : Obj := T []
noncomputable def o376 : Obj := G (F (c 15 30) "BytesIO.__repr__" 0 [] .none .none .none .none none .none .none)
noncomputable def o377 : Obj := C [vs "__repr__" 760, vs "BytesIO.__repr__" 761, vs "/claim/cut.py" 762, vi 225 0, vi 1 0, vi 0 0, vi 0 0, vi 3 0, r 363, .bool true, vi 318 0, r 364, .none, r 365, r 366, r 367, vi 764 0, vi 225 0, vs "/claim/cut.py" 765]
noncomputable def o378 : Obj := H (F (c 15 30) "BytesIO.__repr__" 3 [] .none .none .none (vs "io" 403) none (r 368) .none)
noncomputable def o379 : Obj := T [vs "__buf" 767, vs "__pos" 768]
noncomputable def o380 (P : Params) : Obj := D [E P "__module__" 518 (vs "_io" 523), E P "__firstlineno__" 522 (vi 57 521), E P "__init__" 532 (r 159), E P "_BytesIO__check" 539 (r 166), E P "_BytesIO__line" 550 (r 173), E P "closed" 558 (r 181), E P "close" 565 (r 188), E P "__enter__" 572 (r 195), E P "__exit__" 580 (r 202), E P "readable" 587 (r 209), E P "writable" 594 (r 216), E P "seekable" 601 (r 223), E P "isatty" 608 (r 230), E P "flush" 615 (r 237), E P "fileno" 622 (r 244), E P "detach" 629 (r 251), E P "getvalue" 636 (r 258), E P "getbuffer" 643 (r 265), E P "tell" 650 (r 272), E P "seek" 660 (r 280), E P "truncate" 668 (r 288), E P "read" 680 (r 296), E P "read1" 690 (r 304), E P "readinto" 700 (r 311), E P "readinto1" 708 (r 318), E P "readline" 718 (r 326), E P "readlines" 726 (r 334), E P "__iter__" 733 (r 341), E P "__next__" 741 (r 348), E P "write" 751 (r 355), E P "writelines" 759 (r 362), E P "__repr__" 766 (r 369), E P "__static_attributes__" 769 (r 370), E P "__doc__" 770 .none] 2
noncomputable def o381 : Obj := ⟨.type "type", none, .cls ⟨(S "BytesIO"), [r 130], [r 372, r 130, r 115, .type "object"], 371, (S "BytesIO"), true, [], [], false, none, false⟩, #[some (r 145), none, some (vs "BytesIO" 511), some (vs "BytesIO" 519), some .none, some (.bool true)]⟩
noncomputable def o382 : Obj := ⟨.type "super", none, .fields #[r 372, r 372, r 372], #[]⟩
noncomputable def o383 : Obj := ⟨.type "builtin_function_or_method", none, .fields #[.builtin "object.__init_subclass__", r 372], #[]⟩
noncomputable def t3 (P : Params) : BT := n (o0 P) (n (o1 P) (n (o151 P) (n o7 (n o15 (n o31 (n o66 (n o133 (l o264) z) (n o200 (l o328) z)) (n o98 (n o168 (l o296) z) (n o232 (l o360) z))) (n o50 (n o82 (n o149 (l o280) z) (n o216 (l o344) z)) (n o114 (n o184 (l o312) z) (n o248 (l o376) z)))) (n o23 (n o42 (n o74 (n (o141 P) (l o272) z) (n o208 (l o336) z)) (n o106 (n o176 (l o304) z) (n o240 (l o368) z))) (n o58 (n o90 (n o160 (l o288) z) (n o224 (l o352) z)) (n o122 (n o192 (l o320) z) (l o256))))) (n (o11 P) (n o19 (n o152 (n o70 (n o137 (l o268) z) (n o204 (l o332) z)) (n o102 (n o172 (l o300) z) (n o236 (l o364) z))) (n o54 (n o86 (n (o156 P) (l o284) z) (n o220 (l o348) z)) (n o126 (n o188 (l o316) z) (n o252 (l (o380 P)) z)))) (n o27 (n o46 (n o78 (n o145 (l o276) z) (n o212 (l o340) z)) (n o110 (n o180 (l o308) z) (n o244 (l o372) z))) (n o62 (n o94 (n o164 (l o292) z) (n o228 (l o356) z)) (n (o129 P) (n o196 (l o324) z) (l o260)))))) (n o5 (n o9 (n o17 (n o33 (n o68 (n (o135 P) (l o266) z) (n o202 (l o330) z)) (n o100 (n o170 (l o298) z) (n o234 (l o362) z))) (n o52 (n o84 (n o154 (l o282) z) (n o218 (l o346) z)) (n o116 (n o186 (l o314) z) (n o250 (l o378) z)))) (n o25 (n o44 (n o76 (n o143 (l o274) z) (n o210 (l o338) z)) (n o108 (n o178 (l o306) z) (n o242 (l o370) z))) (n o60 (n o92 (n o162 (l o290) z) (n o226 (l o354) z)) (n o127 (n o194 (l o322) z) (l o258))))) (n (o13 P) (n (o21 P) (n o37 (n o72 (n o139 (l o270) z) (n o206 (l o334) z)) (n (o104 P) (n o174 (l o302) z) (n o238 (l o366) z))) (n o56 (n o88 (n o158 (l o286) z) (n o222 (l o350) z)) (n o120 (n o190 (l o318) z) (n o254 (l o382) z)))) (n (o29 P) (n (o48 P) (n o80 (n (o147 P) (l o278) z) (n o214 (l o342) z)) (n o112 (n o182 (l o310) z) (n o246 (l o374) z))) (n o64 (n o96 (n o166 (l o294) z) (n o230 (l o358) z)) (n o131 (n o198 (l o326) z) (l o262))))))) (n (o38 P) (n o4 (n o8 (n o16 (n (o32 P) (n o67 (n o134 (l o265) z) (n o201 (l o329) z)) (n o99 (n o169 (l o297) z) (n o233 (l o361) z))) (n o51 (n o83 (n o150 (l o281) z) (n o217 (l o345) z)) (n o115 (n o185 (l o313) z) (n o249 (l o377) z)))) (n o24 (n o43 (n o75 (n o142 (l o273) z) (n o209 (l o337) z)) (n o107 (n o177 (l o305) z) (n o241 (l o369) z))) (n o59 (n (o91 P) (n o161 (l o289) z) (n o225 (l o353) z)) (n o123 (n o193 (l o321) z) (l o257))))) (n o12 (n (o20 P) (n o36 (n o71 (n o138 (l o269) z) (n o205 (l o333) z)) (n o103 (n o173 (l o301) z) (n o237 (l o365) z))) (n o55 (n o87 (n o157 (l o285) z) (n o221 (l o349) z)) (n o119 (n o189 (l o317) z) (n o253 (l o381) z)))) (n o28 (n o47 (n o79 (n o146 (l o277) z) (n o213 (l o341) z)) (n o111 (n o181 (l o309) z) (n o245 (l o373) z))) (n o63 (n o95 (n o165 (l o293) z) (n o229 (l o357) z)) (n o130 (n o197 (l o325) z) (l o261)))))) (n o6 (n o10 (n o18 (n o34 (n o69 (n o153 (l o267) z) (n o203 (l o331) z)) (n o101 (n o171 (l o299) z) (n o235 (l o363) z))) (n o53 (n o85 (n o155 (l o283) z) (n o219 (l o347) z)) (n (o117 P) (n o187 (l o315) z) (n o251 (l o379) z)))) (n o26 (n o45 (n o77 (n o144 (l o275) z) (n o211 (l o339) z)) (n o109 (n o179 (l o307) z) (n o243 (l o371) z))) (n o61 (n o93 (n o163 (l o291) z) (n o227 (l o355) z)) (n o128 (n o195 (l o323) z) (l o259))))) (n o14 (n o22 (n o41 (n o73 (n o140 (l o271) z) (n o207 (l o335) z)) (n o105 (n o175 (l o303) z) (n o239 (l o367) z))) (n o57 (n o89 (n o159 (l o287) z) (n o223 (l o351) z)) (n o121 (n o191 (l o319) z) (n o255 (l o383) z)))) (n o30 (n o49 (n o81 (n o148 (l o279) z) (n o215 (l o343) z)) (n o113 (n o183 (l o311) z) (n o247 (l o375) z))) (n o65 (n (o97 P) (n o167 (l o295) z) (n o231 (l o359) z)) (n o132 (n o199 (l o327) z) (l o263)))))))
noncomputable def o384 (P : Params) : Obj := D [E P "__name__" 165 (vs "io" 403), E P "__doc__" 166 .none, E P "__package__" 167 .none, E P "__loader__" 168 (.builtin "__main__.__loader__#opaque"), E P "__spec__" 169 .none, E P "__annotations__" 170 (r 6), E P "__builtins__" 171 (r 4), E P "__file__" 173 (vs "/claim/cut.py" 172), E P "__cached__" 174 .none, E P "_sre" 275 (r 12), E P "deque" 317 (.type "collections.deque"), E P "_wall" 330 (r 44), E P "_deduplicate" 341 (r 52), E P "_deduplicate_unhashable" 350 (r 59), E P "_compare_args_orderless" 362 (r 66), E P "_twin_re_1" 402 (r 71), E P "_whence" 412 (r 78), E P "_index" 420 (r 85), E P "UnsupportedOperation" 442 (r 95), E P "IOBase" 474 (r 115), E P "BufferedIOBase" 492 (r 130), E P "TextIOBase" 510 (r 142), E P "BytesIO" 772 (r 372), E P "StringIO" 1059 (r 619)] 24
noncomputable def o385 : Obj := Z [vi 3 0, vi 0 0, r 43, vi 7 0, vi 0 0, r 51, vi 14 0, vi 0 0, r 58, vi 20 0, vi 0 0, r 65, vi 32 0, vi 0 0, r 77, vi 37 0, vi 0 0, r 84, vi 44 0, vi 0 0, r 91, vi 46 0, vi 0 0, r 104, vi 53 0, vi 0 0, r 126, vi 55 0, vi 0 0, r 138, vi 57 0, vi 0 0, r 150, vi 227 0, vi 0 0, r 380]
noncomputable def o386 : Obj := ⟨.type "type", none, .cls ⟨(S "TextIOBase"), [r 115], [r 142, r 115, .type "object"], 141, (S "TextIOBase"), true, [], [r 619], false, none, false⟩, #[some (r 133), none, some (vs "TextIOBase" 493), some (vs "TextIOBase" 501), some .none, some (.bool true)]⟩
noncomputable def o387 : Obj := T [r 142]
noncomputable def o388 : Obj := ⟨.type "builtin_function_or_method", none, .fields #[.builtin "type.__prepare__", .type "type"], #[]⟩
noncomputable def o389 (P : Params) : Obj := D [E P "__module__" 780 (vs "_io" 785), E P "__qualname__" 782 (vs "StringIO" 781), E P "__firstlineno__" 784 (vi 227 783), E P "__init__" 797 (r 389), E P "_StringIO__translated" 806 (r 396), E P "_StringIO__check" 813 (r 403), E P "_StringIO__check_dot" 820 (r 410), E P "_StringIO__line" 835 (r 417), E P "closed" 843 (r 425), E P "line_buffering" 851 (r 433), E P "newlines" 859 (r 441), E P "encoding" 867 (r 449), E P "errors" 875 (r 457), E P "close" 882 (r 464), E P "__enter__" 889 (r 471), E P "__exit__" 897 (r 478), E P "readable" 904 (r 485), E P "writable" 911 (r 492), E P "seekable" 918 (r 499), E P "isatty" 925 (r 506), E P "flush" 932 (r 513), E P "fileno" 939 (r 520), E P "detach" 946 (r 527), E P "getvalue" 953 (r 534), E P "tell" 960 (r 541), E P "seek" 970 (r 549), E P "truncate" 978 (r 557), E P "read" 990 (r 565), E P "readline" 1000 (r 573), E P "readlines" 1010 (r 581), E P "__iter__" 1017 (r 588), E P "__next__" 1025 (r 595), E P "write" 1037 (r 602), E P "writelines" 1045 (r 609), E P "__repr__" 1052 (r 616), E P "__static_attributes__" 1056 (r 617)] 36
noncomputable def o390 : Obj := T []
noncomputable def o391 : Obj := Z [vi 230 0, vi 4 0, r 388, vi 243 0, vi 4 0, r 395, vi 251 0, vi 4 0, r 402, vi 255 0, vi 4 0, r 409, vi 259 0, vi 4 0, r 416, vi 292 0, vi 4 0, r 423, vi 296 0, vi 4 0, r 431, vi 300 0, vi 4 0, r 439, vi 304 0, vi 4 0, r 447, vi 308 0, vi 4 0, r 455, vi 311 0, vi 4 0, r 463, vi 314 0, vi 4 0, r 470, vi 318 0, vi 4 0, r 477, vi 321 0, vi 4 0, r 484, vi 325 0, vi 4 0, r 491, vi 329 0, vi 4 0, r 498, vi 333 0, vi 4 0, r 505, vi 337 0, vi 4 0, r 512, vi 340 0, vi 4 0, r 519, vi 343 0, vi 4 0, r 526, vi 346 0, vi 4 0, r 533, vi 349 0, vi 4 0, r 540, vi 353 0, vi 4 0, r 548, vi 370 0, vi 4 0, r 556, vi 373 0, vi 4 0, r 564, vi 387 0, vi 4 0, r 572, vi 394 0, vi 4 0, r 580, vi 397 0, vi 4 0, r 587, vi 401 0, vi 4 0, r 594, vi 408 0, vi 4 0, r 601, vi 427 0, vi 4 0, r 608, vi 430 0, vi 4 0, r 615]
noncomputable def o392 : Obj := C [vs "StringIO" 775, vs "StringIO" 776, vs "/claim/cut.py" 777, vi 227 0, vi 0 0, vi 0 0, vi 0 0, vi 0 0, r 378, .bool false, vi 318 0, r 379, .none, .none, .none, .none, vi 778 0, vi 227 0, vs "/claim/cut.py" 779]
noncomputable def o393 : Obj := ⟨.type "frame", none, .plain, #[some (r 380), some (r 3), some (r 377), none, some (vs "io" 403), none, some (r 0)]⟩
noncomputable def o394 : Obj := T [vs "" 787, vs "\n" 788]
noncomputable def o395 : Obj := T []
noncomputable def o396 : Obj := Z []
noncomputable def o397 : Obj := T [vs "self" 792, vs "initial_value" 793, vs "newline" 794]
noncomputable def o398 : Obj := T []
noncomputable def o399 : Obj := G (F (c 16 1) "StringIO.__init__" 0 [] .none .none .none .none none .none .none)
noncomputable def o400 : Obj := C [vs "__init__" 789, vs "StringIO.__init__" 790, vs "/claim/cut.py" 791, vi 230 0, vi 3 0, vi 0 0, vi 0 0, vi 3 0, r 383, .bool true, vi 318 0, r 384, .none, r 385, r 386, r 387, vi 795 0, vi 230 0, vs "/claim/cut.py" 796]
noncomputable def o401 : Obj := H (F (c 16 1) "StringIO.__init__" 3 [] (r 382) .none .none (vs "io" 403) none (r 388) .none)
noncomputable def o402 : Obj := T []
noncomputable def o403 : Obj := Z []
noncomputable def o404 : Obj := T [vs "self" 801, vs "s" 802, vs "newline" 803]
noncomputable def o405 : Obj := T []
noncomputable def o406 : Obj := G (F (c 16 2) "StringIO.__translated" 0 [] .none .none .none .none none .none .none)
noncomputable def o407 : Obj := C [vs "__translated" 798, vs "StringIO.__translated" 799, vs "/claim/cut.py" 800, vi 243 0, vi 2 0, vi 0 0, vi 0 0, vi 3 0, r 390, .bool true, vi 318 0, r 391, .none, r 392, r 393, r 394, vi 804 0, vi 243 0, vs "/claim/cut.py" 805]
noncomputable def o408 : Obj := H (F (c 16 2) "StringIO.__translated" 3 [] .none .none .none (vs "io" 403) none (r 395) .none)
noncomputable def o409 : Obj := T []
noncomputable def o410 : Obj := Z []
noncomputable def o411 : Obj := T [vs "self" 810]
noncomputable def o412 : Obj := T []
noncomputable def o413 : Obj := G (F (c 16 3) "StringIO.__check" 0 [] .none .none .none .none none .none .none)
noncomputable def o414 : Obj := C [vs "__check" 807, vs "StringIO.__check" 808, vs "/claim/cut.py" 809, vi 251 0, vi 1 0, vi 0 0, vi 0 0, vi 3 0, r 397, .bool true, vi 318 0, r 398, .none, r 399, r 400, r 401, vi 811 0, vi 251 0, vs "/claim/cut.py" 812]
noncomputable def o415 : Obj := H (F (c 16 3) "StringIO.__check" 3 [] .none .none .none (vs "io" 403) none (r 402) .none)
noncomputable def o416 : Obj := T []
noncomputable def o417 : Obj := Z []
noncomputable def o418 : Obj := T [vs "self" 817]
noncomputable def o419 : Obj := T []
noncomputable def o420 : Obj := G (F (c 16 4) "StringIO.__check_dot" 0 [] .none .none .none .none none .none .none)
noncomputable def o421 : Obj := C [vs "__check_dot" 814, vs "StringIO.__check_dot" 815, vs "/claim/cut.py" 816, vi 255 0, vi 1 0, vi 0 0, vi 0 0, vi 3 0, r 404, .bool true, vi 318 0, r 405, .none, r 406, r 407, r 408, vi 818 0, vi 255 0, vs "/claim/cut.py" 819]
noncomputable def o422 : Obj := H (F (c 16 4) "StringIO.__check_dot" 3 [] .none .none .none (vs "io" 403) none (r 409) .none)
noncomputable def o423 : Obj := T []
noncomputable def o424 : Obj := Z []
noncomputable def o425 : Obj := T [vs "self" 824, vs "limit" 825, vs "start" 826, vs "stop" 827, vs "cut" 828, vs "newline" 829, vs "i" 830, vs "j" 831, vs "end" 832]
noncomputable def o426 : Obj := T []
noncomputable def o427 : Obj := G (F (c 16 5) "StringIO.__line" 0 [] .none .none .none .none none .none .none)
noncomputable def o428 : Obj := C [vs "__line" 821, vs "StringIO.__line" 822, vs "/claim/cut.py" 823, vi 259 0, vi 2 0, vi 0 0, vi 0 0, vi 3 0, r 411, .bool true, vi 318 0, r 412, .none, r 413, r 414, r 415, vi 833 0, vi 259 0, vs "/claim/cut.py" 834]
noncomputable def o429 : Obj := H (F (c 16 5) "StringIO.__line" 3 [] .none .none .none (vs "io" 403) none (r 416) .none)
noncomputable def o430 : Obj := T []
noncomputable def o431 : Obj := Z []
noncomputable def o432 : Obj := T [vs "self" 839]
noncomputable def o433 : Obj := T []
noncomputable def o434 : Obj := G (F (c 16 6) "StringIO.closed" 0 [] .none .none .none .none none .none .none)
noncomputable def o435 : Obj := C [vs "closed" 836, vs "StringIO.closed" 837, vs "/claim/cut.py" 838, vi 291 0, vi 1 0, vi 0 0, vi 0 0, vi 3 0, r 418, .bool true, vi 318 0, r 419, .none, r 420, r 421, r 422, vi 840 0, vi 291 0, vs "/claim/cut.py" 841]
noncomputable def o436 : Obj := H (F (c 16 6) "StringIO.closed" 3 [] .none .none .none (vs "io" 403) none (r 423) .none)
noncomputable def o437 : Obj := ⟨.type "property", none, .fields #[r 424, .none, .none, .none, vs "closed" 843, .bool false], #[]⟩
noncomputable def o438 : Obj := T []
noncomputable def o439 : Obj := Z []
noncomputable def o440 : Obj := T [vs "self" 847]
noncomputable def o441 : Obj := T []
noncomputable def o442 : Obj := G (F (c 16 7) "StringIO.line_buffering" 0 [] .none .none .none .none none .none .none)
noncomputable def o443 : Obj := C [vs "line_buffering" 844, vs "StringIO.line_buffering" 845, vs "/claim/cut.py" 846, vi 295 0, vi 1 0, vi 0 0, vi 0 0, vi 3 0, r 426, .bool true, vi 318 0, r 427, .none, r 428, r 429, r 430, vi 848 0, vi 295 0, vs "/claim/cut.py" 849]
noncomputable def o444 : Obj := H (F (c 16 7) "StringIO.line_buffering" 3 [] .none .none .none (vs "io" 403) none (r 431) .none)
noncomputable def o445 : Obj := ⟨.type "property", none, .fields #[r 432, .none, .none, .none, vs "line_buffering" 851, .bool false], #[]⟩
noncomputable def o446 : Obj := T []
noncomputable def o447 : Obj := Z []
noncomputable def o448 : Obj := T [vs "self" 855]
noncomputable def o449 : Obj := T []
noncomputable def o450 : Obj := G (F (c 16 8) "StringIO.newlines" 0 [] .none .none .none .none none .none .none)
noncomputable def o451 : Obj := C [vs "newlines" 852, vs "StringIO.newlines" 853, vs "/claim/cut.py" 854, vi 299 0, vi 1 0, vi 0 0, vi 0 0, vi 3 0, r 434, .bool true, vi 318 0, r 435, .none, r 436, r 437, r 438, vi 856 0, vi 299 0, vs "/claim/cut.py" 857]
noncomputable def o452 : Obj := H (F (c 16 8) "StringIO.newlines" 3 [] .none .none .none (vs "io" 403) none (r 439) .none)
noncomputable def o453 : Obj := ⟨.type "property", none, .fields #[r 440, .none, .none, .none, vs "newlines" 859, .bool false], #[]⟩
noncomputable def o454 : Obj := T []
noncomputable def o455 : Obj := Z []
noncomputable def o456 : Obj := T [vs "self" 863]
noncomputable def o457 : Obj := T []
noncomputable def o458 : Obj := G (F (c 16 9) "StringIO.encoding" 0 [] .none .none .none .none none .none .none)
noncomputable def o459 : Obj := C [vs "encoding" 860, vs "StringIO.encoding" 861, vs "/claim/cut.py" 862, vi 303 0, vi 1 0, vi 0 0, vi 0 0, vi 3 0, r 442, .bool true, vi 318 0, r 443, .none, r 444, r 445, r 446, vi 864 0, vi 303 0, vs "/claim/cut.py" 865]
noncomputable def o460 : Obj := H (F (c 16 9) "StringIO.encoding" 3 [] .none .none .none (vs "io" 403) none (r 447) .none)
noncomputable def o461 : Obj := ⟨.type "property", none, .fields #[r 448, .none, .none, .none, vs "encoding" 867, .bool false], #[]⟩
noncomputable def o462 : Obj := T []
noncomputable def o463 : Obj := Z []
noncomputable def o464 : Obj := T [vs "self" 871]
noncomputable def o465 : Obj := T []
noncomputable def o466 : Obj := G (F (c 16 10) "StringIO.errors" 0 [] .none .none .none .none none .none .none)
noncomputable def o467 : Obj := C [vs "errors" 868, vs "StringIO.errors" 869, vs "/claim/cut.py" 870, vi 307 0, vi 1 0, vi 0 0, vi 0 0, vi 3 0, r 450, .bool true, vi 318 0, r 451, .none, r 452, r 453, r 454, vi 872 0, vi 307 0, vs "/claim/cut.py" 873]
noncomputable def o468 : Obj := H (F (c 16 10) "StringIO.errors" 3 [] .none .none .none (vs "io" 403) none (r 455) .none)
noncomputable def o469 : Obj := ⟨.type "property", none, .fields #[r 456, .none, .none, .none, vs "errors" 875, .bool false], #[]⟩
noncomputable def o470 : Obj := T []
noncomputable def o471 : Obj := Z []
noncomputable def o472 : Obj := T [vs "self" 879]
noncomputable def o473 : Obj := T []
noncomputable def o474 : Obj := G (F (c 16 11) "StringIO.close" 0 [] .none .none .none .none none .none .none)
noncomputable def o475 : Obj := C [vs "close" 876, vs "StringIO.close" 877, vs "/claim/cut.py" 878, vi 311 0, vi 1 0, vi 0 0, vi 0 0, vi 3 0, r 458, .bool true, vi 318 0, r 459, .none, r 460, r 461, r 462, vi 880 0, vi 311 0, vs "/claim/cut.py" 881]
noncomputable def o476 : Obj := H (F (c 16 11) "StringIO.close" 3 [] .none .none .none (vs "io" 403) none (r 463) .none)
noncomputable def o477 : Obj := T []
noncomputable def o478 : Obj := Z []
noncomputable def o479 : Obj := T [vs "self" 886]
noncomputable def o480 : Obj := T []
noncomputable def o481 : Obj := G (F (c 16 12) "StringIO.__enter__" 0 [] .none .none .none .none none .none .none)
noncomputable def o482 : Obj := C [vs "__enter__" 883, vs "StringIO.__enter__" 884, vs "/claim/cut.py" 885, vi 314 0, vi 1 0, vi 0 0, vi 0 0, vi 3 0, r 465, .bool true, vi 318 0, r 466, .none, r 467, r 468, r 469, vi 887 0, vi 314 0, vs "/claim/cut.py" 888]
noncomputable def o483 : Obj := H (F (c 16 12) "StringIO.__enter__" 3 [] .none .none .none (vs "io" 403) none (r 470) .none)
noncomputable def o484 : Obj := T []
noncomputable def o485 : Obj := Z []
noncomputable def o486 : Obj := T [vs "self" 893, vs "args" 894]
noncomputable def o487 : Obj := T []
noncomputable def o488 : Obj := G (F (c 16 13) "StringIO.__exit__" 0 [] .none .none .none .none none .none .none)
noncomputable def o489 : Obj := C [vs "__exit__" 890, vs "StringIO.__exit__" 891, vs "/claim/cut.py" 892, vi 318 0, vi 1 0, vi 0 0, vi 0 0, vi 7 0, r 472, .bool true, vi 318 0, r 473, .none, r 474, r 475, r 476, vi 895 0, vi 318 0, vs "/claim/cut.py" 896]
noncomputable def o490 : Obj := H (F (c 16 13) "StringIO.__exit__" 3 [] .none .none .none (vs "io" 403) none (r 477) .none)
noncomputable def o491 : Obj := T []
noncomputable def o492 : Obj := Z []
noncomputable def o493 : Obj := T [vs "self" 901]
noncomputable def o494 : Obj := T []
noncomputable def o495 : Obj := G (F (c 16 14) "StringIO.readable" 0 [] .none .none .none .none none .none .none)
noncomputable def o496 : Obj := C [vs "readable" 898, vs "StringIO.readable" 899, vs "/claim/cut.py" 900, vi 321 0, vi 1 0, vi 0 0, vi 0 0, vi 3 0, r 479, .bool true, vi 318 0, r 480, .none, r 481, r 482, r 483, vi 902 0, vi 321 0, vs "/claim/cut.py" 903]
noncomputable def o497 : Obj := H (F (c 16 14) "StringIO.readable" 3 [] .none .none .none (vs "io" 403) none (r 484) .none)
noncomputable def o498 : Obj := T []
noncomputable def o499 : Obj := Z []
noncomputable def o500 : Obj := T [vs "self" 908]
noncomputable def o501 : Obj := T []
noncomputable def o502 : Obj := G (F (c 16 15) "StringIO.writable" 0 [] .none .none .none .none none .none .none)
noncomputable def o503 : Obj := C [vs "writable" 905, vs "StringIO.writable" 906, vs "/claim/cut.py" 907, vi 325 0, vi 1 0, vi 0 0, vi 0 0, vi 3 0, r 486, .bool true, vi 318 0, r 487, .none, r 488, r 489, r 490, vi 909 0, vi 325 0, vs "/claim/cut.py" 910]
noncomputable def o504 : Obj := H (F (c 16 15) "StringIO.writable" 3 [] .none .none .none (vs "io" 403) none (r 491) .none)
noncomputable def o505 : Obj := T []
noncomputable def o506 : Obj := Z []
noncomputable def o507 : Obj := T [vs "self" 915]
noncomputable def o508 : Obj := T []
noncomputable def o509 : Obj := G (F (c 16 16) "StringIO.seekable" 0 [] .none .none .none .none none .none .none)
noncomputable def o510 : Obj := C [vs "seekable" 912, vs "StringIO.seekable" 913, vs "/claim/cut.py" 914, vi 329 0, vi 1 0, vi 0 0, vi 0 0, vi 3 0, r 493, .bool true, vi 318 0, r 494, .none, r 495, r 496, r 497, vi 916 0, vi 329 0, vs "/claim/cut.py" 917]
noncomputable def o511 : Obj := H (F (c 16 16) "StringIO.seekable" 3 [] .none .none .none (vs "io" 403) none (r 498) .none)
noncomputable def o512 : Obj := T []
noncomputable def o513 : Obj := Z []
noncomputable def o514 : Obj := T [vs "self" 922]
noncomputable def o515 : Obj := T []
noncomputable def o516 : Obj := G (F (c 16 17) "StringIO.isatty" 0 [] .none .none .none .none none .none .none)
noncomputable def o517 : Obj := C [vs "isatty" 919, vs "StringIO.isatty" 920, vs "/claim/cut.py" 921, vi 333 0, vi 1 0, vi 0 0, vi 0 0, vi 3 0, r 500, .bool true, vi 318 0, r 501, .none, r 502, r 503, r 504, vi 923 0, vi 333 0, vs "/claim/cut.py" 924]
noncomputable def o518 : Obj := H (F (c 16 17) "StringIO.isatty" 3 [] .none .none .none (vs "io" 403) none (r 505) .none)
noncomputable def o519 : Obj := T []
noncomputable def o520 : Obj := Z []
noncomputable def o521 : Obj := T [vs "self" 929]
noncomputable def o522 : Obj := T []
noncomputable def o523 : Obj := G (F (c 16 18) "StringIO.flush" 0 [] .none .none .none .none none .none .none)
noncomputable def o524 : Obj := C [vs "flush" 926, vs "StringIO.flush" 927, vs "/claim/cut.py" 928, vi 337 0, vi 1 0, vi 0 0, vi 0 0, vi 3 0, r 507, .bool true, vi 318 0, r 508, .none, r 509, r 510, r 511, vi 930 0, vi 337 0, vs "/claim/cut.py" 931]
noncomputable def o525 : Obj := H (F (c 16 18) "StringIO.flush" 3 [] .none .none .none (vs "io" 403) none (r 512) .none)
noncomputable def o526 : Obj := T []
noncomputable def o527 : Obj := Z []
noncomputable def o528 : Obj := T [vs "self" 936]
noncomputable def o529 : Obj := T []
noncomputable def o530 : Obj := G (F (c 16 19) "StringIO.fileno" 0 [] .none .none .none .none none .none .none)
noncomputable def o531 : Obj := C [vs "fileno" 933, vs "StringIO.fileno" 934, vs "/claim/cut.py" 935, vi 340 0, vi 1 0, vi 0 0, vi 0 0, vi 3 0, r 514, .bool true, vi 318 0, r 515, .none, r 516, r 517, r 518, vi 937 0, vi 340 0, vs "/claim/cut.py" 938]
noncomputable def o532 : Obj := H (F (c 16 19) "StringIO.fileno" 3 [] .none .none .none (vs "io" 403) none (r 519) .none)
noncomputable def o533 : Obj := T []
noncomputable def o534 : Obj := Z []
noncomputable def o535 : Obj := T [vs "self" 943]
noncomputable def o536 : Obj := T []
noncomputable def o537 : Obj := G (F (c 16 20) "StringIO.detach" 0 [] .none .none .none .none none .none .none)
noncomputable def o538 : Obj := C [vs "detach" 940, vs "StringIO.detach" 941, vs "/claim/cut.py" 942, vi 343 0, vi 1 0, vi 0 0, vi 0 0, vi 3 0, r 521, .bool true, vi 318 0, r 522, .none, r 523, r 524, r 525, vi 944 0, vi 343 0, vs "/claim/cut.py" 945]
noncomputable def o539 : Obj := H (F (c 16 20) "StringIO.detach" 3 [] .none .none .none (vs "io" 403) none (r 526) .none)
noncomputable def o540 : Obj := T []
noncomputable def o541 : Obj := Z []
noncomputable def o542 : Obj := T [vs "self" 950]
noncomputable def o543 : Obj := T []
noncomputable def o544 : Obj := G (F (c 16 21) "StringIO.getvalue" 0 [] .none .none .none .none none .none .none)
noncomputable def o545 : Obj := C [vs "getvalue" 947, vs "StringIO.getvalue" 948, vs "/claim/cut.py" 949, vi 346 0, vi 1 0, vi 0 0, vi 0 0, vi 3 0, r 528, .bool true, vi 318 0, r 529, .none, r 530, r 531, r 532, vi 951 0, vi 346 0, vs "/claim/cut.py" 952]
noncomputable def o546 : Obj := H (F (c 16 21) "StringIO.getvalue" 3 [] .none .none .none (vs "io" 403) none (r 533) .none)
noncomputable def o547 : Obj := T []
noncomputable def o548 : Obj := Z []
noncomputable def o549 : Obj := T [vs "self" 957]
noncomputable def o550 : Obj := T []
noncomputable def o551 : Obj := G (F (c 16 22) "StringIO.tell" 0 [] .none .none .none .none none .none .none)
noncomputable def o552 : Obj := C [vs "tell" 954, vs "StringIO.tell" 955, vs "/claim/cut.py" 956, vi 349 0, vi 1 0, vi 0 0, vi 0 0, vi 3 0, r 535, .bool true, vi 318 0, r 536, .none, r 537, r 538, r 539, vi 958 0, vi 349 0, vs "/claim/cut.py" 959]
noncomputable def o553 : Obj := H (F (c 16 22) "StringIO.tell" 3 [] .none .none .none (vs "io" 403) none (r 540) .none)
noncomputable def o554 : Obj := T [vi 0 961]
noncomputable def o555 : Obj := T []
noncomputable def o556 : Obj := Z []
noncomputable def o557 : Obj := T [vs "self" 965, vs "pos" 966, vs "whence" 967]
noncomputable def o558 : Obj := T []
noncomputable def o559 : Obj := G (F (c 16 23) "StringIO.seek" 0 [] .none .none .none .none none .none .none)
noncomputable def o560 : Obj := C [vs "seek" 962, vs "StringIO.seek" 963, vs "/claim/cut.py" 964, vi 353 0, vi 3 0, vi 3 0, vi 0 0, vi 3 0, r 543, .bool true, vi 318 0, r 544, .none, r 545, r 546, r 547, vi 968 0, vi 353 0, vs "/claim/cut.py" 969]
noncomputable def o561 : Obj := H (F (c 16 23) "StringIO.seek" 3 [] (r 542) .none .none (vs "io" 403) none (r 548) .none)
noncomputable def o562 : Obj := T [.none]
noncomputable def o563 : Obj := T []
noncomputable def o564 : Obj := Z []
noncomputable def o565 : Obj := T [vs "self" 974, vs "pos" 975]
noncomputable def o566 : Obj := T []
noncomputable def o567 : Obj := G (F (c 16 24) "StringIO.truncate" 0 [] .none .none .none .none none .none .none)
noncomputable def o568 : Obj := C [vs "truncate" 971, vs "StringIO.truncate" 972, vs "/claim/cut.py" 973, vi 370 0, vi 2 0, vi 2 0, vi 0 0, vi 3 0, r 551, .bool true, vi 318 0, r 552, .none, r 553, r 554, r 555, vi 976 0, vi 370 0, vs "/claim/cut.py" 977]
noncomputable def o569 : Obj := H (F (c 16 24) "StringIO.truncate" 3 [] (r 550) .none .none (vs "io" 403) none (r 556) .none)
noncomputable def o570 : Obj := T [vi (-1) 980]
noncomputable def o571 : Obj := T []
noncomputable def o572 : Obj := Z []
noncomputable def o573 : Obj := T [vs "self" 984, vs "size" 985, vs "start" 986, vs "stop" 987]
noncomputable def o574 : Obj := T []
noncomputable def o575 : Obj := G (F (c 16 25) "StringIO.read" 0 [] .none .none .none .none none .none .none)
noncomputable def o576 : Obj := C [vs "read" 981, vs "StringIO.read" 982, vs "/claim/cut.py" 983, vi 373 0, vi 2 0, vi 2 0, vi 0 0, vi 3 0, r 559, .bool true, vi 318 0, r 560, .none, r 561, r 562, r 563, vi 988 0, vi 373 0, vs "/claim/cut.py" 989]
noncomputable def o577 : Obj := H (F (c 16 25) "StringIO.read" 3 [] (r 558) .none .none (vs "io" 403) none (r 564) .none)
noncomputable def o578 : Obj := T [vi (-1) 992]
noncomputable def o579 : Obj := T []
noncomputable def o580 : Obj := Z []
noncomputable def o581 : Obj := T [vs "self" 996, vs "size" 997]
noncomputable def o582 : Obj := T []
noncomputable def o583 : Obj := G (F (c 16 26) "StringIO.readline" 0 [] .none .none .none .none none .none .none)
noncomputable def o584 : Obj := C [vs "readline" 993, vs "StringIO.readline" 994, vs "/claim/cut.py" 995, vi 387 0, vi 2 0, vi 2 0, vi 0 0, vi 3 0, r 567, .bool true, vi 318 0, r 568, .none, r 569, r 570, r 571, vi 998 0, vi 387 0, vs "/claim/cut.py" 999]
noncomputable def o585 : Obj := H (F (c 16 26) "StringIO.readline" 3 [] (r 566) .none .none (vs "io" 403) none (r 572) .none)
noncomputable def o586 : Obj := T [vi (-1) 1002]
noncomputable def o587 : Obj := T []
noncomputable def o588 : Obj := Z []
noncomputable def o589 : Obj := T [vs "self" 1006, vs "hint" 1007]
noncomputable def o590 : Obj := T []
noncomputable def o591 : Obj := G (F (c 16 27) "StringIO.readlines" 0 [] .none .none .none .none none .none .none)
noncomputable def o592 : Obj := C [vs "readlines" 1003, vs "StringIO.readlines" 1004, vs "/claim/cut.py" 1005, vi 394 0, vi 2 0, vi 2 0, vi 0 0, vi 3 0, r 575, .bool true, vi 318 0, r 576, .none, r 577, r 578, r 579, vi 1008 0, vi 394 0, vs "/claim/cut.py" 1009]
noncomputable def o593 : Obj := H (F (c 16 27) "StringIO.readlines" 3 [] (r 574) .none .none (vs "io" 403) none (r 580) .none)
noncomputable def o594 : Obj := T []
noncomputable def o595 : Obj := Z []
noncomputable def o596 : Obj := T [vs "self" 1014]
noncomputable def o597 : Obj := T []
noncomputable def o598 : Obj := G (F (c 16 28) "StringIO.__iter__" 0 [] .none .none .none .none none .none .none)
noncomputable def o599 : Obj := C [vs "__iter__" 1011, vs "StringIO.__iter__" 1012, vs "/claim/cut.py" 1013, vi 397 0, vi 1 0, vi 0 0, vi 0 0, vi 3 0, r 582, .bool true, vi 318 0, r 583, .none, r 584, r 585, r 586, vi 1015 0, vi 397 0, vs "/claim/cut.py" 1016]
noncomputable def o600 : Obj := H (F (c 16 28) "StringIO.__iter__" 3 [] .none .none .none (vs "io" 403) none (r 587) .none)
noncomputable def o601 : Obj := T []
noncomputable def o602 : Obj := Z []
noncomputable def o603 : Obj := T [vs "self" 1021, vs "line" 1022]
noncomputable def o604 : Obj := T []
noncomputable def o605 : Obj := G (F (c 16 29) "StringIO.__next__" 0 [] .none .none .none .none none .none .none)
noncomputable def o606 : Obj := C [vs "__next__" 1018, vs "StringIO.__next__" 1019, vs "/claim/cut.py" 1020, vi 401 0, vi 1 0, vi 0 0, vi 0 0, vi 3 0, r 589, .bool true, vi 318 0, r 590, .none, r 591, r 592, r 593, vi 1023 0, vi 401 0, vs "/claim/cut.py" 1024]
noncomputable def o607 : Obj := H (F (c 16 29) "StringIO.__next__" 3 [] .none .none .none (vs "io" 403) none (r 594) .none)
noncomputable def o608 : Obj := T []
noncomputable def o609 : Obj := Z []
noncomputable def o610 : Obj := T [vs "self" 1029, vs "s" 1030, vs "n" 1031, vs "m" 1032, vs "start" 1033, vs "buf" 1034]
noncomputable def o611 : Obj := T []
noncomputable def o612 : Obj := G (F (c 16 30) "StringIO.write" 0 [] .none .none .none .none none .none .none)
noncomputable def o613 : Obj := C [vs "write" 1026, vs "StringIO.write" 1027, vs "/claim/cut.py" 1028, vi 408 0, vi 2 0, vi 2 0, vi 0 0, vi 3 0, r 596, .bool true, vi 318 0, r 597, .none, r 598, r 599, r 600, vi 1035 0, vi 408 0, vs "/claim/cut.py" 1036]
noncomputable def o614 : Obj := H (F (c 16 30) "StringIO.write" 3 [] .none .none .none (vs "io" 403) none (r 601) .none)
noncomputable def o615 : Obj := T []
noncomputable def o616 : Obj := Z []
noncomputable def o617 : Obj := T [vs "self" 1041, vs "lines" 1042]
noncomputable def o618 : Obj := T []
noncomputable def o619 : Obj := G (F (c 16 31) "StringIO.writelines" 0 [] .none .none .none .none none .none .none)
noncomputable def o620 : Obj := C [vs "writelines" 1038, vs "StringIO.writelines" 1039, vs "/claim/cut.py" 1040, vi 427 0, vi 2 0, vi 2 0, vi 0 0, vi 3 0, r 603, .bool true, vi 318 0, r 604, .none, r 605, r 606, r 607, vi 1043 0, vi 427 0, vs "/claim/cut.py" 1044]
noncomputable def o621 : Obj := H (F (c 16 31) "StringIO.writelines" 3 [] .none .none .none (vs "io" 403) none (r 608) .none)
noncomputable def o622 : Obj := T []
noncomputable def o623 : Obj := Z []
noncomputable def o624 : Obj := T [vs "self" 1049]
noncomputable def o625 : Obj := T []
noncomputable def o626 : Obj := G (F (c 16 32) "StringIO.__repr__" 0 [] .none .none .none .none none .none .none)
noncomputable def o627 : Obj := C [vs "__repr__" 1046, vs "StringIO.__repr__" 1047, vs "/claim/cut.py" 1048, vi 430 0, vi 1 0, vi 0 0, vi 0 0, vi 3 0, r 610, .bool true, vi 318 0, r 611, .none, r 612, r 613, r 614, vi 1050 0, vi 430 0, vs "/claim/cut.py" 1051]
noncomputable def o628 : Obj := H (F (c 16 32) "StringIO.__repr__" 3 [] .none .none .none (vs "io" 403) none (r 615) .none)
noncomputable def o629 : Obj := T [vs "__buf" 1053, vs "__newline" 1054, vs "__pos" 1055]
noncomputable def o630 (P : Params) : Obj := D [E P "__module__" 780 (vs "_io" 785), E P "__firstlineno__" 784 (vi 227 783), E P "__init__" 797 (r 389), E P "_StringIO__translated" 806 (r 396), E P "_StringIO__check" 813 (r 403), E P "_StringIO__check_dot" 820 (r 410), E P "_StringIO__line" 835 (r 417), E P "closed" 843 (r 425), E P "line_buffering" 851 (r 433), E P "newlines" 859 (r 441), E P "encoding" 867 (r 449), E P "errors" 875 (r 457), E P "close" 882 (r 464), E P "__enter__" 889 (r 471), E P "__exit__" 897 (r 478), E P "readable" 904 (r 485), E P "writable" 911 (r 492), E P "seekable" 918 (r 499), E P "isatty" 925 (r 506), E P "flush" 932 (r 513), E P "fileno" 939 (r 520), E P "detach" 946 (r 527), E P "getvalue" 953 (r 534), E P "tell" 960 (r 541), E P "seek" 970 (r 549), E P "truncate" 978 (r 557), E P "read" 990 (r 565), E P "readline" 1000 (r 573), E P "readlines" 1010 (r 581), E P "__iter__" 1017 (r 588), E P "__next__" 1025 (r 595), E P "write" 1037 (r 602), E P "writelines" 1045 (r 609), E P "__repr__" 1052 (r 616), E P "__static_attributes__" 1056 (r 617), E P "__doc__" 1057 .none] 2
noncomputable def o631 : Obj := ⟨.type "type", none, .cls ⟨(S "StringIO"), [r 142], [r 619, r 142, r 115, .type "object"], 618, (S "StringIO"), true, [], [], false, none, false⟩, #[some (r 375), none, some (vs "StringIO" 773), some (vs "StringIO" 781), some .none, some (.bool true)]⟩
noncomputable def o632 : Obj := ⟨.type "super", none, .fields #[r 619, r 619, r 619], #[]⟩
noncomputable def o633 : Obj := ⟨.type "builtin_function_or_method", none, .fields #[.builtin "object.__init_subclass__", r 619], #[]⟩
noncomputable def t4 (P : Params) : BT := n (o0 P) (n (o1 P) (n (o384 P) (n o7 (n o15 (n o31 (n o66 (n o133 (n o264 (l o523) z) (l o395)) (n o200 (n o328 (l o587) z) (l o459))) (n o98 (n o168 (n o296 (l o555) z) (l o427)) (n o232 (n o360 (l o619) z) (l o491)))) (n o50 (n o82 (n o149 (n o280 (l o539) z) (l o411)) (n o216 (n o344 (l o603) z) (l o475))) (n o114 (n o184 (n o312 (l o571) z) (l o443)) (n o248 (l o376) (l o507))))) (n o23 (n o42 (n o74 (n (o141 P) (n o272 (l o531) z) (l o403)) (n o208 (n o336 (l o595) z) (l o467))) (n o106 (n o176 (n o304 (l o563) z) (l o435)) (n o240 (n o368 (l o627) z) (l o499)))) (n o58 (n o90 (n o160 (n o288 (l o547) z) (l o419)) (n o224 (n o352 (l o611) z) (l o483))) (n o122 (n o192 (n o320 (l o579) z) (l o451)) (n o256 (l o387) (l o515)))))) (n (o11 P) (n o19 (n o385 (n o70 (n o137 (n o268 (l o527) z) (l o399)) (n o204 (n o332 (l o591) z) (l o463))) (n o102 (n o172 (n o300 (l o559) z) (l o431)) (n o236 (n o364 (l o623) z) (l o495)))) (n o54 (n o86 (n (o156 P) (n o284 (l o543) z) (l o415)) (n o220 (n o348 (l o607) z) (l o479))) (n o126 (n o188 (n o316 (l o575) z) (l o447)) (n o252 (l (o380 P)) (l o511))))) (n o27 (n o46 (n o78 (n o145 (n o276 (l o535) z) (l o407)) (n o212 (n o340 (l o599) z) (l o471))) (n o110 (n o180 (n o308 (l o567) z) (l o439)) (n o244 (n o372 (l o631) z) (l o503)))) (n o62 (n o94 (n o164 (n o292 (l o551) z) (l o423)) (n o228 (n o356 (l o615) z) (l o487))) (n (o129 P) (n o196 (n o324 (l o583) z) (l o455)) (n o260 (l o391) (l o519))))))) (n o5 (n o9 (n o17 (n o33 (n o68 (n (o135 P) (n o266 (l o525) z) (l o397)) (n o202 (n o330 (l o589) z) (l o461))) (n o100 (n o170 (n o298 (l o557) z) (l o429)) (n o234 (n o362 (l o621) z) (l o493)))) (n o52 (n o84 (n o154 (n o282 (l o541) z) (l o413)) (n o218 (n o346 (l o605) z) (l o477))) (n o116 (n o186 (n o314 (l o573) z) (l o445)) (n o250 (l o378) (l o509))))) (n o25 (n o44 (n o76 (n o143 (n o274 (l o533) z) (l o405)) (n o210 (n o338 (l o597) z) (l o469))) (n o108 (n o178 (n o306 (l o565) z) (l o437)) (n o242 (n o370 (l o629) z) (l o501)))) (n o60 (n o92 (n o162 (n o290 (l o549) z) (l o421)) (n o226 (n o354 (l o613) z) (l o485))) (n o127 (n o194 (n o322 (l o581) z) (l o453)) (n o258 (l (o389 P)) (l o517)))))) (n (o13 P) (n (o21 P) (n o37 (n o72 (n o139 (n o270 (l o529) z) (l o401)) (n o206 (n o334 (l o593) z) (l o465))) (n (o104 P) (n o174 (n o302 (l o561) z) (l o433)) (n o238 (n o366 (l o625) z) (l o497)))) (n o56 (n o88 (n o158 (n o286 (l o545) z) (l o417)) (n o222 (n o350 (l o609) z) (l o481))) (n o120 (n o190 (n o318 (l o577) z) (l o449)) (n o254 (l o382) (l o513))))) (n (o29 P) (n (o48 P) (n o80 (n (o147 P) (n o278 (l o537) z) (l o409)) (n o214 (n o342 (l o601) z) (l o473))) (n o112 (n o182 (n o310 (l o569) z) (l o441)) (n o246 (n o374 (l o633) z) (l o505)))) (n o64 (n o96 (n o166 (n o294 (l o553) z) (l o425)) (n o230 (n o358 (l o617) z) (l o489))) (n o131 (n o198 (n o326 (l o585) z) (l o457)) (n o262 (l o393) (l o521)))))))) (n (o38 P) (n o4 (n o8 (n o16 (n (o32 P) (n o67 (n o134 (n o265 (l o524) z) (l o396)) (n o201 (n o329 (l o588) z) (l o460))) (n o99 (n o169 (n o297 (l o556) z) (l o428)) (n o233 (n o361 (l o620) z) (l o492)))) (n o51 (n o83 (n o150 (n o281 (l o540) z) (l o412)) (n o217 (n o345 (l o604) z) (l o476))) (n o115 (n o185 (n o313 (l o572) z) (l o444)) (n o249 (l o377) (l o508))))) (n o24 (n o43 (n o75 (n o142 (n o273 (l o532) z) (l o404)) (n o209 (n o337 (l o596) z) (l o468))) (n o107 (n o177 (n o305 (l o564) z) (l o436)) (n o241 (n o369 (l o628) z) (l o500)))) (n o59 (n (o91 P) (n o161 (n o289 (l o548) z) (l o420)) (n o225 (n o353 (l o612) z) (l o484))) (n o123 (n o193 (n o321 (l o580) z) (l o452)) (n o257 (l o388) (l o516)))))) (n o12 (n (o20 P) (n o36 (n o71 (n o138 (n o269 (l o528) z) (l o400)) (n o205 (n o333 (l o592) z) (l o464))) (n o103 (n o173 (n o301 (l o560) z) (l o432)) (n o237 (n o365 (l o624) z) (l o496)))) (n o55 (n o87 (n o157 (n o285 (l o544) z) (l o416)) (n o221 (n o349 (l o608) z) (l o480))) (n o119 (n o189 (n o317 (l o576) z) (l o448)) (n o253 (l o381) (l o512))))) (n o28 (n o47 (n o79 (n o146 (n o277 (l o536) z) (l o408)) (n o213 (n o341 (l o600) z) (l o472))) (n o111 (n o181 (n o309 (l o568) z) (l o440)) (n o245 (n o373 (l o632) z) (l o504)))) (n o63 (n o95 (n o165 (n o293 (l o552) z) (l o424)) (n o229 (n o357 (l o616) z) (l o488))) (n o130 (n o197 (n o325 (l o584) z) (l o456)) (n o261 (l o392) (l o520))))))) (n o6 (n o10 (n o18 (n o34 (n o69 (n o153 (n o267 (l o526) z) (l o398)) (n o203 (n o331 (l o590) z) (l o462))) (n o101 (n o171 (n o299 (l o558) z) (l o430)) (n o235 (n o363 (l o622) z) (l o494)))) (n o53 (n o85 (n o155 (n o283 (l o542) z) (l o414)) (n o219 (n o347 (l o606) z) (l o478))) (n (o117 P) (n o187 (n o315 (l o574) z) (l o446)) (n o251 (l o379) (l o510))))) (n o26 (n o45 (n o77 (n o144 (n o275 (l o534) z) (l o406)) (n o211 (n o339 (l o598) z) (l o470))) (n o109 (n o179 (n o307 (l o566) z) (l o438)) (n o243 (n o371 (l (o630 P)) z) (l o502)))) (n o61 (n o93 (n o163 (n o291 (l o550) z) (l o422)) (n o227 (n o355 (l o614) z) (l o486))) (n o128 (n o195 (n o323 (l o582) z) (l o454)) (n o259 (l o390) (l o518)))))) (n o14 (n o22 (n o41 (n o73 (n o140 (n o271 (l o530) z) (l o402)) (n o207 (n o335 (l o594) z) (l o466))) (n o105 (n o175 (n o303 (l o562) z) (l o434)) (n o239 (n o367 (l o626) z) (l o498)))) (n o57 (n o89 (n o159 (n o287 (l o546) z) (l o418)) (n o223 (n o351 (l o610) z) (l o482))) (n o121 (n o191 (n o319 (l o578) z) (l o450)) (n o255 (l o383) (l o514))))) (n o30 (n o49 (n o81 (n o386 (n o279 (l o538) z) (l o410)) (n o215 (n o343 (l o602) z) (l o474))) (n o113 (n o183 (n o311 (l o570) z) (l o442)) (n o247 (l o375) (l o506)))) (n o65 (n (o97 P) (n o167 (n o295 (l o554) z) (l o426)) (n o231 (n o359 (l o618) z) (l o490))) (n o132 (n o199 (n o327 (l o586) z) (l o458)) (n o263 (l o394) (l o522))))))))
noncomputable def o634 (P : Params) : Obj := D [E P "__name__" 165 (vs "cpy313.shlex" 1119), E P "__doc__" 166 .none, E P "__package__" 167 .none, E P "__loader__" 168 (.builtin "__main__.__loader__#opaque"), E P "__spec__" 169 .none, E P "__annotations__" 170 (r 6), E P "__builtins__" 171 (r 4), E P "__file__" 173 (vs "/claim/cut.py" 172), E P "__cached__" 174 .none, E P "_sre" 275 (r 12), E P "deque" 317 (.type "collections.deque"), E P "_wall" 330 (r 44), E P "_deduplicate" 341 (r 52), E P "_deduplicate_unhashable" 350 (r 59), E P "_compare_args_orderless" 362 (r 66), E P "_twin_re_1" 402 (r 71), E P "_whence" 412 (r 78), E P "_index" 420 (r 85), E P "UnsupportedOperation" 442 (r 95), E P "IOBase" 474 (r 115), E P "BufferedIOBase" 492 (r 130), E P "TextIOBase" 510 (r 142), E P "BytesIO" 772 (r 372), E P "StringIO" 1059 (r 619), E P "_kind" 1070 (r 628), E P "_fspath" 1079 (r 635), E P "_check_arg_types" 1089 (r 642), E P "isabs" 1096 (r 649), E P "join" 1107 (r 656), E P "join_path" 1108 (r 656), E P "dirname" 1118 (r 663), E P "shlex" 1259 (r 754), E P "split" 1269 (r 766)] 33
noncomputable def o635 : Obj := Z [vi 3 0, vi 0 0, r 43, vi 7 0, vi 0 0, r 51, vi 14 0, vi 0 0, r 58, vi 20 0, vi 0 0, r 65, vi 32 0, vi 0 0, r 77, vi 37 0, vi 0 0, r 84, vi 44 0, vi 0 0, r 91, vi 46 0, vi 0 0, r 104, vi 53 0, vi 0 0, r 126, vi 55 0, vi 0 0, r 138, vi 57 0, vi 0 0, r 150, vi 227 0, vi 0 0, r 380, vi 433 0, vi 0 0, r 627, vi 454 0, vi 0 0, r 634, vi 459 0, vi 0 0, r 641, vi 464 0, vi 0 0, r 648, vi 467 0, vi 0 0, r 655, vi 488 0, vi 0 0, r 662, vi 497 0, vi 0 0, r 669, vi 749 0, vi 0 0, r 765]
noncomputable def o636 : Obj := T []
noncomputable def o637 : Obj := Z []
noncomputable def o638 : Obj := T [vs "name" 1065, vs "x" 1066, vs "t" 1067]
noncomputable def o639 : Obj := T []
noncomputable def o640 : Obj := G (F (s 18) "_kind" 0 [] .none .none .none .none none .none .none)
noncomputable def o641 : Obj := C [vs "_kind" 1062, vs "_kind" 1063, vs "/claim/cut.py" 1064, vi 433 0, vi 2 0, vi 0 0, vi 0 0, vi 3 0, r 622, .bool true, vi 318 0, r 623, .none, r 624, r 625, r 626, vi 1068 0, vi 433 0, vs "/claim/cut.py" 1069]
noncomputable def o642 : Obj := H (F (s 18) "_kind" 3 [] .none .none .none (vs "os.path" 1060) none (r 627) .none)
noncomputable def o643 : Obj := T []
noncomputable def o644 : Obj := Z []
noncomputable def o645 : Obj := T [vs "name" 1074, vs "x" 1075, vs "k" 1076]
noncomputable def o646 : Obj := T []
noncomputable def o647 : Obj := G (F (s 19) "_fspath" 0 [] .none .none .none .none none .none .none)
noncomputable def o648 : Obj := C [vs "_fspath" 1071, vs "_fspath" 1072, vs "/claim/cut.py" 1073, vi 454 0, vi 2 0, vi 0 0, vi 0 0, vi 3 0, r 629, .bool true, vi 318 0, r 630, .none, r 631, r 632, r 633, vi 1077 0, vi 454 0, vs "/claim/cut.py" 1078]
noncomputable def o649 : Obj := H (F (s 19) "_fspath" 3 [] .none .none .none (vs "os.path" 1060) none (r 634) .none)
noncomputable def o650 : Obj := T []
noncomputable def o651 : Obj := Z []
noncomputable def o652 : Obj := T [vs "funcname" 1083, vs "args" 1084, vs "s" 1085, vs "k" 1086]
noncomputable def o653 : Obj := T []
noncomputable def o654 : Obj := G (F (s 20) "_check_arg_types" 0 [] .none .none .none .none none .none .none)
noncomputable def o655 : Obj := C [vs "_check_arg_types" 1080, vs "_check_arg_types" 1081, vs "/claim/cut.py" 1082, vi 459 0, vi 1 0, vi 0 0, vi 0 0, vi 7 0, r 636, .bool true, vi 318 0, r 637, .none, r 638, r 639, r 640, vi 1087 0, vi 459 0, vs "/claim/cut.py" 1088]
noncomputable def o656 : Obj := H (F (s 20) "_check_arg_types" 3 [] .none .none .none (vs "os.path" 1060) none (r 641) .none)
noncomputable def o657 : Obj := T []
noncomputable def o658 : Obj := Z []
noncomputable def o659 : Obj := T [vs "s" 1093]
noncomputable def o660 : Obj := T []
noncomputable def o661 : Obj := G (F (s 21) "isabs" 0 [] .none .none .none .none none .none .none)
noncomputable def o662 : Obj := C [vs "isabs" 1090, vs "isabs" 1091, vs "/claim/cut.py" 1092, vi 464 0, vi 1 0, vi 0 0, vi 0 0, vi 3 0, r 643, .bool true, vi 318 0, r 644, .none, r 645, r 646, r 647, vi 1094 0, vi 464 0, vs "/claim/cut.py" 1095]
noncomputable def o663 : Obj := H (F (s 21) "isabs" 3 [] .none .none .none (vs "os.path" 1060) none (r 648) .none)
noncomputable def o664 : Obj := T []
noncomputable def o665 : Obj := Z []
noncomputable def o666 : Obj := T [vs "a" 1100, vs "p" 1101, vs "b" 1102, vs "sep" 1103, vs "path" 1104]
noncomputable def o667 : Obj := T []
noncomputable def o668 : Obj := G (F (s 22) "join" 0 [] .none .none .none .none none .none .none)
noncomputable def o669 : Obj := C [vs "join" 1097, vs "join" 1098, vs "/claim/cut.py" 1099, vi 467 0, vi 1 0, vi 0 0, vi 0 0, vi 7 0, r 650, .bool true, vi 318 0, r 651, .none, r 652, r 653, r 654, vi 1105 0, vi 467 0, vs "/claim/cut.py" 1106]
noncomputable def o670 : Obj := H (F (s 22) "join" 3 [] .none .none .none (vs "os.path" 1060) none (r 655) .none)
noncomputable def o671 : Obj := T []
noncomputable def o672 : Obj := Z []
noncomputable def o673 : Obj := T [vs "p" 1112, vs "sep" 1113, vs "i" 1114, vs "head" 1115]
noncomputable def o674 : Obj := T []
noncomputable def o675 : Obj := G (F (s 24) "dirname" 0 [] .none .none .none .none none .none .none)
noncomputable def o676 : Obj := C [vs "dirname" 1109, vs "dirname" 1110, vs "/claim/cut.py" 1111, vi 488 0, vi 1 0, vi 0 0, vi 0 0, vi 3 0, r 657, .bool true, vi 318 0, r 658, .none, r 659, r 660, r 661, vi 1116 0, vi 488 0, vs "/claim/cut.py" 1117]
noncomputable def o677 : Obj := H (F (s 24) "dirname" 3 [] .none .none .none (vs "os.path" 1060) none (r 662) .none)
noncomputable def o678 : Obj := T []
noncomputable def o679 : Obj := ⟨.type "builtin_function_or_method", none, .fields #[.builtin "type.__prepare__", .type "type"], #[]⟩
noncomputable def o680 (P : Params) : Obj := D [E P "__module__" 1128 (vs "cpy313.shlex" 1119), E P "__qualname__" 1130 (vs "shlex" 1129), E P "__firstlineno__" 1132 (vi 497 1131), E P "__init__" 1144 (r 678), E P "punctuation_chars" 1152 (r 686), E P "push_token" 1160 (r 693), E P "push_source" 1169 (r 701), E P "pop_source" 1176 (r 708), E P "get_token" 1188 (r 715), E P "read_token" 1199 (r 722), E P "sourcehook" 1207 (r 729), E P "error_leader" 1216 (r 737), E P "__iter__" 1223 (r 744), E P "__next__" 1231 (r 751), E P "__static_attributes__" 1252 (r 752)] 15
noncomputable def o681 : Obj := T []
noncomputable def o682 : Obj := Z [vi 499 0, vi 4 0, r 677, vi 541 0, vi 4 0, r 684, vi 544 0, vi 4 0, r 692, vi 547 0, vi 4 0, r 700, vi 560 0, vi 4 0, r 707, vi 567 0, vi 4 0, r 714, vi 594 0, vi 4 0, r 721, vi 731 0, vi 4 0, r 728, vi 738 0, vi 4 0, r 736, vi 741 0, vi 4 0, r 743, vi 744 0, vi 4 0, r 750]
noncomputable def o683 : Obj := C [vs "shlex" 1123, vs "shlex" 1124, vs "/claim/cut.py" 1125, vi 497 0, vi 0 0, vi 0 0, vi 0 0, vi 0 0, r 667, .bool false, vi 318 0, r 668, .none, .none, .none, .none, vi 1126 0, vi 497 0, vs "/claim/cut.py" 1127]
noncomputable def o684 : Obj := ⟨.type "frame", none, .plain, #[some (r 669), some (r 3), some (r 666), none, some (vs "cpy313.shlex" 1119), none, some (r 0)]⟩
noncomputable def o685 : Obj := T [.none, .none, .bool false, .bool false]
noncomputable def o686 : Obj := T []
noncomputable def o687 : Obj := Z []
noncomputable def o688 : Obj := T [vs "self" 1136, vs "instream" 1137, vs "infile" 1138, vs "posix" 1139, vs "punctuation_chars" 1140, vs "t" 1141]
noncomputable def o689 : Obj := T []
noncomputable def o690 : Obj := G (F (c 26 0) "shlex.__init__" 0 [] .none .none .none .none none .none .none)
noncomputable def o691 : Obj := C [vs "__init__" 1133, vs "shlex.__init__" 1134, vs "/claim/cut.py" 1135, vi 499 0, vi 5 0, vi 0 0, vi 0 0, vi 3 0, r 672, .bool true, vi 318 0, r 673, .none, r 674, r 675, r 676, vi 1142 0, vi 499 0, vs "/claim/cut.py" 1143]
noncomputable def o692 : Obj := H (F (c 26 0) "shlex.__init__" 3 [] (r 671) .none .none (vs "cpy313.shlex" 1119) none (r 677) .none)
noncomputable def o693 : Obj := T []
noncomputable def o694 : Obj := Z []
noncomputable def o695 : Obj := T [vs "self" 1148]
noncomputable def o696 : Obj := T []
noncomputable def o697 : Obj := G (F (c 26 1) "shlex.punctuation_chars" 0 [] .none .none .none .none none .none .none)
noncomputable def o698 : Obj := C [vs "punctuation_chars" 1145, vs "shlex.punctuation_chars" 1146, vs "/claim/cut.py" 1147, vi 540 0, vi 1 0, vi 0 0, vi 0 0, vi 3 0, r 679, .bool true, vi 318 0, r 680, .none, r 681, r 682, r 683, vi 1149 0, vi 540 0, vs "/claim/cut.py" 1150]
noncomputable def o699 : Obj := H (F (c 26 1) "shlex.punctuation_chars" 3 [] .none .none .none (vs "cpy313.shlex" 1119) none (r 684) .none)
noncomputable def o700 : Obj := ⟨.type "property", none, .fields #[r 685, .none, .none, .none, vs "punctuation_chars" 1152, .bool false], #[]⟩
noncomputable def o701 : Obj := T []
noncomputable def o702 : Obj := Z []
noncomputable def o703 : Obj := T [vs "self" 1156, vs "tok" 1157]
noncomputable def o704 : Obj := T []
noncomputable def o705 : Obj := G (F (c 26 2) "shlex.push_token" 0 [] .none .none .none .none none .none .none)
noncomputable def o706 : Obj := C [vs "push_token" 1153, vs "shlex.push_token" 1154, vs "/claim/cut.py" 1155, vi 544 0, vi 2 0, vi 0 0, vi 0 0, vi 3 0, r 687, .bool true, vi 318 0, r 688, .none, r 689, r 690, r 691, vi 1158 0, vi 544 0, vs "/claim/cut.py" 1159]
noncomputable def o707 : Obj := H (F (c 26 2) "shlex.push_token" 3 [] .none .none .none (vs "cpy313.shlex" 1119) none (r 692) .none)
noncomputable def o708 : Obj := T [.none]
noncomputable def o709 : Obj := T []
noncomputable def o710 : Obj := Z []
noncomputable def o711 : Obj := T [vs "self" 1164, vs "newstream" 1165, vs "newfile" 1166]
noncomputable def o712 : Obj := T []
noncomputable def o713 : Obj := G (F (c 26 3) "shlex.push_source" 0 [] .none .none .none .none none .none .none)
noncomputable def o714 : Obj := C [vs "push_source" 1161, vs "shlex.push_source" 1162, vs "/claim/cut.py" 1163, vi 547 0, vi 3 0, vi 0 0, vi 0 0, vi 3 0, r 695, .bool true, vi 318 0, r 696, .none, r 697, r 698, r 699, vi 1167 0, vi 547 0, vs "/claim/cut.py" 1168]
noncomputable def o715 : Obj := H (F (c 26 3) "shlex.push_source" 3 [] (r 694) .none .none (vs "cpy313.shlex" 1119) none (r 700) .none)
noncomputable def o716 : Obj := T []
noncomputable def o717 : Obj := Z []
noncomputable def o718 : Obj := T [vs "self" 1173]
noncomputable def o719 : Obj := T []
noncomputable def o720 : Obj := G (F (c 26 4) "shlex.pop_source" 0 [] .none .none .none .none none .none .none)
noncomputable def o721 : Obj := C [vs "pop_source" 1170, vs "shlex.pop_source" 1171, vs "/claim/cut.py" 1172, vi 560 0, vi 1 0, vi 0 0, vi 0 0, vi 3 0, r 702, .bool true, vi 318 0, r 703, .none, r 704, r 705, r 706, vi 1174 0, vi 560 0, vs "/claim/cut.py" 1175]
noncomputable def o722 : Obj := H (F (c 26 4) "shlex.pop_source" 3 [] .none .none .none (vs "cpy313.shlex" 1119) none (r 707) .none)
noncomputable def o723 : Obj := T []
noncomputable def o724 : Obj := Z []
noncomputable def o725 : Obj := T [vs "self" 1180, vs "tok" 1181, vs "raw" 1182, vs "spec" 1183, vs "newfile" 1184, vs "newstream" 1185]
noncomputable def o726 : Obj := T []
noncomputable def o727 : Obj := G (F (c 26 5) "shlex.get_token" 0 [] .none .none .none .none none .none .none)
noncomputable def o728 : Obj := C [vs "get_token" 1177, vs "shlex.get_token" 1178, vs "/claim/cut.py" 1179, vi 567 0, vi 1 0, vi 0 0, vi 0 0, vi 3 0, r 709, .bool true, vi 318 0, r 710, .none, r 711, r 712, r 713, vi 1186 0, vi 567 0, vs "/claim/cut.py" 1187]
noncomputable def o729 : Obj := H (F (c 26 5) "shlex.get_token" 3 [] .none .none .none (vs "cpy313.shlex" 1119) none (r 714) .none)
noncomputable def o730 : Obj := T []
noncomputable def o731 : Obj := Z []
noncomputable def o732 : Obj := T [vs "self" 1192, vs "quoted" 1193, vs "escapedstate" 1194, vs "nextchar" 1195, vs "result" 1196]
noncomputable def o733 : Obj := T []
noncomputable def o734 : Obj := G (F (c 26 6) "shlex.read_token" 0 [] .none .none .none .none none .none .none)
noncomputable def o735 : Obj := C [vs "read_token" 1189, vs "shlex.read_token" 1190, vs "/claim/cut.py" 1191, vi 594 0, vi 1 0, vi 0 0, vi 0 0, vi 3 0, r 716, .bool true, vi 318 0, r 717, .none, r 718, r 719, r 720, vi 1197 0, vi 594 0, vs "/claim/cut.py" 1198]
noncomputable def o736 : Obj := H (F (c 26 6) "shlex.read_token" 3 [] .none .none .none (vs "cpy313.shlex" 1119) none (r 721) .none)
noncomputable def o737 : Obj := T []
noncomputable def o738 : Obj := Z []
noncomputable def o739 : Obj := T [vs "self" 1203, vs "newfile" 1204]
noncomputable def o740 : Obj := T []
noncomputable def o741 : Obj := G (F (c 26 7) "shlex.sourcehook" 0 [] .none .none .none .none none .none .none)
noncomputable def o742 : Obj := C [vs "sourcehook" 1200, vs "shlex.sourcehook" 1201, vs "/claim/cut.py" 1202, vi 731 0, vi 2 0, vi 0 0, vi 0 0, vi 3 0, r 723, .bool true, vi 318 0, r 724, .none, r 725, r 726, r 727, vi 1205 0, vi 731 0, vs "/claim/cut.py" 1206]
noncomputable def o743 : Obj := H (F (c 26 7) "shlex.sourcehook" 3 [] .none .none .none (vs "cpy313.shlex" 1119) none (r 728) .none)
noncomputable def o744 : Obj := T [.none, .none]
noncomputable def o745 : Obj := T []
noncomputable def o746 : Obj := Z []
noncomputable def o747 : Obj := T [vs "self" 1211, vs "infile" 1212, vs "lineno" 1213]
noncomputable def o748 : Obj := T []
noncomputable def o749 : Obj := G (F (c 26 8) "shlex.error_leader" 0 [] .none .none .none .none none .none .none)
noncomputable def o750 : Obj := C [vs "error_leader" 1208, vs "shlex.error_leader" 1209, vs "/claim/cut.py" 1210, vi 738 0, vi 3 0, vi 0 0, vi 0 0, vi 3 0, r 731, .bool true, vi 318 0, r 732, .none, r 733, r 734, r 735, vi 1214 0, vi 738 0, vs "/claim/cut.py" 1215]
noncomputable def o751 : Obj := H (F (c 26 8) "shlex.error_leader" 3 [] (r 730) .none .none (vs "cpy313.shlex" 1119) none (r 736) .none)
noncomputable def o752 : Obj := T []
noncomputable def o753 : Obj := Z []
noncomputable def o754 : Obj := T [vs "self" 1220]
noncomputable def o755 : Obj := T []
noncomputable def o756 : Obj := G (F (c 26 9) "shlex.__iter__" 0 [] .none .none .none .none none .none .none)
noncomputable def o757 : Obj := C [vs "__iter__" 1217, vs "shlex.__iter__" 1218, vs "/claim/cut.py" 1219, vi 741 0, vi 1 0, vi 0 0, vi 0 0, vi 3 0, r 738, .bool true, vi 318 0, r 739, .none, r 740, r 741, r 742, vi 1221 0, vi 741 0, vs "/claim/cut.py" 1222]
noncomputable def o758 : Obj := H (F (c 26 9) "shlex.__iter__" 3 [] .none .none .none (vs "cpy313.shlex" 1119) none (r 743) .none)
noncomputable def o759 : Obj := T []
noncomputable def o760 : Obj := Z []
noncomputable def o761 : Obj := T [vs "self" 1227, vs "token" 1228]
noncomputable def o762 : Obj := T []
noncomputable def o763 : Obj := G (F (c 26 10) "shlex.__next__" 0 [] .none .none .none .none none .none .none)
noncomputable def o764 : Obj := C [vs "__next__" 1224, vs "shlex.__next__" 1225, vs "/claim/cut.py" 1226, vi 744 0, vi 1 0, vi 0 0, vi 0 0, vi 3 0, r 745, .bool true, vi 318 0, r 746, .none, r 747, r 748, r 749, vi 1229 0, vi 744 0, vs "/claim/cut.py" 1230]
noncomputable def o765 : Obj := H (F (c 26 10) "shlex.__next__" 3 [] .none .none .none (vs "cpy313.shlex" 1119) none (r 750) .none)
noncomputable def o766 : Obj := T [vs "_punctuation_chars" 1232, vs "_pushback_chars" 1233, vs "commenters" 1234, vs "debug" 1235, vs "eof" 1236, vs "escape" 1237, vs "escapedquotes" 1238, vs "filestack" 1239, vs "infile" 1240, vs "instream" 1241, vs "lineno" 1242, vs "posix" 1243, vs "pushback" 1244, vs "quotes" 1245, vs "source" 1246, vs "state" 1247, vs "token" 1248, vs "whitespace" 1249, vs "whitespace_split" 1250, vs "wordchars" 1251]
noncomputable def o767 (P : Params) : Obj := D [E P "__module__" 1128 (vs "cpy313.shlex" 1119), E P "__firstlineno__" 1132 (vi 497 1131), E P "__init__" 1144 (r 678), E P "punctuation_chars" 1152 (r 686), E P "push_token" 1160 (r 693), E P "push_source" 1169 (r 701), E P "pop_source" 1176 (r 708), E P "get_token" 1188 (r 715), E P "read_token" 1199 (r 722), E P "sourcehook" 1207 (r 729), E P "error_leader" 1216 (r 737), E P "__iter__" 1223 (r 744), E P "__next__" 1231 (r 751), E P "__static_attributes__" 1252 (r 752), E P "__dict__" 1254 (r 755), E P "__weakref__" 1256 (r 756), E P "__doc__" 1257 .none] 4
noncomputable def o768 : Obj := ⟨.type "type", none, .cls ⟨(S "shlex"), [.type "object"], [r 754, .type "object"], 753, (S "shlex"), true, [], [], false, none, false⟩, #[none, none, some (vs "shlex" 1121), some (vs "shlex" 1129), some (.builtin "object.__new__"), some (.bool true)]⟩
noncomputable def o769 : Obj := ⟨.type "getset_descriptor", none, .fields #[vs "__dict__" 1253, r 754, .builtin "function.__dict__", .builtin "function.__dict__#set"], #[]⟩
noncomputable def o770 : Obj := ⟨.type "getset_descriptor", none, .fields #[vs "__weakref__" 1255, r 754, .builtin "ExceptionGroup.__weakref__", .none], #[]⟩
noncomputable def o771 : Obj := ⟨.type "super", none, .fields #[r 754, r 754, r 754], #[]⟩
noncomputable def o772 : Obj := ⟨.type "builtin_function_or_method", none, .fields #[.builtin "object.__init_subclass__", r 754], #[]⟩
noncomputable def o773 : Obj := T [.bool false, .bool true]
noncomputable def o774 : Obj := T []
noncomputable def o775 : Obj := Z []
noncomputable def o776 : Obj := T [vs "s" 1263, vs "comments" 1264, vs "posix" 1265, vs "lex" 1266]
noncomputable def o777 : Obj := T []
noncomputable def o778 : Obj := G (F (s 27) "split" 0 [] .none .none .none .none none .none .none)
noncomputable def o779 : Obj := C [vs "split" 1260, vs "split" 1261, vs "/claim/cut.py" 1262, vi 749 0, vi 3 0, vi 0 0, vi 0 0, vi 3 0, r 760, .bool true, vi 318 0, r 761, .none, r 762, r 763, r 764, vi 1267 0, vi 749 0, vs "/claim/cut.py" 1268]
noncomputable def o780 : Obj := H (F (s 27) "split" 3 [] (r 759) .none .none (vs "cpy313.shlex" 1119) none (r 765) .none)
noncomputable def t5 (P : Params) : BT := n (o0 P) (n (o1 P) (n (o634 P) (n o7 (n o15 (n o31 (n o66 (n o133 (n o264 (l o523) z) (n o395 (l o653) z)) (n o200 (n o328 (l o587) z) (n o459 (l o717) z))) (n o98 (n o168 (n o296 (l o555) z) (n o427 (l o685) z)) (n o232 (n o360 (l o619) z) (n o491 (l o749) z)))) (n o50 (n o82 (n o149 (n o280 (l o539) z) (n o411 (l o669) z)) (n o216 (n o344 (l o603) z) (n o475 (l o733) z))) (n o114 (n o184 (n o312 (l o571) z) (n o443 (l o701) z)) (n o248 (n o376 (l o637) z) (n o507 (l o765) z))))) (n o23 (n o42 (n o74 (n (o141 P) (n o272 (l o531) z) (n o403 (l o661) z)) (n o208 (n o336 (l o595) z) (n o467 (l o725) z))) (n o106 (n o176 (n o304 (l o563) z) (n o435 (l o693) z)) (n o240 (n o368 (l o627) z) (n o499 (l o757) z)))) (n o58 (n o90 (n o160 (n o288 (l o547) z) (n o419 (l o677) z)) (n o224 (n o352 (l o611) z) (n o483 (l o741) z))) (n o122 (n o192 (n o320 (l o579) z) (n o451 (l o709) z)) (n o256 (n o387 (l o645) z) (n o515 (l o773) z)))))) (n (o11 P) (n o19 (n o635 (n o70 (n o137 (n o268 (l o527) z) (n o399 (l o657) z)) (n o204 (n o332 (l o591) z) (n o463 (l o721) z))) (n o102 (n o172 (n o300 (l o559) z) (n o431 (l o689) z)) (n o236 (n o364 (l o623) z) (n o495 (l o753) z)))) (n o54 (n o86 (n (o156 P) (n o284 (l o543) z) (n o415 (l o673) z)) (n o220 (n o348 (l o607) z) (n o479 (l o737) z))) (n o126 (n o188 (n o316 (l o575) z) (n o447 (l o705) z)) (n o252 (n (o380 P) (l o641) z) (n o511 (l o769) z))))) (n o27 (n o46 (n o78 (n o145 (n o276 (l o535) z) (n o407 (l o665) z)) (n o212 (n o340 (l o599) z) (n o471 (l o729) z))) (n o110 (n o180 (n o308 (l o567) z) (n o439 (l o697) z)) (n o244 (n o372 (l o631) z) (n o503 (l o761) z)))) (n o62 (n o94 (n o164 (n o292 (l o551) z) (n o423 (l o681) z)) (n o228 (n o356 (l o615) z) (n o487 (l o745) z))) (n (o129 P) (n o196 (n o324 (l o583) z) (n o455 (l o713) z)) (n o260 (n o391 (l o649) z) (n o519 (l o777) z))))))) (n o5 (n o9 (n o17 (n o33 (n o68 (n (o135 P) (n o266 (l o525) z) (n o397 (l o655) z)) (n o202 (n o330 (l o589) z) (n o461 (l o719) z))) (n o100 (n o170 (n o298 (l o557) z) (n o429 (l o687) z)) (n o234 (n o362 (l o621) z) (n o493 (l o751) z)))) (n o52 (n o84 (n o154 (n o282 (l o541) z) (n o413 (l o671) z)) (n o218 (n o346 (l o605) z) (n o477 (l o735) z))) (n o116 (n o186 (n o314 (l o573) z) (n o445 (l o703) z)) (n o250 (n o378 (l o639) z) (n o509 (l (o767 P)) z))))) (n o25 (n o44 (n o76 (n o143 (n o274 (l o533) z) (n o405 (l o663) z)) (n o210 (n o338 (l o597) z) (n o469 (l o727) z))) (n o108 (n o178 (n o306 (l o565) z) (n o437 (l o695) z)) (n o242 (n o370 (l o629) z) (n o501 (l o759) z)))) (n o60 (n o92 (n o162 (n o290 (l o549) z) (n o421 (l o679) z)) (n o226 (n o354 (l o613) z) (n o485 (l o743) z))) (n o127 (n o194 (n o322 (l o581) z) (n o453 (l o711) z)) (n o258 (n (o389 P) (l o647) z) (n o517 (l o775) z)))))) (n (o13 P) (n (o21 P) (n o37 (n o72 (n o139 (n o270 (l o529) z) (n o401 (l o659) z)) (n o206 (n o334 (l o593) z) (n o465 (l o723) z))) (n (o104 P) (n o174 (n o302 (l o561) z) (n o433 (l o691) z)) (n o238 (n o366 (l o625) z) (n o497 (l o755) z)))) (n o56 (n o88 (n o158 (n o286 (l o545) z) (n o417 (l o675) z)) (n o222 (n o350 (l o609) z) (n o481 (l o739) z))) (n o120 (n o190 (n o318 (l o577) z) (n o449 (l o707) z)) (n o254 (n o382 (l o643) z) (n o513 (l o771) z))))) (n (o29 P) (n (o48 P) (n o80 (n (o147 P) (n o278 (l o537) z) (n o409 (l o667) z)) (n o214 (n o342 (l o601) z) (n o473 (l o731) z))) (n o112 (n o182 (n o310 (l o569) z) (n o441 (l o699) z)) (n o246 (n o374 (l o633) z) (n o505 (l o763) z)))) (n o64 (n o96 (n o166 (n o294 (l o553) z) (n o425 (l o683) z)) (n o230 (n o358 (l o617) z) (n o489 (l o747) z))) (n o131 (n o198 (n o326 (l o585) z) (n o457 (l o715) z)) (n o262 (n o393 (l o651) z) (n o521 (l o779) z)))))))) (n (o38 P) (n o4 (n o8 (n o16 (n (o32 P) (n o67 (n o134 (n o265 (l o524) z) (n o396 (l o654) z)) (n o201 (n o329 (l o588) z) (n o460 (l o718) z))) (n o99 (n o169 (n o297 (l o556) z) (n o428 (l o686) z)) (n o233 (n o361 (l o620) z) (n o492 (l o750) z)))) (n o51 (n o83 (n o150 (n o281 (l o540) z) (n o412 (l o670) z)) (n o217 (n o345 (l o604) z) (n o476 (l o734) z))) (n o115 (n o185 (n o313 (l o572) z) (n o444 (l o702) z)) (n o249 (n o377 (l o638) z) (n o508 (l o766) z))))) (n o24 (n o43 (n o75 (n o142 (n o273 (l o532) z) (n o404 (l o662) z)) (n o209 (n o337 (l o596) z) (n o468 (l o726) z))) (n o107 (n o177 (n o305 (l o564) z) (n o436 (l o694) z)) (n o241 (n o369 (l o628) z) (n o500 (l o758) z)))) (n o59 (n (o91 P) (n o161 (n o289 (l o548) z) (n o420 (l o678) z)) (n o225 (n o353 (l o612) z) (n o484 (l o742) z))) (n o123 (n o193 (n o321 (l o580) z) (n o452 (l o710) z)) (n o257 (n o388 (l o646) z) (n o516 (l o774) z)))))) (n o12 (n (o20 P) (n o36 (n o71 (n o138 (n o269 (l o528) z) (n o400 (l o658) z)) (n o205 (n o333 (l o592) z) (n o464 (l o722) z))) (n o103 (n o173 (n o301 (l o560) z) (n o432 (l o690) z)) (n o237 (n o365 (l o624) z) (n o496 (l o754) z)))) (n o55 (n o87 (n o157 (n o285 (l o544) z) (n o416 (l o674) z)) (n o221 (n o349 (l o608) z) (n o480 (l o738) z))) (n o119 (n o189 (n o317 (l o576) z) (n o448 (l o706) z)) (n o253 (n o381 (l o642) z) (n o512 (l o770) z))))) (n o28 (n o47 (n o79 (n o146 (n o277 (l o536) z) (n o408 (l o666) z)) (n o213 (n o341 (l o600) z) (n o472 (l o730) z))) (n o111 (n o181 (n o309 (l o568) z) (n o440 (l o698) z)) (n o245 (n o373 (l o632) z) (n o504 (l o762) z)))) (n o63 (n o95 (n o165 (n o293 (l o552) z) (n o424 (l o682) z)) (n o229 (n o357 (l o616) z) (n o488 (l o746) z))) (n o130 (n o197 (n o325 (l o584) z) (n o456 (l o714) z)) (n o261 (n o392 (l o650) z) (n o520 (l o778) z))))))) (n o6 (n o10 (n o18 (n o34 (n o69 (n o153 (n o267 (l o526) z) (n o398 (l o656) z)) (n o203 (n o331 (l o590) z) (n o462 (l o720) z))) (n o101 (n o171 (n o299 (l o558) z) (n o430 (l o688) z)) (n o235 (n o363 (l o622) z) (n o494 (l o752) z)))) (n o53 (n o85 (n o155 (n o283 (l o542) z) (n o414 (l o672) z)) (n o219 (n o347 (l o606) z) (n o478 (l o736) z))) (n (o117 P) (n o187 (n o315 (l o574) z) (n o446 (l o704) z)) (n o251 (n o379 (l o640) z) (n o510 (l o768) z))))) (n o26 (n o45 (n o77 (n o144 (n o275 (l o534) z) (n o406 (l o664) z)) (n o211 (n o339 (l o598) z) (n o470 (l o728) z))) (n o109 (n o179 (n o307 (l o566) z) (n o438 (l o696) z)) (n o243 (n o371 (l (o630 P)) z) (n o502 (l o760) z)))) (n o61 (n o93 (n o163 (n o291 (l o550) z) (n o422 (l (o680 P)) z)) (n o227 (n o355 (l o614) z) (n o486 (l o744) z))) (n o128 (n o195 (n o323 (l o582) z) (n o454 (l o712) z)) (n o259 (n o390 (l o648) z) (n o518 (l o776) z)))))) (n o14 (n o22 (n o41 (n o73 (n o140 (n o271 (l o530) z) (n o402 (l o660) z)) (n o207 (n o335 (l o594) z) (n o466 (l o724) z))) (n o105 (n o175 (n o303 (l o562) z) (n o434 (l o692) z)) (n o239 (n o367 (l o626) z) (n o498 (l o756) z)))) (n o57 (n o89 (n o159 (n o287 (l o546) z) (n o418 (l o676) z)) (n o223 (n o351 (l o610) z) (n o482 (l o740) z))) (n o121 (n o191 (n o319 (l o578) z) (n o450 (l o708) z)) (n o255 (n o383 (l o644) z) (n o514 (l o772) z))))) (n o30 (n o49 (n o81 (n o386 (n o279 (l o538) z) (n o410 (l o668) z)) (n o215 (n o343 (l o602) z) (n o474 (l o732) z))) (n o113 (n o183 (n o311 (l o570) z) (n o442 (l o700) z)) (n o247 (n o375 (l o636) z) (n o506 (l o764) z)))) (n o65 (n (o97 P) (n o167 (n o295 (l o554) z) (n o426 (l o684) z)) (n o231 (n o359 (l o618) z) (n o490 (l o748) z))) (n o132 (n o199 (n o327 (l o586) z) (n o458 (l o716) z)) (n o263 (n o394 (l o652) z) (n o522 (l o780) z))))))))
noncomputable def o781 (P : Params) : Obj := D [E P "__name__" 165 (vs "law_ij0137_01" 1287), E P "__doc__" 166 .none, E P "__package__" 167 .none, E P "__loader__" 168 (.builtin "__main__.__loader__#opaque"), E P "__spec__" 169 .none, E P "__annotations__" 170 (r 6), E P "__builtins__" 171 (r 4), E P "__file__" 173 (vs "/claim/cut.py" 172), E P "__cached__" 174 .none, E P "_sre" 275 (r 12), E P "deque" 317 (.type "collections.deque"), E P "_wall" 330 (r 44), E P "_deduplicate" 341 (r 52), E P "_deduplicate_unhashable" 350 (r 59), E P "_compare_args_orderless" 362 (r 66), E P "_twin_re_1" 402 (r 71), E P "_whence" 412 (r 78), E P "_index" 420 (r 85), E P "UnsupportedOperation" 442 (r 95), E P "IOBase" 474 (r 115), E P "BufferedIOBase" 492 (r 130), E P "TextIOBase" 510 (r 142), E P "BytesIO" 772 (r 372), E P "StringIO" 1059 (r 619), E P "_kind" 1070 (r 628), E P "_fspath" 1079 (r 635), E P "_check_arg_types" 1089 (r 642), E P "isabs" 1096 (r 649), E P "join" 1107 (r 773), E P "join_path" 1108 (r 656), E P "dirname" 1118 (r 663), E P "shlex" 1259 (r 754), E P "split" 1269 (r 766), E P "join_shlex" 1277 (r 773), E P "_find_unsafe" 1279 (r 774), E P "quote" 1286 (r 781), E P "_law_lines" 1297 (r 788), E P "_law_written" 1303 (r 793), E P "_law_firsts" 1309 (r 798), E P "_law_refused" 1316 (r 805), E P "law" 1322 (r 810)] 41
noncomputable def o782 : Obj := Z [vi 3 0, vi 0 0, r 43, vi 7 0, vi 0 0, r 51, vi 14 0, vi 0 0, r 58, vi 20 0, vi 0 0, r 65, vi 32 0, vi 0 0, r 77, vi 37 0, vi 0 0, r 84, vi 44 0, vi 0 0, r 91, vi 46 0, vi 0 0, r 104, vi 53 0, vi 0 0, r 126, vi 55 0, vi 0 0, r 138, vi 57 0, vi 0 0, r 150, vi 227 0, vi 0 0, r 380, vi 433 0, vi 0 0, r 627, vi 454 0, vi 0 0, r 634, vi 459 0, vi 0 0, r 641, vi 464 0, vi 0 0, r 648, vi 467 0, vi 0 0, r 655, vi 488 0, vi 0 0, r 662, vi 497 0, vi 0 0, r 669, vi 749 0, vi 0 0, r 765, vi 757 0, vi 0 0, r 772, vi 761 0, vi 0 0, r 780, vi 768 0, vi 0 0, r 787, vi 778 0, vi 0 0, r 792, vi 780 0, vi 0 0, r 797, vi 782 0, vi 0 0, r 804, vi 788 0, vi 0 0, r 809]
noncomputable def o783 : Obj := T []
noncomputable def o784 : Obj := Z []
noncomputable def o785 : Obj := T [vs "split_command" 1273]
noncomputable def o786 : Obj := T []
noncomputable def o787 : Obj := G (F (s 28) "join" 0 [] .none .none .none .none none .none .none)
noncomputable def o788 : Obj := C [vs "join" 1270, vs "join" 1271, vs "/claim/cut.py" 1272, vi 757 0, vi 1 0, vi 0 0, vi 0 0, vi 3 0, r 767, .bool true, vi 318 0, r 768, .none, r 769, r 770, r 771, vi 1274 0, vi 757 0, vs "/claim/cut.py" 1275]
noncomputable def o789 : Obj := H (F (s 28) "join" 3 [] .none .none .none (vs "cpy313.shlex" 1119) none (r 772) .none)
noncomputable def o790 : Obj := ⟨.type "builtin_function_or_method", none, .fields #[.builtin "re.Pattern.search", r 71], #[]⟩
noncomputable def o791 : Obj := T []
noncomputable def o792 : Obj := Z []
noncomputable def o793 : Obj := T [vs "s" 1283]
noncomputable def o794 : Obj := T []
noncomputable def o795 : Obj := G (F (s 31) "quote" 0 [] .none .none .none .none none .none .none)
noncomputable def o796 : Obj := C [vs "quote" 1280, vs "quote" 1281, vs "/claim/cut.py" 1282, vi 761 0, vi 1 0, vi 0 0, vi 0 0, vi 3 0, r 775, .bool true, vi 318 0, r 776, .none, r 777, r 778, r 779, vi 1284 0, vi 761 0, vs "/claim/cut.py" 1285]
noncomputable def o797 : Obj := H (F (s 31) "quote" 3 [] .none .none .none (vs "cpy313.shlex" 1119) none (r 780) .none)
noncomputable def o798 : Obj := T []
noncomputable def o799 : Obj := Z []
noncomputable def o800 : Obj := T [vs "numbers" 1292, vs "lines" 1293, vs "x" 1294]
noncomputable def o801 : Obj := T []
noncomputable def o802 : Obj := G (F (s 33) "_law_lines" 0 [] .none .none .none .none none .none .none)
noncomputable def o803 : Obj := C [vs "_law_lines" 1289, vs "_law_lines" 1290, vs "/claim/cut.py" 1291, vi 768 0, vi 1 0, vi 0 0, vi 0 0, vi 3 0, r 782, .bool true, vi 318 0, r 783, .none, r 784, r 785, r 786, vi 1295 0, vi 768 0, vs "/claim/cut.py" 1296]
noncomputable def o804 : Obj := H (F (s 33) "_law_lines" 3 [] .none .none .none (vs "law_ij0137_01" 1287) none (r 787) .none)
noncomputable def o805 : Obj := T []
noncomputable def o806 : Obj := Z []
noncomputable def o807 : Obj := G (F (s 34) "_law_written" 0 [] .none .none .none .none none .none .none)
noncomputable def o808 : Obj := C [vs "_law_written" 1298, vs "_law_written" 1299, vs "/claim/cut.py" 1300, vi 778 0, vi 1 0, vi 0 0, vi 0 0, vi 3 0, r 789, .bool true, vi 318 0, r 790, .none, .none, .none, r 791, vi 1301 0, vi 778 0, vs "/claim/cut.py" 1302]
noncomputable def o809 : Obj := H (F (s 34) "_law_written" 3 [] .none .none .none (vs "law_ij0137_01" 1287) none (r 792) .none)
noncomputable def o810 : Obj := T []
noncomputable def o811 : Obj := Z []
noncomputable def o812 : Obj := G (F (s 35) "_law_firsts" 0 [] .none .none .none .none none .none .none)
noncomputable def o813 : Obj := C [vs "_law_firsts" 1304, vs "_law_firsts" 1305, vs "/claim/cut.py" 1306, vi 780 0, vi 1 0, vi 0 0, vi 0 0, vi 3 0, r 794, .bool true, vi 318 0, r 795, .none, .none, .none, r 796, vi 1307 0, vi 780 0, vs "/claim/cut.py" 1308]
noncomputable def o814 : Obj := H (F (s 35) "_law_firsts" 3 [] .none .none .none (vs "law_ij0137_01" 1287) none (r 797) .none)
noncomputable def o815 : Obj := T []
noncomputable def o816 : Obj := Z []
noncomputable def o817 : Obj := T [vs "rows" 1313]
noncomputable def o818 : Obj := T []
noncomputable def o819 : Obj := G (F (s 36) "_law_refused" 0 [] .none .none .none .none none .none .none)
noncomputable def o820 : Obj := C [vs "_law_refused" 1310, vs "_law_refused" 1311, vs "/claim/cut.py" 1312, vi 782 0, vi 1 0, vi 0 0, vi 0 0, vi 3 0, r 799, .bool true, vi 318 0, r 800, .none, r 801, r 802, r 803, vi 1314 0, vi 782 0, vs "/claim/cut.py" 1315]
noncomputable def o821 : Obj := H (F (s 36) "_law_refused" 3 [] .none .none .none (vs "law_ij0137_01" 1287) none (r 804) .none)
noncomputable def o822 : Obj := T []
noncomputable def o823 : Obj := Z []
noncomputable def o824 : Obj := G (F (s 37) "law" 0 [] .none .none .none .none none .none .none)
noncomputable def o825 : Obj := C [vs "law" 1317, vs "law" 1318, vs "/claim/cut.py" 1319, vi 788 0, vi 1 0, vi 0 0, vi 0 0, vi 3 0, r 806, .bool true, vi 318 0, r 807, .none, .none, .none, r 808, vi 1320 0, vi 788 0, vs "/claim/cut.py" 1321]
noncomputable def o826 : Obj := H (F (s 37) "law" 3 [] .none .none .none (vs "law_ij0137_01" 1287) none (r 809) .none)
noncomputable def t6 (P : Params) : BT := n (o0 P) (n (o1 P) (n (o781 P) (n o7 (n o15 (n o31 (n o66 (n o133 (n o264 (l o523) (l o783)) (n o395 (l o653) z)) (n o200 (n o328 (l o587) z) (n o459 (l o717) z))) (n o98 (n o168 (n o296 (l o555) (l o815)) (n o427 (l o685) z)) (n o232 (n o360 (l o619) z) (n o491 (l o749) z)))) (n o50 (n o82 (n o149 (n o280 (l o539) (l o799)) (n o411 (l o669) z)) (n o216 (n o344 (l o603) z) (n o475 (l o733) z))) (n o114 (n o184 (n o312 (l o571) z) (n o443 (l o701) z)) (n o248 (n o376 (l o637) z) (n o507 (l o765) z))))) (n o23 (n o42 (n o74 (n (o141 P) (n o272 (l o531) (l o791)) (n o403 (l o661) z)) (n o208 (n o336 (l o595) z) (n o467 (l o725) z))) (n o106 (n o176 (n o304 (l o563) (l o823)) (n o435 (l o693) z)) (n o240 (n o368 (l o627) z) (n o499 (l o757) z)))) (n o58 (n o90 (n o160 (n o288 (l o547) (l o807)) (n o419 (l o677) z)) (n o224 (n o352 (l o611) z) (n o483 (l o741) z))) (n o122 (n o192 (n o320 (l o579) z) (n o451 (l o709) z)) (n o256 (n o387 (l o645) z) (n o515 (l o773) z)))))) (n (o11 P) (n o19 (n o782 (n o70 (n o137 (n o268 (l o527) (l o787)) (n o399 (l o657) z)) (n o204 (n o332 (l o591) z) (n o463 (l o721) z))) (n o102 (n o172 (n o300 (l o559) (l o819)) (n o431 (l o689) z)) (n o236 (n o364 (l o623) z) (n o495 (l o753) z)))) (n o54 (n o86 (n (o156 P) (n o284 (l o543) (l o803)) (n o415 (l o673) z)) (n o220 (n o348 (l o607) z) (n o479 (l o737) z))) (n o126 (n o188 (n o316 (l o575) z) (n o447 (l o705) z)) (n o252 (n (o380 P) (l o641) z) (n o511 (l o769) z))))) (n o27 (n o46 (n o78 (n o145 (n o276 (l o535) (l o795)) (n o407 (l o665) z)) (n o212 (n o340 (l o599) z) (n o471 (l o729) z))) (n o110 (n o180 (n o308 (l o567) z) (n o439 (l o697) z)) (n o244 (n o372 (l o631) z) (n o503 (l o761) z)))) (n o62 (n o94 (n o164 (n o292 (l o551) (l o811)) (n o423 (l o681) z)) (n o228 (n o356 (l o615) z) (n o487 (l o745) z))) (n (o129 P) (n o196 (n o324 (l o583) z) (n o455 (l o713) z)) (n o260 (n o391 (l o649) z) (n o519 (l o777) z))))))) (n o5 (n o9 (n o17 (n o33 (n o68 (n (o135 P) (n o266 (l o525) (l o785)) (n o397 (l o655) z)) (n o202 (n o330 (l o589) z) (n o461 (l o719) z))) (n o100 (n o170 (n o298 (l o557) (l o817)) (n o429 (l o687) z)) (n o234 (n o362 (l o621) z) (n o493 (l o751) z)))) (n o52 (n o84 (n o154 (n o282 (l o541) (l o801)) (n o413 (l o671) z)) (n o218 (n o346 (l o605) z) (n o477 (l o735) z))) (n o116 (n o186 (n o314 (l o573) z) (n o445 (l o703) z)) (n o250 (n o378 (l o639) z) (n o509 (l (o767 P)) z))))) (n o25 (n o44 (n o76 (n o143 (n o274 (l o533) (l o793)) (n o405 (l o663) z)) (n o210 (n o338 (l o597) z) (n o469 (l o727) z))) (n o108 (n o178 (n o306 (l o565) (l o825)) (n o437 (l o695) z)) (n o242 (n o370 (l o629) z) (n o501 (l o759) z)))) (n o60 (n o92 (n o162 (n o290 (l o549) (l o809)) (n o421 (l o679) z)) (n o226 (n o354 (l o613) z) (n o485 (l o743) z))) (n o127 (n o194 (n o322 (l o581) z) (n o453 (l o711) z)) (n o258 (n (o389 P) (l o647) z) (n o517 (l o775) z)))))) (n (o13 P) (n (o21 P) (n o37 (n o72 (n o139 (n o270 (l o529) (l o789)) (n o401 (l o659) z)) (n o206 (n o334 (l o593) z) (n o465 (l o723) z))) (n (o104 P) (n o174 (n o302 (l o561) (l o821)) (n o433 (l o691) z)) (n o238 (n o366 (l o625) z) (n o497 (l o755) z)))) (n o56 (n o88 (n o158 (n o286 (l o545) (l o805)) (n o417 (l o675) z)) (n o222 (n o350 (l o609) z) (n o481 (l o739) z))) (n o120 (n o190 (n o318 (l o577) z) (n o449 (l o707) z)) (n o254 (n o382 (l o643) z) (n o513 (l o771) z))))) (n (o29 P) (n (o48 P) (n o80 (n (o147 P) (n o278 (l o537) (l o797)) (n o409 (l o667) z)) (n o214 (n o342 (l o601) z) (n o473 (l o731) z))) (n o112 (n o182 (n o310 (l o569) z) (n o441 (l o699) z)) (n o246 (n o374 (l o633) z) (n o505 (l o763) z)))) (n o64 (n o96 (n o166 (n o294 (l o553) (l o813)) (n o425 (l o683) z)) (n o230 (n o358 (l o617) z) (n o489 (l o747) z))) (n o131 (n o198 (n o326 (l o585) z) (n o457 (l o715) z)) (n o262 (n o393 (l o651) z) (n o521 (l o779) z)))))))) (n (o38 P) (n o4 (n o8 (n o16 (n (o32 P) (n o67 (n o134 (n o265 (l o524) (l o784)) (n o396 (l o654) z)) (n o201 (n o329 (l o588) z) (n o460 (l o718) z))) (n o99 (n o169 (n o297 (l o556) (l o816)) (n o428 (l o686) z)) (n o233 (n o361 (l o620) z) (n o492 (l o750) z)))) (n o51 (n o83 (n o150 (n o281 (l o540) (l o800)) (n o412 (l o670) z)) (n o217 (n o345 (l o604) z) (n o476 (l o734) z))) (n o115 (n o185 (n o313 (l o572) z) (n o444 (l o702) z)) (n o249 (n o377 (l o638) z) (n o508 (l o766) z))))) (n o24 (n o43 (n o75 (n o142 (n o273 (l o532) (l o792)) (n o404 (l o662) z)) (n o209 (n o337 (l o596) z) (n o468 (l o726) z))) (n o107 (n o177 (n o305 (l o564) (l o824)) (n o436 (l o694) z)) (n o241 (n o369 (l o628) z) (n o500 (l o758) z)))) (n o59 (n (o91 P) (n o161 (n o289 (l o548) (l o808)) (n o420 (l o678) z)) (n o225 (n o353 (l o612) z) (n o484 (l o742) z))) (n o123 (n o193 (n o321 (l o580) z) (n o452 (l o710) z)) (n o257 (n o388 (l o646) z) (n o516 (l o774) z)))))) (n o12 (n (o20 P) (n o36 (n o71 (n o138 (n o269 (l o528) (l o788)) (n o400 (l o658) z)) (n o205 (n o333 (l o592) z) (n o464 (l o722) z))) (n o103 (n o173 (n o301 (l o560) (l o820)) (n o432 (l o690) z)) (n o237 (n o365 (l o624) z) (n o496 (l o754) z)))) (n o55 (n o87 (n o157 (n o285 (l o544) (l o804)) (n o416 (l o674) z)) (n o221 (n o349 (l o608) z) (n o480 (l o738) z))) (n o119 (n o189 (n o317 (l o576) z) (n o448 (l o706) z)) (n o253 (n o381 (l o642) z) (n o512 (l o770) z))))) (n o28 (n o47 (n o79 (n o146 (n o277 (l o536) (l o796)) (n o408 (l o666) z)) (n o213 (n o341 (l o600) z) (n o472 (l o730) z))) (n o111 (n o181 (n o309 (l o568) z) (n o440 (l o698) z)) (n o245 (n o373 (l o632) z) (n o504 (l o762) z)))) (n o63 (n o95 (n o165 (n o293 (l o552) (l o812)) (n o424 (l o682) z)) (n o229 (n o357 (l o616) z) (n o488 (l o746) z))) (n o130 (n o197 (n o325 (l o584) z) (n o456 (l o714) z)) (n o261 (n o392 (l o650) z) (n o520 (l o778) z))))))) (n o6 (n o10 (n o18 (n o34 (n o69 (n o153 (n o267 (l o526) (l o786)) (n o398 (l o656) z)) (n o203 (n o331 (l o590) z) (n o462 (l o720) z))) (n o101 (n o171 (n o299 (l o558) (l o818)) (n o430 (l o688) z)) (n o235 (n o363 (l o622) z) (n o494 (l o752) z)))) (n o53 (n o85 (n o155 (n o283 (l o542) (l o802)) (n o414 (l o672) z)) (n o219 (n o347 (l o606) z) (n o478 (l o736) z))) (n (o117 P) (n o187 (n o315 (l o574) z) (n o446 (l o704) z)) (n o251 (n o379 (l o640) z) (n o510 (l o768) z))))) (n o26 (n o45 (n o77 (n o144 (n o275 (l o534) (l o794)) (n o406 (l o664) z)) (n o211 (n o339 (l o598) z) (n o470 (l o728) z))) (n o109 (n o179 (n o307 (l o566) (l o826)) (n o438 (l o696) z)) (n o243 (n o371 (l (o630 P)) z) (n o502 (l o760) z)))) (n o61 (n o93 (n o163 (n o291 (l o550) (l o810)) (n o422 (l (o680 P)) z)) (n o227 (n o355 (l o614) z) (n o486 (l o744) z))) (n o128 (n o195 (n o323 (l o582) z) (n o454 (l o712) z)) (n o259 (n o390 (l o648) z) (n o518 (l o776) z)))))) (n o14 (n o22 (n o41 (n o73 (n o140 (n o271 (l o530) (l o790)) (n o402 (l o660) z)) (n o207 (n o335 (l o594) z) (n o466 (l o724) z))) (n o105 (n o175 (n o303 (l o562) (l o822)) (n o434 (l o692) z)) (n o239 (n o367 (l o626) z) (n o498 (l o756) z)))) (n o57 (n o89 (n o159 (n o287 (l o546) (l o806)) (n o418 (l o676) z)) (n o223 (n o351 (l o610) z) (n o482 (l o740) z))) (n o121 (n o191 (n o319 (l o578) z) (n o450 (l o708) z)) (n o255 (n o383 (l o644) z) (n o514 (l o772) z))))) (n o30 (n o49 (n o81 (n o386 (n o279 (l o538) (l o798)) (n o410 (l o668) z)) (n o215 (n o343 (l o602) z) (n o474 (l o732) z))) (n o113 (n o183 (n o311 (l o570) z) (n o442 (l o700) z)) (n o247 (n o375 (l o636) z) (n o506 (l o764) z)))) (n o65 (n (o97 P) (n o167 (n o295 (l o554) (l o814)) (n o426 (l o684) z)) (n o231 (n o359 (l o618) z) (n o490 (l o748) z))) (n o132 (n o199 (n o327 (l o586) z) (n o458 (l o716) z)) (n o263 (n o394 (l o652) z) (n o522 (l o780) z))))))))
noncomputable def h2 (P : Params) : Heap := ⟨⟨(o0 P) :: (o1 P) :: (o38 P) :: (o781 P) :: o4 :: o5 :: o6 :: o7 :: o8 :: o9 :: o10 :: (o11 P) :: o12 :: (o13 P) :: o14 :: o15 :: o16 :: o17 :: o18 :: o19 :: (o20 P) :: (o21 P) :: o22 :: o23 :: o24 :: o25 :: o26 :: o27 :: o28 :: (o29 P) :: o30 :: o31 :: (o32 P) :: o33 :: o34 :: o782 :: o36 :: o37 :: o41 :: o42 :: o43 :: o44 :: o45 :: o46 :: o47 :: (o48 P) :: o49 :: o50 :: o51 :: o52 :: o53 :: o54 :: o55 :: o56 :: o57 :: o58 :: o59 :: o60 :: o61 :: o62 :: o63 :: o64 :: o65 :: o66 :: o67 :: o68 :: o69 :: o70 :: o71 :: o72 :: o73 :: o74 :: o75 :: o76 :: o77 :: o78 :: o79 :: o80 :: o81 :: o82 :: o83 :: o84 :: o85 :: o86 :: o87 :: o88 :: o89 :: o90 :: (o91 P) :: o92 :: o93 :: o94 :: o95 :: o96 :: (o97 P) :: o98 :: o99 :: o100 :: o101 :: o102 :: o103 :: (o104 P) :: o105 :: o106 :: o107 :: o108 :: o109 :: o110 :: o111 :: o112 :: o113 :: o114 :: o115 :: o116 :: (o117 P) :: o126 :: o119 :: o120 :: o121 :: o122 :: o123 :: o127 :: o128 :: (o129 P) :: o130 :: o131 :: o132 :: o133 :: o134 :: (o135 P) :: o153 :: o137 :: o138 :: o139 :: o140 :: (o141 P) :: o142 :: o143 :: o144 :: o145 :: o146 :: (o147 P) :: o386 :: o149 :: o150 :: o154 :: o155 :: (o156 P) :: o157 :: o158 :: o159 :: o160 :: o161 :: o162 :: o163 :: o164 :: o165 :: o166 :: o167 :: o168 :: o169 :: o170 :: o171 :: o172 :: o173 :: o174 :: o175 :: o176 :: o177 :: o178 :: o179 :: o180 :: o181 :: o182 :: o183 :: o184 :: o185 :: o186 :: o187 :: o188 :: o189 :: o190 :: o191 :: o192 :: o193 :: o194 :: o195 :: o196 :: o197 :: o198 :: o199 :: o200 :: o201 :: o202 :: o203 :: o204 :: o205 :: o206 :: o207 :: o208 :: o209 :: o210 :: o211 :: o212 :: o213 :: o214 :: o215 :: o216 :: o217 :: o218 :: o219 :: o220 :: o221 :: o222 :: o223 :: o224 :: o225 :: o226 :: o227 :: o228 :: o229 :: o230 :: o231 :: o232 :: o233 :: o234 :: o235 :: o236 :: o237 :: o238 :: o239 :: o240 :: o241 :: o242 :: o243 :: o244 :: o245 :: o246 :: o247 :: o248 :: o249 :: o250 :: o251 :: o252 :: o253 :: o254 :: o255 :: o256 :: o257 :: o258 :: o259 :: o260 :: o261 :: o262 :: o263 :: o264 :: o265 :: o266 :: o267 :: o268 :: o269 :: o270 :: o271 :: o272 :: o273 :: o274 :: o275 :: o276 :: o277 :: o278 :: o279 :: o280 :: o281 :: o282 :: o283 :: o284 :: o285 :: o286 :: o287 :: o288 :: o289 :: o290 :: o291 :: o292 :: o293 :: o294 :: o295 :: o296 :: o297 :: o298 :: o299 :: o300 :: o301 :: o302 :: o303 :: o304 :: o305 :: o306 :: o307 :: o308 :: o309 :: o310 :: o311 :: o312 :: o313 :: o314 :: o315 :: o316 :: o317 :: o318 :: o319 :: o320 :: o321 :: o322 :: o323 :: o324 :: o325 :: o326 :: o327 :: o328 :: o329 :: o330 :: o331 :: o332 :: o333 :: o334 :: o335 :: o336 :: o337 :: o338 :: o339 :: o340 :: o341 :: o342 :: o343 :: o344 :: o345 :: o346 :: o347 :: o348 :: o349 :: o350 :: o351 :: o352 :: o353 :: o354 :: o355 :: o356 :: o357 :: o358 :: o359 :: o360 :: o361 :: o362 :: o363 :: o364 :: o365 :: o366 :: o367 :: o368 :: o369 :: o370 :: o371 :: o372 :: o373 :: o374 :: o375 :: o376 :: o377 :: o378 :: o379 :: (o380 P) :: o381 :: o382 :: o383 :: o387 :: o388 :: (o389 P) :: o390 :: o391 :: o392 :: o393 :: o394 :: o395 :: o396 :: o397 :: o398 :: o399 :: o400 :: o401 :: o402 :: o403 :: o404 :: o405 :: o406 :: o407 :: o408 :: o409 :: o410 :: o411 :: o412 :: o413 :: o414 :: o415 :: o416 :: o417 :: o418 :: o419 :: o420 :: o421 :: o422 :: o423 :: o424 :: o425 :: o426 :: o427 :: o428 :: o429 :: o430 :: o431 :: o432 :: o433 :: o434 :: o435 :: o436 :: o437 :: o438 :: o439 :: o440 :: o441 :: o442 :: o443 :: o444 :: o445 :: o446 :: o447 :: o448 :: o449 :: o450 :: o451 :: o452 :: o453 :: o454 :: o455 :: o456 :: o457 :: o458 :: o459 :: o460 :: o461 :: o462 :: o463 :: o464 :: o465 :: o466 :: o467 :: o468 :: o469 :: o470 :: o471 :: o472 :: o473 :: o474 :: o475 :: o476 :: o477 :: o478 :: o479 :: o480 :: o481 :: o482 :: o483 :: o484 :: o485 :: o486 :: o487 :: o488 :: o489 :: o490 :: o491 :: o492 :: o493 :: o494 :: o495 :: o496 :: o497 :: o498 :: o499 :: o500 :: o501 :: o502 :: o503 :: o504 :: o505 :: o506 :: o507 :: o508 :: o509 :: o510 :: o511 :: o512 :: o513 :: o514 :: o515 :: o516 :: o517 :: o518 :: o519 :: o520 :: o521 :: o522 :: o523 :: o524 :: o525 :: o526 :: o527 :: o528 :: o529 :: o530 :: o531 :: o532 :: o533 :: o534 :: o535 :: o536 :: o537 :: o538 :: o539 :: o540 :: o541 :: o542 :: o543 :: o544 :: o545 :: o546 :: o547 :: o548 :: o549 :: o550 :: o551 :: o552 :: o553 :: o554 :: o555 :: o556 :: o557 :: o558 :: o559 :: o560 :: o561 :: o562 :: o563 :: o564 :: o565 :: o566 :: o567 :: o568 :: o569 :: o570 :: o571 :: o572 :: o573 :: o574 :: o575 :: o576 :: o577 :: o578 :: o579 :: o580 :: o581 :: o582 :: o583 :: o584 :: o585 :: o586 :: o587 :: o588 :: o589 :: o590 :: o591 :: o592 :: o593 :: o594 :: o595 :: o596 :: o597 :: o598 :: o599 :: o600 :: o601 :: o602 :: o603 :: o604 :: o605 :: o606 :: o607 :: o608 :: o609 :: o610 :: o611 :: o612 :: o613 :: o614 :: o615 :: o616 :: o617 :: o618 :: o619 :: o620 :: o621 :: o622 :: o623 :: o624 :: o625 :: o626 :: o627 :: o628 :: o629 :: (o630 P) :: o631 :: o632 :: o633 :: o636 :: o637 :: o638 :: o639 :: o640 :: o641 :: o642 :: o643 :: o644 :: o645 :: o646 :: o647 :: o648 :: o649 :: o650 :: o651 :: o652 :: o653 :: o654 :: o655 :: o656 :: o657 :: o658 :: o659 :: o660 :: o661 :: o662 :: o663 :: o664 :: o665 :: o666 :: o667 :: o668 :: o669 :: o670 :: o671 :: o672 :: o673 :: o674 :: o675 :: o676 :: o677 :: o678 :: o679 :: (o680 P) :: o681 :: o682 :: o683 :: o684 :: o685 :: o686 :: o687 :: o688 :: o689 :: o690 :: o691 :: o692 :: o693 :: o694 :: o695 :: o696 :: o697 :: o698 :: o699 :: o700 :: o701 :: o702 :: o703 :: o704 :: o705 :: o706 :: o707 :: o708 :: o709 :: o710 :: o711 :: o712 :: o713 :: o714 :: o715 :: o716 :: o717 :: o718 :: o719 :: o720 :: o721 :: o722 :: o723 :: o724 :: o725 :: o726 :: o727 :: o728 :: o729 :: o730 :: o731 :: o732 :: o733 :: o734 :: o735 :: o736 :: o737 :: o738 :: o739 :: o740 :: o741 :: o742 :: o743 :: o744 :: o745 :: o746 :: o747 :: o748 :: o749 :: o750 :: o751 :: o752 :: o753 :: o754 :: o755 :: o756 :: o757 :: o758 :: o759 :: o760 :: o761 :: o762 :: o763 :: o764 :: o765 :: o766 :: (o767 P) :: o768 :: o769 :: o770 :: o771 :: o772 :: o773 :: o774 :: o775 :: o776 :: o777 :: o778 :: o779 :: o780 :: o783 :: o784 :: o785 :: o786 :: o787 :: o788 :: o789 :: o790 :: o791 :: o792 :: o793 :: o794 :: o795 :: o796 :: o797 :: o798 :: o799 :: o800 :: o801 :: o802 :: o803 :: o804 :: o805 :: o806 :: o807 :: o808 :: o809 :: o810 :: o811 :: o812 :: o813 :: o814 :: o815 :: o816 :: o817 :: o818 :: o819 :: o820 :: o821 :: o822 :: o823 :: o824 :: o825 :: o826 :: []⟩, {}⟩
noncomputable abbrev B : List Stmt := behindTheImports pg
noncomputable abbrev env : Env := { scope := pg.main.scope, locals := mainNs, globals := mainNs, cells := [], code := .ref 36, frame := some 37 }
noncomputable abbrev cd : Code := .body B env
noncomputable def g1 : List Stmt := (B.drop 0).take 11
noncomputable def g2 : List Stmt := (B.drop 11).take 2
noncomputable def g3 : List Stmt := (B.drop 13).take 1
noncomputable def g4 : List Stmt := (B.drop 14).take 1
noncomputable def g5 : List Stmt := (B.drop 15).take 11
noncomputable def g6 : List Stmt := (B.drop 26).take 10
theorem gB : B = g1 ++ (g2 ++ (g3 ++ (g4 ++ (g5 ++ (g6 ++ []))))) := by kernel_rfl
theorem op (w : World) : (fencedOpening treeTable pg w 10446).map (fun s => (s.heap, s.gens, s.drawn, s.toks)) = some (h0 w.params, #[], {}, 318) := by unfold fencedOpening; rw [PySem.W.Fast.te10274390034422433532, PySem.W.Fast.te14289696077712309145, PySem.W.Fast.te1435165496053646825, PySem.W.Fast.te14364793385576792824]; kernel_rfl
theorem sz (w : World) : ((h0 w.params).isNs mainGlobals && (#[] : Array GenState).size == 0, (h0 w.params).objs.size, (h0 w.params).nsMap mainGlobals "__annotations__") = (true, 34, some (.ref 6)) := by kernel_rfl
theorem pre (w : World) (os : OsState) : topGo treeTable pg w 34 (some (.ref 6)) 12 ⟨h0 w.params, #[], {}, 318, os⟩ (topStub pg) = some (⟨h1 w.params, #[], {}, 324, os⟩, ⟨denote treeTable cd, cd, ⟨0, 0, 0, 0⟩, [topFrame ⟨0, 0, 0, 0⟩]⟩) := by rw [PySem.W.Fast.te15667345088766844465, PySem.W.Fast.te11892475500146522536, PySem.W.Fast.te14364793385576792824]; kernel_rfl
theorem blk (w : World) (os : OsState) : segRun treeTable pg w 34 (some (.ref 6)) 1 1 ⟨h1 w.params, #[], {}, 324, os⟩ (blockOf B env cd ⟨0, 0, 0, 0⟩ [topFrame ⟨0, 0, 0, 0⟩]) = some (.next, (⟨t0 w.params, 38, {}, #[], {}, 324, os⟩ : SharedT).abs, cd, ⟨0, 0, 0, 0⟩) := by rw [PySem.W.Fast.te14374325043358763698, PySem.W.Fast.te14364793385576792824]; kernel_rfl
theorem q1 (w : World) (os : OsState) : segRunT treeTable pg w 34 (some (.ref 6)) 1 738 (⟨t0 w.params, 38, {}, #[], {}, 324, os⟩ : SharedT) (piecesOf g1 env cd ⟨0, 0, 0, 0⟩ [topFrame ⟨0, 0, 0, 0⟩]) = some (.next, (⟨t1 w.params, 121, {}, #[], {}, 475, os⟩ : SharedT), cd, ⟨46, 0, 52, 34⟩) := by rw [PySem.W.Fast.te10110043849684766642, PySem.W.Fast.te14364793385576792824]; kernel_rfl
theorem q2 (w : World) (os : OsState) : segRunT treeTable pg w 34 (some (.ref 6)) 1 447 (⟨t1 w.params, 121, {}, #[], {}, 475, os⟩ : SharedT) (piecesOf g2 env cd ⟨46, 0, 52, 34⟩ [topFrame ⟨0, 0, 0, 0⟩]) = some (.next, (⟨t2 w.params, 145, {}, #[], {}, 511, os⟩ : SharedT), cd, ⟨55, 0, 56, 21⟩) := by rw [PySem.W.Fast.te10110043849684766642, PySem.W.Fast.te14364793385576792824]; kernel_rfl
theorem q3 (w : World) (os : OsState) : segRunT treeTable pg w 34 (some (.ref 6)) 1 1278 (⟨t2 w.params, 145, {}, #[], {}, 511, os⟩ : SharedT) (piecesOf g3 env cd ⟨55, 0, 56, 21⟩ [topFrame ⟨0, 0, 0, 0⟩]) = some (.next, (⟨t3 w.params, 375, {}, #[], {}, 773, os⟩ : SharedT), cd, ⟨57, 0, 226, 17⟩) := by rw [PySem.W.Fast.te10110043849684766642, PySem.W.Fast.te14364793385576792824]; kernel_rfl
theorem q4 (w : World) (os : OsState) : segRunT treeTable pg w 34 (some (.ref 6)) 1 1578 (⟨t3 w.params, 375, {}, #[], {}, 773, os⟩ : SharedT) (piecesOf g4 env cd ⟨57, 0, 226, 17⟩ [topFrame ⟨0, 0, 0, 0⟩]) = some (.next, (⟨t4 w.params, 622, {}, #[], {}, 1060, os⟩ : SharedT), cd, ⟨227, 0, 431, 17⟩) := by rw [PySem.W.Fast.te10110043849684766642, PySem.W.Fast.te14364793385576792824]; kernel_rfl
theorem q5 (w : World) (os : OsState) : segRunT treeTable pg w 34 (some (.ref 6)) 1 882 (⟨t4 w.params, 622, {}, #[], {}, 1060, os⟩ : SharedT) (piecesOf g5 env cd ⟨227, 0, 431, 17⟩ [topFrame ⟨0, 0, 0, 0⟩]) = some (.next, (⟨t5 w.params, 767, {}, #[], {}, 1270, os⟩ : SharedT), cd, ⟨749, 0, 756, 20⟩) := by rw [PySem.W.Fast.te10110043849684766642, PySem.W.Fast.te14364793385576792824]; kernel_rfl
theorem q6 (w : World) (os : OsState) : segRunT treeTable pg w 34 (some (.ref 6)) 1 243 (⟨t5 w.params, 767, {}, #[], {}, 1270, os⟩ : SharedT) (piecesOf g6 env cd ⟨749, 0, 756, 20⟩ [topFrame ⟨0, 0, 0, 0⟩]) = some (.next, (⟨t6 w.params, 811, {}, #[], {}, 1323, os⟩ : SharedT), cd, ⟨788, 0, 803, 106⟩) := by rw [PySem.W.Fast.te10110043849684766642, PySem.W.Fast.te14364793385576792824]; kernel_rfl
theorem fin (w : World) (os : OsState) : topRun treeTable pg w 34 (some (.ref 6)) 2 (⟨t6 w.params, 811, {}, #[], {}, 1323, os⟩ : SharedT).abs ⟨doneF .next, cd, ⟨788, 0, 803, 106⟩, [topFrame ⟨0, 0, 0, 0⟩]⟩ = some ⟨h2 w.params, #[], {}, 1323, os⟩ := by rw [PySem.W.Fast.te14082659384304107361, PySem.W.Fast.te14364793385576792824]; kernel_rfl
theorem run (w : World) (os : OsState) : topRun treeTable pg w 34 (some (.ref 6)) (12 + (1 + (738 + (447 + (1278 + (1578 + (882 + (243 + 2)))))))) ⟨h0 w.params, #[], {}, 318, os⟩ (topStub pg) = some ⟨h2 w.params, #[], {}, 1323, os⟩ := by
  have k := piece_app (segRun_of (q1 w os)) (piece_app (segRun_of (q2 w os)) (piece_app (segRun_of (q3 w os)) (piece_app (segRun_of (q4 w os)) (piece_app (segRun_of (q5 w os)) (piece_app (segRun_of (q6 w os)) (piece_nil (fin w os)))))))
  rw [← gB] at k
  exact go_top (pre w os) (piece_block (blk w os) k)
end Mine.H
namespace Mine
noncomputable def hd.view_39 : Program := view H.pg [0, 1, 2, 5, 6, 7, 9, 10, 11, 12, 13, 14, 15, 16, 18, 19, 20, 21, 23, 24, 26, 28, 29, 30, 31, 33, 34, 35, 36, 37]
noncomputable def hd.heap_39 : Params → Frag := by
  refine (?g0 : ∀ n a b d r t s u v p, H.s 2 = .FunctionDef n a b d r t s u v p → Params → Frag) _ _ _ _ _ _ _ _ _ _ rfl; intro n_s_2_ a_s_2_ b_s_2_ _ _ _ s_s_2_ _ _ _ _
  refine (?g1 : ∀ n a b d r t s u v p, H.s 4 = .FunctionDef n a b d r t s u v p → Params → Frag) _ _ _ _ _ _ _ _ _ _ rfl; intro n_s_4_ a_s_4_ b_s_4_ _ _ _ s_s_4_ _ _ _ _
  refine (?g2 : ∀ n a b d r t s u v p, H.s 5 = .FunctionDef n a b d r t s u v p → Params → Frag) _ _ _ _ _ _ _ _ _ _ rfl; intro n_s_5_ a_s_5_ b_s_5_ _ _ _ s_s_5_ _ _ _ _
  refine (?g3 : ∀ n a b d r t s u v p, H.s 6 = .FunctionDef n a b d r t s u v p → Params → Frag) _ _ _ _ _ _ _ _ _ _ rfl; intro n_s_6_ a_s_6_ b_s_6_ _ _ _ s_s_6_ _ _ _ _
  refine (?g4 : ∀ n a b d r t s u v p, H.s 9 = .FunctionDef n a b d r t s u v p → Params → Frag) _ _ _ _ _ _ _ _ _ _ rfl; intro n_s_9_ a_s_9_ b_s_9_ _ _ _ s_s_9_ _ _ _ _
  refine (?g5 : ∀ n a b d r t s u v p, H.s 10 = .FunctionDef n a b d r t s u v p → Params → Frag) _ _ _ _ _ _ _ _ _ _ rfl; intro n_s_10_ a_s_10_ b_s_10_ _ _ _ s_s_10_ _ _ _ _
  refine (?g6 : ∀ n a b d r t s u v p, H.c 12 1 = .FunctionDef n a b d r t s u v p → Params → Frag) _ _ _ _ _ _ _ _ _ _ rfl; intro n_c_12_1_ a_c_12_1_ b_c_12_1_ _ _ _ s_c_12_1_ _ _ _ _
  refine (?g7 : ∀ n a b d r t s u v p, H.c 15 1 = .FunctionDef n a b d r t s u v p → Params → Frag) _ _ _ _ _ _ _ _ _ _ rfl; intro n_c_15_1_ a_c_15_1_ b_c_15_1_ _ _ _ s_c_15_1_ _ _ _ _
  refine (?g8 : ∀ n a b d r t s u v p, H.c 15 2 = .FunctionDef n a b d r t s u v p → Params → Frag) _ _ _ _ _ _ _ _ _ _ rfl; intro n_c_15_2_ a_c_15_2_ b_c_15_2_ _ _ _ s_c_15_2_ _ _ _ _
  refine (?g9 : ∀ n a b d r t s u v p, H.c 15 3 = .FunctionDef n a b d r t s u v p → Params → Frag) _ _ _ _ _ _ _ _ _ _ rfl; intro n_c_15_3_ a_c_15_3_ b_c_15_3_ _ _ _ s_c_15_3_ _ _ _ _
  refine (?g10 : ∀ n a b d r t s u v p, H.c 15 4 = .FunctionDef n a b d r t s u v p → Params → Frag) _ _ _ _ _ _ _ _ _ _ rfl; intro n_c_15_4_ a_c_15_4_ b_c_15_4_ _ _ _ s_c_15_4_ _ _ _ _
  refine (?g11 : ∀ n a b d r t s u v p, H.c 15 5 = .FunctionDef n a b d r t s u v p → Params → Frag) _ _ _ _ _ _ _ _ _ _ rfl; intro n_c_15_5_ a_c_15_5_ b_c_15_5_ _ _ _ s_c_15_5_ _ _ _ _
  refine (?g12 : ∀ n a b d r t s u v p, H.c 15 6 = .FunctionDef n a b d r t s u v p → Params → Frag) _ _ _ _ _ _ _ _ _ _ rfl; intro n_c_15_6_ a_c_15_6_ b_c_15_6_ _ _ _ s_c_15_6_ _ _ _ _
  refine (?g13 : ∀ n a b d r t s u v p, H.c 15 7 = .FunctionDef n a b d r t s u v p → Params → Frag) _ _ _ _ _ _ _ _ _ _ rfl; intro n_c_15_7_ a_c_15_7_ b_c_15_7_ _ _ _ s_c_15_7_ _ _ _ _
  refine (?g14 : ∀ n a b d r t s u v p, H.c 15 8 = .FunctionDef n a b d r t s u v p → Params → Frag) _ _ _ _ _ _ _ _ _ _ rfl; intro n_c_15_8_ a_c_15_8_ b_c_15_8_ _ _ _ s_c_15_8_ _ _ _ _
  refine (?g15 : ∀ n a b d r t s u v p, H.c 15 9 = .FunctionDef n a b d r t s u v p → Params → Frag) _ _ _ _ _ _ _ _ _ _ rfl; intro n_c_15_9_ a_c_15_9_ b_c_15_9_ _ _ _ s_c_15_9_ _ _ _ _
  refine (?g16 : ∀ n a b d r t s u v p, H.c 15 10 = .FunctionDef n a b d r t s u v p → Params → Frag) _ _ _ _ _ _ _ _ _ _ rfl; intro n_c_15_10_ a_c_15_10_ b_c_15_10_ _ _ _ s_c_15_10_ _ _ _ _
  refine (?g17 : ∀ n a b d r t s u v p, H.c 15 11 = .FunctionDef n a b d r t s u v p → Params → Frag) _ _ _ _ _ _ _ _ _ _ rfl; intro n_c_15_11_ a_c_15_11_ b_c_15_11_ _ _ _ s_c_15_11_ _ _ _ _
  refine (?g18 : ∀ n a b d r t s u v p, H.c 15 12 = .FunctionDef n a b d r t s u v p → Params → Frag) _ _ _ _ _ _ _ _ _ _ rfl; intro n_c_15_12_ a_c_15_12_ b_c_15_12_ _ _ _ s_c_15_12_ _ _ _ _
  refine (?g19 : ∀ n a b d r t s u v p, H.c 15 13 = .FunctionDef n a b d r t s u v p → Params → Frag) _ _ _ _ _ _ _ _ _ _ rfl; intro n_c_15_13_ a_c_15_13_ b_c_15_13_ _ _ _ s_c_15_13_ _ _ _ _
  refine (?g20 : ∀ n a b d r t s u v p, H.c 15 14 = .FunctionDef n a b d r t s u v p → Params → Frag) _ _ _ _ _ _ _ _ _ _ rfl; intro n_c_15_14_ a_c_15_14_ b_c_15_14_ _ _ _ s_c_15_14_ _ _ _ _
  refine (?g21 : ∀ n a b d r t s u v p, H.c 15 15 = .FunctionDef n a b d r t s u v p → Params → Frag) _ _ _ _ _ _ _ _ _ _ rfl; intro n_c_15_15_ a_c_15_15_ b_c_15_15_ _ _ _ s_c_15_15_ _ _ _ _
  refine (?g22 : ∀ n a b d r t s u v p, H.c 15 16 = .FunctionDef n a b d r t s u v p → Params → Frag) _ _ _ _ _ _ _ _ _ _ rfl; intro n_c_15_16_ a_c_15_16_ b_c_15_16_ _ _ _ s_c_15_16_ _ _ _ _
  refine (?g23 : ∀ n a b d r t s u v p, H.c 15 17 = .FunctionDef n a b d r t s u v p → Params → Frag) _ _ _ _ _ _ _ _ _ _ rfl; intro n_c_15_17_ a_c_15_17_ b_c_15_17_ _ _ _ s_c_15_17_ _ _ _ _
  refine (?g24 : ∀ n a b d r t s u v p, H.c 15 18 = .FunctionDef n a b d r t s u v p → Params → Frag) _ _ _ _ _ _ _ _ _ _ rfl; intro n_c_15_18_ a_c_15_18_ b_c_15_18_ _ _ _ s_c_15_18_ _ _ _ _
  refine (?g25 : ∀ n a b d r t s u v p, H.c 15 19 = .FunctionDef n a b d r t s u v p → Params → Frag) _ _ _ _ _ _ _ _ _ _ rfl; intro n_c_15_19_ a_c_15_19_ b_c_15_19_ _ _ _ s_c_15_19_ _ _ _ _
  refine (?g26 : ∀ n a b d r t s u v p, H.c 15 20 = .FunctionDef n a b d r t s u v p → Params → Frag) _ _ _ _ _ _ _ _ _ _ rfl; intro n_c_15_20_ a_c_15_20_ b_c_15_20_ _ _ _ s_c_15_20_ _ _ _ _
  refine (?g27 : ∀ n a b d r t s u v p, H.c 15 21 = .FunctionDef n a b d r t s u v p → Params → Frag) _ _ _ _ _ _ _ _ _ _ rfl; intro n_c_15_21_ a_c_15_21_ b_c_15_21_ _ _ _ s_c_15_21_ _ _ _ _
  refine (?g28 : ∀ n a b d r t s u v p, H.c 15 22 = .FunctionDef n a b d r t s u v p → Params → Frag) _ _ _ _ _ _ _ _ _ _ rfl; intro n_c_15_22_ a_c_15_22_ b_c_15_22_ _ _ _ s_c_15_22_ _ _ _ _
  refine (?g29 : ∀ n a b d r t s u v p, H.c 15 23 = .FunctionDef n a b d r t s u v p → Params → Frag) _ _ _ _ _ _ _ _ _ _ rfl; intro n_c_15_23_ a_c_15_23_ b_c_15_23_ _ _ _ s_c_15_23_ _ _ _ _
  refine (?g30 : ∀ n a b d r t s u v p, H.c 15 24 = .FunctionDef n a b d r t s u v p → Params → Frag) _ _ _ _ _ _ _ _ _ _ rfl; intro n_c_15_24_ a_c_15_24_ b_c_15_24_ _ _ _ s_c_15_24_ _ _ _ _
  refine (?g31 : ∀ n a b d r t s u v p, H.c 15 25 = .FunctionDef n a b d r t s u v p → Params → Frag) _ _ _ _ _ _ _ _ _ _ rfl; intro n_c_15_25_ a_c_15_25_ b_c_15_25_ _ _ _ s_c_15_25_ _ _ _ _
  refine (?g32 : ∀ n a b d r t s u v p, H.c 15 26 = .FunctionDef n a b d r t s u v p → Params → Frag) _ _ _ _ _ _ _ _ _ _ rfl; intro n_c_15_26_ a_c_15_26_ b_c_15_26_ _ _ _ s_c_15_26_ _ _ _ _
  refine (?g33 : ∀ n a b d r t s u v p, H.c 15 27 = .FunctionDef n a b d r t s u v p → Params → Frag) _ _ _ _ _ _ _ _ _ _ rfl; intro n_c_15_27_ a_c_15_27_ b_c_15_27_ _ _ _ s_c_15_27_ _ _ _ _
  refine (?g34 : ∀ n a b d r t s u v p, H.c 15 28 = .FunctionDef n a b d r t s u v p → Params → Frag) _ _ _ _ _ _ _ _ _ _ rfl; intro n_c_15_28_ a_c_15_28_ b_c_15_28_ _ _ _ s_c_15_28_ _ _ _ _
  refine (?g35 : ∀ n a b d r t s u v p, H.c 15 29 = .FunctionDef n a b d r t s u v p → Params → Frag) _ _ _ _ _ _ _ _ _ _ rfl; intro n_c_15_29_ a_c_15_29_ b_c_15_29_ _ _ _ s_c_15_29_ _ _ _ _
  refine (?g36 : ∀ n a b d r t s u v p, H.c 15 30 = .FunctionDef n a b d r t s u v p → Params → Frag) _ _ _ _ _ _ _ _ _ _ rfl; intro n_c_15_30_ a_c_15_30_ b_c_15_30_ _ _ _ s_c_15_30_ _ _ _ _
  refine (?g37 : ∀ n a b d r t s u v p, H.c 16 1 = .FunctionDef n a b d r t s u v p → Params → Frag) _ _ _ _ _ _ _ _ _ _ rfl; intro n_c_16_1_ a_c_16_1_ b_c_16_1_ _ _ _ s_c_16_1_ _ _ _ _
  refine (?g38 : ∀ n a b d r t s u v p, H.c 16 2 = .FunctionDef n a b d r t s u v p → Params → Frag) _ _ _ _ _ _ _ _ _ _ rfl; intro n_c_16_2_ a_c_16_2_ b_c_16_2_ _ _ _ s_c_16_2_ _ _ _ _
  refine (?g39 : ∀ n a b d r t s u v p, H.c 16 3 = .FunctionDef n a b d r t s u v p → Params → Frag) _ _ _ _ _ _ _ _ _ _ rfl; intro n_c_16_3_ a_c_16_3_ b_c_16_3_ _ _ _ s_c_16_3_ _ _ _ _
  refine (?g40 : ∀ n a b d r t s u v p, H.c 16 4 = .FunctionDef n a b d r t s u v p → Params → Frag) _ _ _ _ _ _ _ _ _ _ rfl; intro n_c_16_4_ a_c_16_4_ b_c_16_4_ _ _ _ s_c_16_4_ _ _ _ _
  refine (?g41 : ∀ n a b d r t s u v p, H.c 16 5 = .FunctionDef n a b d r t s u v p → Params → Frag) _ _ _ _ _ _ _ _ _ _ rfl; intro n_c_16_5_ a_c_16_5_ b_c_16_5_ _ _ _ s_c_16_5_ _ _ _ _
  refine (?g42 : ∀ n a b d r t s u v p, H.c 16 6 = .FunctionDef n a b d r t s u v p → Params → Frag) _ _ _ _ _ _ _ _ _ _ rfl; intro n_c_16_6_ a_c_16_6_ b_c_16_6_ _ _ _ s_c_16_6_ _ _ _ _
  refine (?g43 : ∀ n a b d r t s u v p, H.c 16 7 = .FunctionDef n a b d r t s u v p → Params → Frag) _ _ _ _ _ _ _ _ _ _ rfl; intro n_c_16_7_ a_c_16_7_ b_c_16_7_ _ _ _ s_c_16_7_ _ _ _ _
  refine (?g44 : ∀ n a b d r t s u v p, H.c 16 8 = .FunctionDef n a b d r t s u v p → Params → Frag) _ _ _ _ _ _ _ _ _ _ rfl; intro n_c_16_8_ a_c_16_8_ b_c_16_8_ _ _ _ s_c_16_8_ _ _ _ _
  refine (?g45 : ∀ n a b d r t s u v p, H.c 16 9 = .FunctionDef n a b d r t s u v p → Params → Frag) _ _ _ _ _ _ _ _ _ _ rfl; intro n_c_16_9_ a_c_16_9_ b_c_16_9_ _ _ _ s_c_16_9_ _ _ _ _
  refine (?g46 : ∀ n a b d r t s u v p, H.c 16 10 = .FunctionDef n a b d r t s u v p → Params → Frag) _ _ _ _ _ _ _ _ _ _ rfl; intro n_c_16_10_ a_c_16_10_ b_c_16_10_ _ _ _ s_c_16_10_ _ _ _ _
  refine (?g47 : ∀ n a b d r t s u v p, H.c 16 11 = .FunctionDef n a b d r t s u v p → Params → Frag) _ _ _ _ _ _ _ _ _ _ rfl; intro n_c_16_11_ a_c_16_11_ b_c_16_11_ _ _ _ s_c_16_11_ _ _ _ _
  refine (?g48 : ∀ n a b d r t s u v p, H.c 16 12 = .FunctionDef n a b d r t s u v p → Params → Frag) _ _ _ _ _ _ _ _ _ _ rfl; intro n_c_16_12_ a_c_16_12_ b_c_16_12_ _ _ _ s_c_16_12_ _ _ _ _
  refine (?g49 : ∀ n a b d r t s u v p, H.c 16 13 = .FunctionDef n a b d r t s u v p → Params → Frag) _ _ _ _ _ _ _ _ _ _ rfl; intro n_c_16_13_ a_c_16_13_ b_c_16_13_ _ _ _ s_c_16_13_ _ _ _ _
  refine (?g50 : ∀ n a b d r t s u v p, H.c 16 14 = .FunctionDef n a b d r t s u v p → Params → Frag) _ _ _ _ _ _ _ _ _ _ rfl; intro n_c_16_14_ a_c_16_14_ b_c_16_14_ _ _ _ s_c_16_14_ _ _ _ _
  refine (?g51 : ∀ n a b d r t s u v p, H.c 16 15 = .FunctionDef n a b d r t s u v p → Params → Frag) _ _ _ _ _ _ _ _ _ _ rfl; intro n_c_16_15_ a_c_16_15_ b_c_16_15_ _ _ _ s_c_16_15_ _ _ _ _
  refine (?g52 : ∀ n a b d r t s u v p, H.c 16 16 = .FunctionDef n a b d r t s u v p → Params → Frag) _ _ _ _ _ _ _ _ _ _ rfl; intro n_c_16_16_ a_c_16_16_ b_c_16_16_ _ _ _ s_c_16_16_ _ _ _ _
  refine (?g53 : ∀ n a b d r t s u v p, H.c 16 17 = .FunctionDef n a b d r t s u v p → Params → Frag) _ _ _ _ _ _ _ _ _ _ rfl; intro n_c_16_17_ a_c_16_17_ b_c_16_17_ _ _ _ s_c_16_17_ _ _ _ _
  refine (?g54 : ∀ n a b d r t s u v p, H.c 16 18 = .FunctionDef n a b d r t s u v p → Params → Frag) _ _ _ _ _ _ _ _ _ _ rfl; intro n_c_16_18_ a_c_16_18_ b_c_16_18_ _ _ _ s_c_16_18_ _ _ _ _
  refine (?g55 : ∀ n a b d r t s u v p, H.c 16 19 = .FunctionDef n a b d r t s u v p → Params → Frag) _ _ _ _ _ _ _ _ _ _ rfl; intro n_c_16_19_ a_c_16_19_ b_c_16_19_ _ _ _ s_c_16_19_ _ _ _ _
  refine (?g56 : ∀ n a b d r t s u v p, H.c 16 20 = .FunctionDef n a b d r t s u v p → Params → Frag) _ _ _ _ _ _ _ _ _ _ rfl; intro n_c_16_20_ a_c_16_20_ b_c_16_20_ _ _ _ s_c_16_20_ _ _ _ _
  refine (?g57 : ∀ n a b d r t s u v p, H.c 16 21 = .FunctionDef n a b d r t s u v p → Params → Frag) _ _ _ _ _ _ _ _ _ _ rfl; intro n_c_16_21_ a_c_16_21_ b_c_16_21_ _ _ _ s_c_16_21_ _ _ _ _
  refine (?g58 : ∀ n a b d r t s u v p, H.c 16 22 = .FunctionDef n a b d r t s u v p → Params → Frag) _ _ _ _ _ _ _ _ _ _ rfl; intro n_c_16_22_ a_c_16_22_ b_c_16_22_ _ _ _ s_c_16_22_ _ _ _ _
  refine (?g59 : ∀ n a b d r t s u v p, H.c 16 23 = .FunctionDef n a b d r t s u v p → Params → Frag) _ _ _ _ _ _ _ _ _ _ rfl; intro n_c_16_23_ a_c_16_23_ b_c_16_23_ _ _ _ s_c_16_23_ _ _ _ _
  refine (?g60 : ∀ n a b d r t s u v p, H.c 16 24 = .FunctionDef n a b d r t s u v p → Params → Frag) _ _ _ _ _ _ _ _ _ _ rfl; intro n_c_16_24_ a_c_16_24_ b_c_16_24_ _ _ _ s_c_16_24_ _ _ _ _
  refine (?g61 : ∀ n a b d r t s u v p, H.c 16 25 = .FunctionDef n a b d r t s u v p → Params → Frag) _ _ _ _ _ _ _ _ _ _ rfl; intro n_c_16_25_ a_c_16_25_ b_c_16_25_ _ _ _ s_c_16_25_ _ _ _ _
  refine (?g62 : ∀ n a b d r t s u v p, H.c 16 26 = .FunctionDef n a b d r t s u v p → Params → Frag) _ _ _ _ _ _ _ _ _ _ rfl; intro n_c_16_26_ a_c_16_26_ b_c_16_26_ _ _ _ s_c_16_26_ _ _ _ _
  refine (?g63 : ∀ n a b d r t s u v p, H.c 16 27 = .FunctionDef n a b d r t s u v p → Params → Frag) _ _ _ _ _ _ _ _ _ _ rfl; intro n_c_16_27_ a_c_16_27_ b_c_16_27_ _ _ _ s_c_16_27_ _ _ _ _
  refine (?g64 : ∀ n a b d r t s u v p, H.c 16 28 = .FunctionDef n a b d r t s u v p → Params → Frag) _ _ _ _ _ _ _ _ _ _ rfl; intro n_c_16_28_ a_c_16_28_ b_c_16_28_ _ _ _ s_c_16_28_ _ _ _ _
  refine (?g65 : ∀ n a b d r t s u v p, H.c 16 29 = .FunctionDef n a b d r t s u v p → Params → Frag) _ _ _ _ _ _ _ _ _ _ rfl; intro n_c_16_29_ a_c_16_29_ b_c_16_29_ _ _ _ s_c_16_29_ _ _ _ _
  refine (?g66 : ∀ n a b d r t s u v p, H.c 16 30 = .FunctionDef n a b d r t s u v p → Params → Frag) _ _ _ _ _ _ _ _ _ _ rfl; intro n_c_16_30_ a_c_16_30_ b_c_16_30_ _ _ _ s_c_16_30_ _ _ _ _
  refine (?g67 : ∀ n a b d r t s u v p, H.c 16 31 = .FunctionDef n a b d r t s u v p → Params → Frag) _ _ _ _ _ _ _ _ _ _ rfl; intro n_c_16_31_ a_c_16_31_ b_c_16_31_ _ _ _ s_c_16_31_ _ _ _ _
  refine (?g68 : ∀ n a b d r t s u v p, H.c 16 32 = .FunctionDef n a b d r t s u v p → Params → Frag) _ _ _ _ _ _ _ _ _ _ rfl; intro n_c_16_32_ a_c_16_32_ b_c_16_32_ _ _ _ s_c_16_32_ _ _ _ _
  refine (?g69 : ∀ n a b d r t s u v p, H.s 18 = .FunctionDef n a b d r t s u v p → Params → Frag) _ _ _ _ _ _ _ _ _ _ rfl; intro n_s_18_ a_s_18_ b_s_18_ _ _ _ s_s_18_ _ _ _ _
  refine (?g70 : ∀ n a b d r t s u v p, H.s 19 = .FunctionDef n a b d r t s u v p → Params → Frag) _ _ _ _ _ _ _ _ _ _ rfl; intro n_s_19_ a_s_19_ b_s_19_ _ _ _ s_s_19_ _ _ _ _
  refine (?g71 : ∀ n a b d r t s u v p, H.s 20 = .FunctionDef n a b d r t s u v p → Params → Frag) _ _ _ _ _ _ _ _ _ _ rfl; intro n_s_20_ a_s_20_ b_s_20_ _ _ _ s_s_20_ _ _ _ _
  refine (?g72 : ∀ n a b d r t s u v p, H.s 21 = .FunctionDef n a b d r t s u v p → Params → Frag) _ _ _ _ _ _ _ _ _ _ rfl; intro n_s_21_ a_s_21_ b_s_21_ _ _ _ s_s_21_ _ _ _ _
  refine (?g73 : ∀ n a b d r t s u v p, H.s 22 = .FunctionDef n a b d r t s u v p → Params → Frag) _ _ _ _ _ _ _ _ _ _ rfl; intro n_s_22_ a_s_22_ b_s_22_ _ _ _ s_s_22_ _ _ _ _
  refine (?g74 : ∀ n a b d r t s u v p, H.s 24 = .FunctionDef n a b d r t s u v p → Params → Frag) _ _ _ _ _ _ _ _ _ _ rfl; intro n_s_24_ a_s_24_ b_s_24_ _ _ _ s_s_24_ _ _ _ _
  refine (?g75 : ∀ n a b d r t s u v p, H.c 26 0 = .FunctionDef n a b d r t s u v p → Params → Frag) _ _ _ _ _ _ _ _ _ _ rfl; intro n_c_26_0_ a_c_26_0_ b_c_26_0_ _ _ _ s_c_26_0_ _ _ _ _
  refine (?g76 : ∀ n a b d r t s u v p, H.c 26 1 = .FunctionDef n a b d r t s u v p → Params → Frag) _ _ _ _ _ _ _ _ _ _ rfl; intro n_c_26_1_ a_c_26_1_ b_c_26_1_ _ _ _ s_c_26_1_ _ _ _ _
  refine (?g77 : ∀ n a b d r t s u v p, H.c 26 2 = .FunctionDef n a b d r t s u v p → Params → Frag) _ _ _ _ _ _ _ _ _ _ rfl; intro n_c_26_2_ a_c_26_2_ b_c_26_2_ _ _ _ s_c_26_2_ _ _ _ _
  refine (?g78 : ∀ n a b d r t s u v p, H.c 26 3 = .FunctionDef n a b d r t s u v p → Params → Frag) _ _ _ _ _ _ _ _ _ _ rfl; intro n_c_26_3_ a_c_26_3_ b_c_26_3_ _ _ _ s_c_26_3_ _ _ _ _
  refine (?g79 : ∀ n a b d r t s u v p, H.c 26 4 = .FunctionDef n a b d r t s u v p → Params → Frag) _ _ _ _ _ _ _ _ _ _ rfl; intro n_c_26_4_ a_c_26_4_ b_c_26_4_ _ _ _ s_c_26_4_ _ _ _ _
  refine (?g80 : ∀ n a b d r t s u v p, H.c 26 5 = .FunctionDef n a b d r t s u v p → Params → Frag) _ _ _ _ _ _ _ _ _ _ rfl; intro n_c_26_5_ a_c_26_5_ b_c_26_5_ _ _ _ s_c_26_5_ _ _ _ _
  refine (?g81 : ∀ n a b d r t s u v p, H.c 26 6 = .FunctionDef n a b d r t s u v p → Params → Frag) _ _ _ _ _ _ _ _ _ _ rfl; intro n_c_26_6_ a_c_26_6_ b_c_26_6_ _ _ _ s_c_26_6_ _ _ _ _
  refine (?g82 : ∀ n a b d r t s u v p, H.c 26 7 = .FunctionDef n a b d r t s u v p → Params → Frag) _ _ _ _ _ _ _ _ _ _ rfl; intro n_c_26_7_ a_c_26_7_ b_c_26_7_ _ _ _ s_c_26_7_ _ _ _ _
  refine (?g83 : ∀ n a b d r t s u v p, H.c 26 8 = .FunctionDef n a b d r t s u v p → Params → Frag) _ _ _ _ _ _ _ _ _ _ rfl; intro n_c_26_8_ a_c_26_8_ b_c_26_8_ _ _ _ s_c_26_8_ _ _ _ _
  refine (?g84 : ∀ n a b d r t s u v p, H.c 26 9 = .FunctionDef n a b d r t s u v p → Params → Frag) _ _ _ _ _ _ _ _ _ _ rfl; intro n_c_26_9_ a_c_26_9_ b_c_26_9_ _ _ _ s_c_26_9_ _ _ _ _
  refine (?g85 : ∀ n a b d r t s u v p, H.c 26 10 = .FunctionDef n a b d r t s u v p → Params → Frag) _ _ _ _ _ _ _ _ _ _ rfl; intro n_c_26_10_ a_c_26_10_ b_c_26_10_ _ _ _ s_c_26_10_ _ _ _ _
  refine (?g86 : ∀ n a b d r t s u v p, H.s 27 = .FunctionDef n a b d r t s u v p → Params → Frag) _ _ _ _ _ _ _ _ _ _ rfl; intro n_s_27_ a_s_27_ b_s_27_ _ _ _ s_s_27_ _ _ _ _
  refine (?g87 : ∀ n a b d r t s u v p, H.s 28 = .FunctionDef n a b d r t s u v p → Params → Frag) _ _ _ _ _ _ _ _ _ _ rfl; intro n_s_28_ a_s_28_ b_s_28_ _ _ _ s_s_28_ _ _ _ _
  refine (?g88 : ∀ n a b d r t s u v p, H.s 31 = .FunctionDef n a b d r t s u v p → Params → Frag) _ _ _ _ _ _ _ _ _ _ rfl; intro n_s_31_ a_s_31_ b_s_31_ _ _ _ s_s_31_ _ _ _ _
  refine (?g89 : ∀ n a b d r t s u v p, H.s 33 = .FunctionDef n a b d r t s u v p → Params → Frag) _ _ _ _ _ _ _ _ _ _ rfl; intro n_s_33_ a_s_33_ b_s_33_ _ _ _ s_s_33_ _ _ _ _
  refine (?g90 : ∀ n a b d r t s u v p, H.s 34 = .FunctionDef n a b d r t s u v p → Params → Frag) _ _ _ _ _ _ _ _ _ _ rfl; intro n_s_34_ a_s_34_ b_s_34_ _ _ _ s_s_34_ _ _ _ _
  refine (?g91 : ∀ n a b d r t s u v p, H.s 35 = .FunctionDef n a b d r t s u v p → Params → Frag) _ _ _ _ _ _ _ _ _ _ rfl; intro n_s_35_ a_s_35_ b_s_35_ _ _ _ s_s_35_ _ _ _ _
  refine (?g92 : ∀ n a b d r t s u v p, H.s 36 = .FunctionDef n a b d r t s u v p → Params → Frag) _ _ _ _ _ _ _ _ _ _ rfl; intro n_s_36_ a_s_36_ b_s_36_ _ _ _ s_s_36_ _ _ _ _
  refine (?g93 : ∀ n a b d r t s u v p, H.s 37 = .FunctionDef n a b d r t s u v p → Params → Frag) _ _ _ _ _ _ _ _ _ _ rfl; intro n_s_37_ a_s_37_ b_s_37_ _ _ _ s_s_37_ _ _ _ _
  exact fun P => (nat_lit 2, ⟨.none, none, .dict #[⟨PyData.keyHash P (Str.ofString "\x69mport.loaded._sre"), .str (Str.ofString "\x69mport.loaded._sre") 183, .bool true⟩, ⟨PyData.keyHash P (Str.ofString "class._frozen_importlib.BuiltinImporter"), .str (Str.ofString "class._frozen_importlib.BuiltinImporter") 185, .ref 14⟩, ⟨PyData.keyHash P (Str.ofString "watched.\x69mport"), .str (Str.ofString "watched.\x69mport") 206, .ref 18⟩, ⟨PyData.keyHash P (Str.ofString "class._frozen_importlib.ModuleSpec"), .str (Str.ofString "class._frozen_importlib.ModuleSpec") 216, .ref 22⟩, ⟨PyData.keyHash P (Str.ofString "sys.modules.booked-epoch"), .str (Str.ofString "sys.modules.booked-epoch") 245, .int 4 0⟩, ⟨PyData.keyHash P (Str.ofString "\x69mport.later-laid._sre"), .str (Str.ofString "\x69mport.later-laid._sre") 270, .bool true⟩, ⟨PyData.keyHash P (Str.ofString "watched.library"), .str (Str.ofString "watched.library") 272, .ref 27⟩, ⟨PyData.keyHash P (Str.ofString "watched.library-objects"), .str (Str.ofString "watched.library-objects") 0, .str (Str.ofString "\x0c\x1e") 0⟩, ⟨PyData.keyHash P (Str.ofString "watched.library-deep._sre"), .str (Str.ofString "watched.library-deep._sre") 273, .str (Str.ofString "\x04\x00\x00\x0b\x04\x00\x00\x0b\x04\x00\x00\x03\x04\x00\x00\x0b\x08\x04dict\x02") 0⟩, ⟨PyData.keyHash P (Str.ofString "\x69mport.loaded._collections"), .str (Str.ofString "\x69mport.loaded._collections") 280, .bool true⟩, ⟨PyData.keyHash P (Str.ofString "sys.modules.landed._collections"), .str (Str.ofString "sys.modules.landed._collections") 294, .bool true⟩, ⟨PyData.keyHash P (Str.ofString "\x69mport.later-laid._collections"), .str (Str.ofString "\x69mport.later-laid._collections") 309, .bool true⟩, ⟨PyData.keyHash P (Str.ofString "watched.library-deep._collections"), .str (Str.ofString "watched.library-deep._collections") 311, .str (Str.ofString "\x04\x00\x00\x1d\x04\x00\x00\x1d\x04\x00\x00\x03\x04\x00\x00\x1d\x08\x04dict\x02") 0⟩, ⟨PyData.keyHash P (Str.ofString "type.__subclasses__.OSError.0"), .str (Str.ofString "type.__subclasses__.OSError.0") 439, .int 95 0⟩, ⟨PyData.keyHash P (Str.ofString "type.__subclasses__.OSError.n"), .str (Str.ofString "type.__subclasses__.OSError.n") 440, .int 1 0⟩] 15, #[]⟩) ::
    (nat_lit 3, ⟨.type "dict", none, .dict #[⟨PyData.keyHash P (Str.ofString "__name__"), .str (Str.ofString "__name__") 165, .str (Str.ofString "law_ij0137_01") 1287⟩, ⟨PyData.keyHash P (Str.ofString "__doc__"), .str (Str.ofString "__doc__") 166, .none⟩, ⟨PyData.keyHash P (Str.ofString "__package__"), .str (Str.ofString "__package__") 167, .none⟩, ⟨PyData.keyHash P (Str.ofString "__loader__"), .str (Str.ofString "__loader__") 168, .builtin "__main__.__loader__#opaque"⟩, ⟨PyData.keyHash P (Str.ofString "__spec__"), .str (Str.ofString "__spec__") 169, .none⟩, ⟨PyData.keyHash P (Str.ofString "__annotations__"), .str (Str.ofString "__annotations__") 170, .ref 6⟩, ⟨PyData.keyHash P (Str.ofString "__builtins__"), .str (Str.ofString "__builtins__") 171, .ref 4⟩, ⟨PyData.keyHash P (Str.ofString "__file__"), .str (Str.ofString "__file__") 173, .str (Str.ofString "/claim/cut.py") 172⟩, ⟨PyData.keyHash P (Str.ofString "__cached__"), .str (Str.ofString "__cached__") 174, .none⟩, ⟨PyData.keyHash P (Str.ofString "_sre"), .str (Str.ofString "_sre") 275, .ref 12⟩, ⟨PyData.keyHash P (Str.ofString "deque"), .str (Str.ofString "deque") 317, .type "collections.deque"⟩, ⟨PyData.keyHash P (Str.ofString "_wall"), .str (Str.ofString "_wall") 330, .ref 44⟩, ⟨PyData.keyHash P (Str.ofString "_deduplicate"), .str (Str.ofString "_deduplicate") 341, .ref 52⟩, ⟨PyData.keyHash P (Str.ofString "_deduplicate_unhashable"), .str (Str.ofString "_deduplicate_unhashable") 350, .ref 59⟩, ⟨PyData.keyHash P (Str.ofString "_compare_args_orderless"), .str (Str.ofString "_compare_args_orderless") 362, .ref 66⟩, ⟨PyData.keyHash P (Str.ofString "_twin_re_1"), .str (Str.ofString "_twin_re_1") 402, .ref 71⟩, ⟨PyData.keyHash P (Str.ofString "_whence"), .str (Str.ofString "_whence") 412, .ref 78⟩, ⟨PyData.keyHash P (Str.ofString "_index"), .str (Str.ofString "_index") 420, .ref 85⟩, ⟨PyData.keyHash P (Str.ofString "UnsupportedOperation"), .str (Str.ofString "UnsupportedOperation") 442, .ref 95⟩, ⟨PyData.keyHash P (Str.ofString "IOBase"), .str (Str.ofString "IOBase") 474, .ref 115⟩, ⟨PyData.keyHash P (Str.ofString "BufferedIOBase"), .str (Str.ofString "BufferedIOBase") 492, .ref 130⟩, ⟨PyData.keyHash P (Str.ofString "TextIOBase"), .str (Str.ofString "TextIOBase") 510, .ref 142⟩, ⟨PyData.keyHash P (Str.ofString "BytesIO"), .str (Str.ofString "BytesIO") 772, .ref 372⟩, ⟨PyData.keyHash P (Str.ofString "StringIO"), .str (Str.ofString "StringIO") 1059, .ref 619⟩, ⟨PyData.keyHash P (Str.ofString "_kind"), .str (Str.ofString "_kind") 1070, .ref 628⟩, ⟨PyData.keyHash P (Str.ofString "_fspath"), .str (Str.ofString "_fspath") 1079, .ref 635⟩, ⟨PyData.keyHash P (Str.ofString "_check_arg_types"), .str (Str.ofString "_check_arg_types") 1089, .ref 642⟩, ⟨PyData.keyHash P (Str.ofString "isabs"), .str (Str.ofString "isabs") 1096, .ref 649⟩, ⟨PyData.keyHash P (Str.ofString "join"), .str (Str.ofString "join") 1107, .ref 773⟩, ⟨PyData.keyHash P (Str.ofString "join_path"), .str (Str.ofString "join_path") 1108, .ref 656⟩, ⟨PyData.keyHash P (Str.ofString "dirname"), .str (Str.ofString "dirname") 1118, .ref 663⟩, ⟨PyData.keyHash P (Str.ofString "shlex"), .str (Str.ofString "shlex") 1259, .ref 754⟩, ⟨PyData.keyHash P (Str.ofString "split"), .str (Str.ofString "split") 1269, .ref 766⟩, ⟨PyData.keyHash P (Str.ofString "join_shlex"), .str (Str.ofString "join_shlex") 1277, .ref 773⟩, ⟨PyData.keyHash P (Str.ofString "_find_unsafe"), .str (Str.ofString "_find_unsafe") 1279, .ref 774⟩, ⟨PyData.keyHash P (Str.ofString "quote"), .str (Str.ofString "quote") 1286, .ref 781⟩, ⟨PyData.keyHash P (Str.ofString "_law_lines"), .str (Str.ofString "_law_lines") 1297, .ref 788⟩, ⟨PyData.keyHash P (Str.ofString "_law_written"), .str (Str.ofString "_law_written") 1303, .ref 793⟩, ⟨PyData.keyHash P (Str.ofString "_law_firsts"), .str (Str.ofString "_law_firsts") 1309, .ref 798⟩, ⟨PyData.keyHash P (Str.ofString "_law_refused"), .str (Str.ofString "_law_refused") 1316, .ref 805⟩, ⟨PyData.keyHash P (Str.ofString "law"), .str (Str.ofString "law") 1322, .ref 810⟩] 41, #[]⟩) ::
    (nat_lit 38, ⟨.type "tuple", none, .seq #[] 0, #[]⟩) ::
    (nat_lit 40, ⟨.type "tuple", none, .seq #[.str (Str.ofString "k") 327] 0, #[]⟩) ::
    (nat_lit 41, ⟨.type "tuple", none, .seq #[] 0, #[]⟩) ::
    (nat_lit 43, ⟨.type "code", none, .fields #[.str (Str.ofString "_wall") 324, .str (Str.ofString "_wall") 325, .str (Str.ofString "/claim/cut.py") 326, .int 3 0, .int 1 0, .int 0 0, .int 0 0, .int 3 0, .ref 38, .bool true, .int 318 0, .ref 39, .none, .ref 40, .ref 41, .ref 42, .int 328 0, .int 3 0, .str (Str.ofString "/claim/cut.py") 329], #[]⟩) ::
    (nat_lit 44, ⟨.type "function", none, .func ⟨n_s_2_, Str.ofString "_wall", a_s_2_, .stmts b_s_2_, s_s_2_, 3, [], .none, .none, .none, .str (Str.ofString "__main__") 164, none, .ref 43, .none, 0⟩, #[]⟩) ::
    (nat_lit 45, ⟨.type "dict", none, .dict #[⟨PyData.keyHash P (Str.ofString "unhashable_fallback"), .str (Str.ofString "unhashable_fallback") 333, .bool false⟩] 1, #[]⟩) ::
    (nat_lit 46, ⟨.type "tuple", none, .seq #[] 0, #[]⟩) ::
    (nat_lit 48, ⟨.type "tuple", none, .seq #[.str (Str.ofString "params") 337, .str (Str.ofString "unhashable_fallback") 338] 0, #[]⟩) ::
    (nat_lit 49, ⟨.type "tuple", none, .seq #[] 0, #[]⟩) ::
    (nat_lit 51, ⟨.type "code", none, .fields #[.str (Str.ofString "_deduplicate") 334, .str (Str.ofString "_deduplicate") 335, .str (Str.ofString "/claim/cut.py") 336, .int 7 0, .int 1 0, .int 0 0, .int 1 0, .int 3 0, .ref 46, .bool true, .int 318 0, .ref 47, .none, .ref 48, .ref 49, .ref 50, .int 339 0, .int 7 0, .str (Str.ofString "/claim/cut.py") 340], #[]⟩) ::
    (nat_lit 52, ⟨.type "function", none, .func ⟨n_s_4_, Str.ofString "_deduplicate", a_s_4_, .stmts b_s_4_, s_s_4_, 3, [], .none, .ref 45, .none, .str (Str.ofString "cpy313.typing") 331, none, .ref 51, .none, 0⟩, #[]⟩) ::
    (nat_lit 53, ⟨.type "tuple", none, .seq #[] 0, #[]⟩) ::
    (nat_lit 55, ⟨.type "tuple", none, .seq #[.str (Str.ofString "unhashable_params") 345, .str (Str.ofString "new_unhashable") 346, .str (Str.ofString "t") 347] 0, #[]⟩) ::
    (nat_lit 56, ⟨.type "tuple", none, .seq #[] 0, #[]⟩) ::
    (nat_lit 58, ⟨.type "code", none, .fields #[.str (Str.ofString "_deduplicate_unhashable") 342, .str (Str.ofString "_deduplicate_unhashable") 343, .str (Str.ofString "/claim/cut.py") 344, .int 14 0, .int 1 0, .int 0 0, .int 0 0, .int 3 0, .ref 53, .bool true, .int 318 0, .ref 54, .none, .ref 55, .ref 56, .ref 57, .int 348 0, .int 14 0, .str (Str.ofString "/claim/cut.py") 349], #[]⟩) ::
    (nat_lit 59, ⟨.type "function", none, .func ⟨n_s_5_, Str.ofString "_deduplicate_unhashable", a_s_5_, .stmts b_s_5_, s_s_5_, 3, [], .none, .none, .none, .str (Str.ofString "cpy313.typing") 331, none, .ref 58, .none, 0⟩, #[]⟩) ::
    (nat_lit 60, ⟨.type "tuple", none, .seq #[] 0, #[]⟩) ::
    (nat_lit 62, ⟨.type "tuple", none, .seq #[.str (Str.ofString "first_args") 354, .str (Str.ofString "second_args") 355, .str (Str.ofString "first_unhashable") 356, .str (Str.ofString "second_unhashable") 357, .str (Str.ofString "t") 358, .str (Str.ofString "elem") 359] 0, #[]⟩) ::
    (nat_lit 63, ⟨.type "tuple", none, .seq #[] 0, #[]⟩) ::
    (nat_lit 65, ⟨.type "code", none, .fields #[.str (Str.ofString "_compare_args_orderless") 351, .str (Str.ofString "_compare_args_orderless") 352, .str (Str.ofString "/claim/cut.py") 353, .int 20 0, .int 2 0, .int 0 0, .int 0 0, .int 3 0, .ref 60, .bool true, .int 318 0, .ref 61, .none, .ref 62, .ref 63, .ref 64, .int 360 0, .int 20 0, .str (Str.ofString "/claim/cut.py") 361], #[]⟩) ::
    (nat_lit 66, ⟨.type "function", none, .func ⟨n_s_6_, Str.ofString "_compare_args_orderless", a_s_6_, .stmts b_s_6_, s_s_6_, 3, [], .none, .none, .none, .str (Str.ofString "cpy313.typing") 331, none, .ref 65, .none, 0⟩, #[]⟩) ::
    (nat_lit 70, ⟨.type "tuple", none, .seq #[.int 14 0, .int 17 0, .int 4 0, .int 1 0, .int 1 0, .int 21 0, .int 9 0, .int 0 0, .int 604043296 0, .int 1 0, .int 0 0, .int 0 0, .int 0 0, .int 0 0, .int 0 0, .int 8 0, .int 4 0, .int 0 0, .int 13 0, .int 14 0, .int 21 0, .int 9 0, .int 0 0, .int 604043296 0, .int 1 0, .int 0 0, .int 0 0, .int 0 0, .int 0 0, .int 0 0, .int 8 0, .int 4 0, .int 0 0, .int 1 0] 0, #[]⟩) ::
    (nat_lit 71, ⟨.type "re.Pattern", none, .fields #[.str (Str.ofString "[^\\w@%+=:,./-]") 364, .int 256 401, .int 0 0, .none, .none, .ref 70, .int 0 0], #[]⟩) ::
    (nat_lit 72, ⟨.type "tuple", none, .seq #[] 0, #[]⟩) ::
    (nat_lit 74, ⟨.type "tuple", none, .seq #[.str (Str.ofString "n") 408, .str (Str.ofString "what") 409] 0, #[]⟩) ::
    (nat_lit 75, ⟨.type "tuple", none, .seq #[] 0, #[]⟩) ::
    (nat_lit 77, ⟨.type "code", none, .fields #[.str (Str.ofString "_whence") 405, .str (Str.ofString "_whence") 406, .str (Str.ofString "/claim/cut.py") 407, .int 32 0, .int 2 0, .int 0 0, .int 0 0, .int 3 0, .ref 72, .bool true, .int 318 0, .ref 73, .none, .ref 74, .ref 75, .ref 76, .int 410 0, .int 32 0, .str (Str.ofString "/claim/cut.py") 411], #[]⟩) ::
    (nat_lit 78, ⟨.type "function", none, .func ⟨n_s_9_, Str.ofString "_whence", a_s_9_, .stmts b_s_9_, s_s_9_, 3, [], .none, .none, .none, .str (Str.ofString "io") 403, none, .ref 77, .none, 0⟩, #[]⟩) ::
    (nat_lit 79, ⟨.type "tuple", none, .seq #[] 0, #[]⟩) ::
    (nat_lit 81, ⟨.type "tuple", none, .seq #[.str (Str.ofString "n") 416, .str (Str.ofString "what") 417] 0, #[]⟩) ::
    (nat_lit 82, ⟨.type "tuple", none, .seq #[] 0, #[]⟩) ::
    (nat_lit 84, ⟨.type "code", none, .fields #[.str (Str.ofString "_index") 413, .str (Str.ofString "_index") 414, .str (Str.ofString "/claim/cut.py") 415, .int 37 0, .int 2 0, .int 0 0, .int 0 0, .int 3 0, .ref 79, .bool true, .int 318 0, .ref 80, .none, .ref 81, .ref 82, .ref 83, .int 418 0, .int 37 0, .str (Str.ofString "/claim/cut.py") 419], #[]⟩) ::
    (nat_lit 85, ⟨.type "function", none, .func ⟨n_s_10_, Str.ofString "_index", a_s_10_, .stmts b_s_10_, s_s_10_, 3, [], .none, .none, .none, .str (Str.ofString "io") 403, none, .ref 84, .none, 0⟩, #[]⟩) ::
    (nat_lit 86, ⟨.type "tuple", none, .seq #[.type "OSError", .type "ValueError"] 0, #[]⟩) ::
    (nat_lit 93, ⟨.type "tuple", none, .seq #[] 0, #[]⟩) ::
    (nat_lit 94, ⟨.type "dict", none, .dict #[⟨PyData.keyHash P (Str.ofString "__module__"), .str (Str.ofString "__module__") 428, .str (Str.ofString "io") 433⟩, ⟨PyData.keyHash P (Str.ofString "__firstlineno__"), .str (Str.ofString "__firstlineno__") 432, .int 44 431⟩, ⟨PyData.keyHash P (Str.ofString "__static_attributes__"), .str (Str.ofString "__static_attributes__") 435, .ref 93⟩, ⟨PyData.keyHash P (Str.ofString "__weakref__"), .str (Str.ofString "__weakref__") 437, .ref 96⟩, ⟨PyData.keyHash P (Str.ofString "__doc__"), .str (Str.ofString "__doc__") 438, .none⟩] 3, #[]⟩) ::
    (nat_lit 95, ⟨.type "type", none, .cls ⟨Str.ofString "UnsupportedOperation", [.type "OSError", .type "ValueError"], [.ref 95, .type "OSError", .type "ValueError", .type "Exception", .type "BaseException", .type "object"], 94, Str.ofString "UnsupportedOperation", true, [], [], false, none, false⟩, #[some (.ref 86), none, some (.str (Str.ofString "UnsupportedOperation") 421), some (.str (Str.ofString "UnsupportedOperation") 429), some (.builtin "OSError.__new__"), some (.bool true)]⟩) ::
    (nat_lit 96, ⟨.type "getset_descriptor", none, .fields #[.str (Str.ofString "__weakref__") 436, .ref 95, .builtin "ExceptionGroup.__weakref__", .none], #[]⟩) ::
    (nat_lit 106, ⟨.type "tuple", none, .seq #[] 0, #[]⟩) ::
    (nat_lit 108, ⟨.type "tuple", none, .seq #[.str (Str.ofString "cls") 460, .str (Str.ofString "args") 461, .str (Str.ofString "kwargs") 462] 0, #[]⟩) ::
    (nat_lit 109, ⟨.type "tuple", none, .seq #[] 0, #[]⟩) ::
    (nat_lit 111, ⟨.type "code", none, .fields #[.str (Str.ofString "__new__") 457, .str (Str.ofString "IOBase.__new__") 458, .str (Str.ofString "/claim/cut.py") 459, .int 49 0, .int 1 0, .int 1 0, .int 0 0, .int 15 0, .ref 106, .bool true, .int 318 0, .ref 107, .none, .ref 108, .ref 109, .ref 110, .int 463 0, .int 49 0, .str (Str.ofString "/claim/cut.py") 464], #[]⟩) ::
    (nat_lit 112, ⟨.type "function", none, .func ⟨n_c_12_1_, Str.ofString "IOBase.__new__", a_c_12_1_, .stmts b_c_12_1_, s_c_12_1_, 3, [], .none, .none, .none, .str (Str.ofString "io") 403, none, .ref 111, .none, 0⟩, #[]⟩) ::
    (nat_lit 113, ⟨.type "tuple", none, .seq #[] 0, #[]⟩) ::
    (nat_lit 114, ⟨.type "dict", none, .dict #[⟨PyData.keyHash P (Str.ofString "__module__"), .str (Str.ofString "__module__") 450, .str (Str.ofString "io") 455⟩, ⟨PyData.keyHash P (Str.ofString "__firstlineno__"), .str (Str.ofString "__firstlineno__") 454, .int 46 453⟩, ⟨PyData.keyHash P (Str.ofString "__new__"), .str (Str.ofString "__new__") 465, .ref 116⟩, ⟨PyData.keyHash P (Str.ofString "__static_attributes__"), .str (Str.ofString "__static_attributes__") 466, .ref 113⟩, ⟨PyData.keyHash P (Str.ofString "__dict__"), .str (Str.ofString "__dict__") 469, .ref 117⟩, ⟨PyData.keyHash P (Str.ofString "__weakref__"), .str (Str.ofString "__weakref__") 471, .ref 118⟩, ⟨PyData.keyHash P (Str.ofString "__doc__"), .str (Str.ofString "__doc__") 472, .none⟩] 4, #[]⟩) ::
    (nat_lit 115, ⟨.type "type", none, .cls ⟨Str.ofString "IOBase", [.type "object"], [.ref 115, .type "object"], 114, Str.ofString "IOBase", true, [], [.ref 130, .ref 142], false, none, false⟩, #[none, none, some (.str (Str.ofString "IOBase") 443), some (.str (Str.ofString "IOBase") 451), some .none, some (.bool true)]⟩) ::
    (nat_lit 116, ⟨.type "staticmethod", none, .fields #[.ref 112], #[]⟩) ::
    (nat_lit 117, ⟨.type "getset_descriptor", none, .fields #[.str (Str.ofString "__dict__") 468, .ref 115, .builtin "function.__dict__", .builtin "function.__dict__#set"], #[]⟩) ::
    (nat_lit 118, ⟨.type "getset_descriptor", none, .fields #[.str (Str.ofString "__weakref__") 470, .ref 115, .builtin "ExceptionGroup.__weakref__", .none], #[]⟩) ::
    (nat_lit 121, ⟨.type "tuple", none, .seq #[.ref 115] 0, #[]⟩) ::
    (nat_lit 128, ⟨.type "tuple", none, .seq #[] 0, #[]⟩) ::
    (nat_lit 129, ⟨.type "dict", none, .dict #[⟨PyData.keyHash P (Str.ofString "__module__"), .str (Str.ofString "__module__") 482, .str (Str.ofString "io") 487⟩, ⟨PyData.keyHash P (Str.ofString "__firstlineno__"), .str (Str.ofString "__firstlineno__") 486, .int 53 485⟩, ⟨PyData.keyHash P (Str.ofString "__static_attributes__"), .str (Str.ofString "__static_attributes__") 489, .ref 128⟩, ⟨PyData.keyHash P (Str.ofString "__doc__"), .str (Str.ofString "__doc__") 490, .none⟩] 2, #[]⟩) ::
    (nat_lit 130, ⟨.type "type", none, .cls ⟨Str.ofString "BufferedIOBase", [.ref 115], [.ref 130, .ref 115, .type "object"], 129, Str.ofString "BufferedIOBase", true, [], [.ref 372], false, none, false⟩, #[some (.ref 121), none, some (.str (Str.ofString "BufferedIOBase") 475), some (.str (Str.ofString "BufferedIOBase") 483), some .none, some (.bool true)]⟩) ::
    (nat_lit 133, ⟨.type "tuple", none, .seq #[.ref 115] 0, #[]⟩) ::
    (nat_lit 140, ⟨.type "tuple", none, .seq #[] 0, #[]⟩) ::
    (nat_lit 141, ⟨.type "dict", none, .dict #[⟨PyData.keyHash P (Str.ofString "__module__"), .str (Str.ofString "__module__") 500, .str (Str.ofString "io") 505⟩, ⟨PyData.keyHash P (Str.ofString "__firstlineno__"), .str (Str.ofString "__firstlineno__") 504, .int 55 503⟩, ⟨PyData.keyHash P (Str.ofString "__static_attributes__"), .str (Str.ofString "__static_attributes__") 507, .ref 140⟩, ⟨PyData.keyHash P (Str.ofString "__doc__"), .str (Str.ofString "__doc__") 508, .none⟩] 2, #[]⟩) ::
    (nat_lit 142, ⟨.type "type", none, .cls ⟨Str.ofString "TextIOBase", [.ref 115], [.ref 142, .ref 115, .type "object"], 141, Str.ofString "TextIOBase", true, [], [.ref 619], false, none, false⟩, #[some (.ref 133), none, some (.str (Str.ofString "TextIOBase") 493), some (.str (Str.ofString "TextIOBase") 501), some .none, some (.bool true)]⟩) ::
    (nat_lit 145, ⟨.type "tuple", none, .seq #[.ref 130] 0, #[]⟩) ::
    (nat_lit 152, ⟨.type "tuple", none, .seq #[.none] 0, #[]⟩) ::
    (nat_lit 153, ⟨.type "tuple", none, .seq #[] 0, #[]⟩) ::
    (nat_lit 155, ⟨.type "tuple", none, .seq #[.str (Str.ofString "self") 528, .str (Str.ofString "initial_bytes") 529] 0, #[]⟩) ::
    (nat_lit 156, ⟨.type "tuple", none, .seq #[] 0, #[]⟩) ::
    (nat_lit 158, ⟨.type "code", none, .fields #[.str (Str.ofString "__init__") 525, .str (Str.ofString "BytesIO.__init__") 526, .str (Str.ofString "/claim/cut.py") 527, .int 60 0, .int 2 0, .int 0 0, .int 0 0, .int 3 0, .ref 153, .bool true, .int 318 0, .ref 154, .none, .ref 155, .ref 156, .ref 157, .int 530 0, .int 60 0, .str (Str.ofString "/claim/cut.py") 531], #[]⟩) ::
    (nat_lit 159, ⟨.type "function", none, .func ⟨n_c_15_1_, Str.ofString "BytesIO.__init__", a_c_15_1_, .stmts b_c_15_1_, s_c_15_1_, 3, [], .ref 152, .none, .none, .str (Str.ofString "io") 403, none, .ref 158, .none, 0⟩, #[]⟩) ::
    (nat_lit 160, ⟨.type "tuple", none, .seq #[] 0, #[]⟩) ::
    (nat_lit 162, ⟨.type "tuple", none, .seq #[.str (Str.ofString "self") 536] 0, #[]⟩) ::
    (nat_lit 163, ⟨.type "tuple", none, .seq #[] 0, #[]⟩) ::
    (nat_lit 165, ⟨.type "code", none, .fields #[.str (Str.ofString "__check") 533, .str (Str.ofString "BytesIO.__check") 534, .str (Str.ofString "/claim/cut.py") 535, .int 66 0, .int 1 0, .int 0 0, .int 0 0, .int 3 0, .ref 160, .bool true, .int 318 0, .ref 161, .none, .ref 162, .ref 163, .ref 164, .int 537 0, .int 66 0, .str (Str.ofString "/claim/cut.py") 538], #[]⟩) ::
    (nat_lit 166, ⟨.type "function", none, .func ⟨n_c_15_2_, Str.ofString "BytesIO.__check", a_c_15_2_, .stmts b_c_15_2_, s_c_15_2_, 3, [], .none, .none, .none, .str (Str.ofString "io") 403, none, .ref 165, .none, 0⟩, #[]⟩) ::
    (nat_lit 167, ⟨.type "tuple", none, .seq #[] 0, #[]⟩) ::
    (nat_lit 169, ⟨.type "tuple", none, .seq #[.str (Str.ofString "self") 543, .str (Str.ofString "limit") 544, .str (Str.ofString "start") 545, .str (Str.ofString "stop") 546, .str (Str.ofString "i") 547] 0, #[]⟩) ::
    (nat_lit 170, ⟨.type "tuple", none, .seq #[] 0, #[]⟩) ::
    (nat_lit 172, ⟨.type "code", none, .fields #[.str (Str.ofString "__line") 540, .str (Str.ofString "BytesIO.__line") 541, .str (Str.ofString "/claim/cut.py") 542, .int 70 0, .int 2 0, .int 0 0, .int 0 0, .int 3 0, .ref 167, .bool true, .int 318 0, .ref 168, .none, .ref 169, .ref 170, .ref 171, .int 548 0, .int 70 0, .str (Str.ofString "/claim/cut.py") 549], #[]⟩) ::
    (nat_lit 173, ⟨.type "function", none, .func ⟨n_c_15_3_, Str.ofString "BytesIO.__line", a_c_15_3_, .stmts b_c_15_3_, s_c_15_3_, 3, [], .none, .none, .none, .str (Str.ofString "io") 403, none, .ref 172, .none, 0⟩, #[]⟩) ::
    (nat_lit 174, ⟨.type "tuple", none, .seq #[] 0, #[]⟩) ::
    (nat_lit 176, ⟨.type "tuple", none, .seq #[.str (Str.ofString "self") 554] 0, #[]⟩) ::
    (nat_lit 177, ⟨.type "tuple", none, .seq #[] 0, #[]⟩) ::
    (nat_lit 179, ⟨.type "code", none, .fields #[.str (Str.ofString "closed") 551, .str (Str.ofString "BytesIO.closed") 552, .str (Str.ofString "/claim/cut.py") 553, .int 83 0, .int 1 0, .int 0 0, .int 0 0, .int 3 0, .ref 174, .bool true, .int 318 0, .ref 175, .none, .ref 176, .ref 177, .ref 178, .int 555 0, .int 83 0, .str (Str.ofString "/claim/cut.py") 556], #[]⟩) ::
    (nat_lit 180, ⟨.type "function", none, .func ⟨n_c_15_4_, Str.ofString "BytesIO.closed", a_c_15_4_, .stmts b_c_15_4_, s_c_15_4_, 3, [], .none, .none, .none, .str (Str.ofString "io") 403, none, .ref 179, .none, 0⟩, #[]⟩) ::
    (nat_lit 181, ⟨.type "property", none, .fields #[.ref 180, .none, .none, .none, .str (Str.ofString "closed") 558, .bool false], #[]⟩) ::
    (nat_lit 182, ⟨.type "tuple", none, .seq #[] 0, #[]⟩) ::
    (nat_lit 184, ⟨.type "tuple", none, .seq #[.str (Str.ofString "self") 562] 0, #[]⟩) ::
    (nat_lit 185, ⟨.type "tuple", none, .seq #[] 0, #[]⟩) ::
    (nat_lit 187, ⟨.type "code", none, .fields #[.str (Str.ofString "close") 559, .str (Str.ofString "BytesIO.close") 560, .str (Str.ofString "/claim/cut.py") 561, .int 87 0, .int 1 0, .int 0 0, .int 0 0, .int 3 0, .ref 182, .bool true, .int 318 0, .ref 183, .none, .ref 184, .ref 185, .ref 186, .int 563 0, .int 87 0, .str (Str.ofString "/claim/cut.py") 564], #[]⟩) ::
    (nat_lit 188, ⟨.type "function", none, .func ⟨n_c_15_5_, Str.ofString "BytesIO.close", a_c_15_5_, .stmts b_c_15_5_, s_c_15_5_, 3, [], .none, .none, .none, .str (Str.ofString "io") 403, none, .ref 187, .none, 0⟩, #[]⟩) ::
    (nat_lit 189, ⟨.type "tuple", none, .seq #[] 0, #[]⟩) ::
    (nat_lit 191, ⟨.type "tuple", none, .seq #[.str (Str.ofString "self") 569] 0, #[]⟩) ::
    (nat_lit 192, ⟨.type "tuple", none, .seq #[] 0, #[]⟩) ::
    (nat_lit 194, ⟨.type "code", none, .fields #[.str (Str.ofString "__enter__") 566, .str (Str.ofString "BytesIO.__enter__") 567, .str (Str.ofString "/claim/cut.py") 568, .int 90 0, .int 1 0, .int 0 0, .int 0 0, .int 3 0, .ref 189, .bool true, .int 318 0, .ref 190, .none, .ref 191, .ref 192, .ref 193, .int 570 0, .int 90 0, .str (Str.ofString "/claim/cut.py") 571], #[]⟩) ::
    (nat_lit 195, ⟨.type "function", none, .func ⟨n_c_15_6_, Str.ofString "BytesIO.__enter__", a_c_15_6_, .stmts b_c_15_6_, s_c_15_6_, 3, [], .none, .none, .none, .str (Str.ofString "io") 403, none, .ref 194, .none, 0⟩, #[]⟩) ::
    (nat_lit 196, ⟨.type "tuple", none, .seq #[] 0, #[]⟩) ::
    (nat_lit 198, ⟨.type "tuple", none, .seq #[.str (Str.ofString "self") 576, .str (Str.ofString "args") 577] 0, #[]⟩) ::
    (nat_lit 199, ⟨.type "tuple", none, .seq #[] 0, #[]⟩) ::
    (nat_lit 201, ⟨.type "code", none, .fields #[.str (Str.ofString "__exit__") 573, .str (Str.ofString "BytesIO.__exit__") 574, .str (Str.ofString "/claim/cut.py") 575, .int 94 0, .int 1 0, .int 0 0, .int 0 0, .int 7 0, .ref 196, .bool true, .int 318 0, .ref 197, .none, .ref 198, .ref 199, .ref 200, .int 578 0, .int 94 0, .str (Str.ofString "/claim/cut.py") 579], #[]⟩) ::
    (nat_lit 202, ⟨.type "function", none, .func ⟨n_c_15_7_, Str.ofString "BytesIO.__exit__", a_c_15_7_, .stmts b_c_15_7_, s_c_15_7_, 3, [], .none, .none, .none, .str (Str.ofString "io") 403, none, .ref 201, .none, 0⟩, #[]⟩) ::
    (nat_lit 203, ⟨.type "tuple", none, .seq #[] 0, #[]⟩) ::
    (nat_lit 205, ⟨.type "tuple", none, .seq #[.str (Str.ofString "self") 584] 0, #[]⟩) ::
    (nat_lit 206, ⟨.type "tuple", none, .seq #[] 0, #[]⟩) ::
    (nat_lit 208, ⟨.type "code", none, .fields #[.str (Str.ofString "readable") 581, .str (Str.ofString "BytesIO.readable") 582, .str (Str.ofString "/claim/cut.py") 583, .int 97 0, .int 1 0, .int 0 0, .int 0 0, .int 3 0, .ref 203, .bool true, .int 318 0, .ref 204, .none, .ref 205, .ref 206, .ref 207, .int 585 0, .int 97 0, .str (Str.ofString "/claim/cut.py") 586], #[]⟩) ::
    (nat_lit 209, ⟨.type "function", none, .func ⟨n_c_15_8_, Str.ofString "BytesIO.readable", a_c_15_8_, .stmts b_c_15_8_, s_c_15_8_, 3, [], .none, .none, .none, .str (Str.ofString "io") 403, none, .ref 208, .none, 0⟩, #[]⟩) ::
    (nat_lit 210, ⟨.type "tuple", none, .seq #[] 0, #[]⟩) ::
    (nat_lit 212, ⟨.type "tuple", none, .seq #[.str (Str.ofString "self") 591] 0, #[]⟩) ::
    (nat_lit 213, ⟨.type "tuple", none, .seq #[] 0, #[]⟩) ::
    (nat_lit 215, ⟨.type "code", none, .fields #[.str (Str.ofString "writable") 588, .str (Str.ofString "BytesIO.writable") 589, .str (Str.ofString "/claim/cut.py") 590, .int 101 0, .int 1 0, .int 0 0, .int 0 0, .int 3 0, .ref 210, .bool true, .int 318 0, .ref 211, .none, .ref 212, .ref 213, .ref 214, .int 592 0, .int 101 0, .str (Str.ofString "/claim/cut.py") 593], #[]⟩) ::
    (nat_lit 216, ⟨.type "function", none, .func ⟨n_c_15_9_, Str.ofString "BytesIO.writable", a_c_15_9_, .stmts b_c_15_9_, s_c_15_9_, 3, [], .none, .none, .none, .str (Str.ofString "io") 403, none, .ref 215, .none, 0⟩, #[]⟩) ::
    (nat_lit 217, ⟨.type "tuple", none, .seq #[] 0, #[]⟩) ::
    (nat_lit 219, ⟨.type "tuple", none, .seq #[.str (Str.ofString "self") 598] 0, #[]⟩) ::
    (nat_lit 220, ⟨.type "tuple", none, .seq #[] 0, #[]⟩) ::
    (nat_lit 222, ⟨.type "code", none, .fields #[.str (Str.ofString "seekable") 595, .str (Str.ofString "BytesIO.seekable") 596, .str (Str.ofString "/claim/cut.py") 597, .int 105 0, .int 1 0, .int 0 0, .int 0 0, .int 3 0, .ref 217, .bool true, .int 318 0, .ref 218, .none, .ref 219, .ref 220, .ref 221, .int 599 0, .int 105 0, .str (Str.ofString "/claim/cut.py") 600], #[]⟩) ::
    (nat_lit 223, ⟨.type "function", none, .func ⟨n_c_15_10_, Str.ofString "BytesIO.seekable", a_c_15_10_, .stmts b_c_15_10_, s_c_15_10_, 3, [], .none, .none, .none, .str (Str.ofString "io") 403, none, .ref 222, .none, 0⟩, #[]⟩) ::
    (nat_lit 224, ⟨.type "tuple", none, .seq #[] 0, #[]⟩) ::
    (nat_lit 226, ⟨.type "tuple", none, .seq #[.str (Str.ofString "self") 605] 0, #[]⟩) ::
    (nat_lit 227, ⟨.type "tuple", none, .seq #[] 0, #[]⟩) ::
    (nat_lit 229, ⟨.type "code", none, .fields #[.str (Str.ofString "isatty") 602, .str (Str.ofString "BytesIO.isatty") 603, .str (Str.ofString "/claim/cut.py") 604, .int 109 0, .int 1 0, .int 0 0, .int 0 0, .int 3 0, .ref 224, .bool true, .int 318 0, .ref 225, .none, .ref 226, .ref 227, .ref 228, .int 606 0, .int 109 0, .str (Str.ofString "/claim/cut.py") 607], #[]⟩) ::
    (nat_lit 230, ⟨.type "function", none, .func ⟨n_c_15_11_, Str.ofString "BytesIO.isatty", a_c_15_11_, .stmts b_c_15_11_, s_c_15_11_, 3, [], .none, .none, .none, .str (Str.ofString "io") 403, none, .ref 229, .none, 0⟩, #[]⟩) ::
    (nat_lit 231, ⟨.type "tuple", none, .seq #[] 0, #[]⟩) ::
    (nat_lit 233, ⟨.type "tuple", none, .seq #[.str (Str.ofString "self") 612] 0, #[]⟩) ::
    (nat_lit 234, ⟨.type "tuple", none, .seq #[] 0, #[]⟩) ::
    (nat_lit 236, ⟨.type "code", none, .fields #[.str (Str.ofString "flush") 609, .str (Str.ofString "BytesIO.flush") 610, .str (Str.ofString "/claim/cut.py") 611, .int 113 0, .int 1 0, .int 0 0, .int 0 0, .int 3 0, .ref 231, .bool true, .int 318 0, .ref 232, .none, .ref 233, .ref 234, .ref 235, .int 613 0, .int 113 0, .str (Str.ofString "/claim/cut.py") 614], #[]⟩) ::
    (nat_lit 237, ⟨.type "function", none, .func ⟨n_c_15_12_, Str.ofString "BytesIO.flush", a_c_15_12_, .stmts b_c_15_12_, s_c_15_12_, 3, [], .none, .none, .none, .str (Str.ofString "io") 403, none, .ref 236, .none, 0⟩, #[]⟩) ::
    (nat_lit 238, ⟨.type "tuple", none, .seq #[] 0, #[]⟩) ::
    (nat_lit 240, ⟨.type "tuple", none, .seq #[.str (Str.ofString "self") 619] 0, #[]⟩) ::
    (nat_lit 241, ⟨.type "tuple", none, .seq #[] 0, #[]⟩) ::
    (nat_lit 243, ⟨.type "code", none, .fields #[.str (Str.ofString "fileno") 616, .str (Str.ofString "BytesIO.fileno") 617, .str (Str.ofString "/claim/cut.py") 618, .int 116 0, .int 1 0, .int 0 0, .int 0 0, .int 3 0, .ref 238, .bool true, .int 318 0, .ref 239, .none, .ref 240, .ref 241, .ref 242, .int 620 0, .int 116 0, .str (Str.ofString "/claim/cut.py") 621], #[]⟩) ::
    (nat_lit 244, ⟨.type "function", none, .func ⟨n_c_15_13_, Str.ofString "BytesIO.fileno", a_c_15_13_, .stmts b_c_15_13_, s_c_15_13_, 3, [], .none, .none, .none, .str (Str.ofString "io") 403, none, .ref 243, .none, 0⟩, #[]⟩) ::
    (nat_lit 245, ⟨.type "tuple", none, .seq #[] 0, #[]⟩) ::
    (nat_lit 247, ⟨.type "tuple", none, .seq #[.str (Str.ofString "self") 626] 0, #[]⟩) ::
    (nat_lit 248, ⟨.type "tuple", none, .seq #[] 0, #[]⟩) ::
    (nat_lit 250, ⟨.type "code", none, .fields #[.str (Str.ofString "detach") 623, .str (Str.ofString "BytesIO.detach") 624, .str (Str.ofString "/claim/cut.py") 625, .int 119 0, .int 1 0, .int 0 0, .int 0 0, .int 3 0, .ref 245, .bool true, .int 318 0, .ref 246, .none, .ref 247, .ref 248, .ref 249, .int 627 0, .int 119 0, .str (Str.ofString "/claim/cut.py") 628], #[]⟩) ::
    (nat_lit 251, ⟨.type "function", none, .func ⟨n_c_15_14_, Str.ofString "BytesIO.detach", a_c_15_14_, .stmts b_c_15_14_, s_c_15_14_, 3, [], .none, .none, .none, .str (Str.ofString "io") 403, none, .ref 250, .none, 0⟩, #[]⟩) ::
    (nat_lit 252, ⟨.type "tuple", none, .seq #[] 0, #[]⟩) ::
    (nat_lit 254, ⟨.type "tuple", none, .seq #[.str (Str.ofString "self") 633] 0, #[]⟩) ::
    (nat_lit 255, ⟨.type "tuple", none, .seq #[] 0, #[]⟩) ::
    (nat_lit 257, ⟨.type "code", none, .fields #[.str (Str.ofString "getvalue") 630, .str (Str.ofString "BytesIO.getvalue") 631, .str (Str.ofString "/claim/cut.py") 632, .int 122 0, .int 1 0, .int 0 0, .int 0 0, .int 3 0, .ref 252, .bool true, .int 318 0, .ref 253, .none, .ref 254, .ref 255, .ref 256, .int 634 0, .int 122 0, .str (Str.ofString "/claim/cut.py") 635], #[]⟩) ::
    (nat_lit 258, ⟨.type "function", none, .func ⟨n_c_15_15_, Str.ofString "BytesIO.getvalue", a_c_15_15_, .stmts b_c_15_15_, s_c_15_15_, 3, [], .none, .none, .none, .str (Str.ofString "io") 403, none, .ref 257, .none, 0⟩, #[]⟩) ::
    (nat_lit 259, ⟨.type "tuple", none, .seq #[] 0, #[]⟩) ::
    (nat_lit 261, ⟨.type "tuple", none, .seq #[.str (Str.ofString "self") 640] 0, #[]⟩) ::
    (nat_lit 262, ⟨.type "tuple", none, .seq #[] 0, #[]⟩) ::
    (nat_lit 264, ⟨.type "code", none, .fields #[.str (Str.ofString "getbuffer") 637, .str (Str.ofString "BytesIO.getbuffer") 638, .str (Str.ofString "/claim/cut.py") 639, .int 125 0, .int 1 0, .int 0 0, .int 0 0, .int 3 0, .ref 259, .bool true, .int 318 0, .ref 260, .none, .ref 261, .ref 262, .ref 263, .int 641 0, .int 125 0, .str (Str.ofString "/claim/cut.py") 642], #[]⟩) ::
    (nat_lit 265, ⟨.type "function", none, .func ⟨n_c_15_16_, Str.ofString "BytesIO.getbuffer", a_c_15_16_, .stmts b_c_15_16_, s_c_15_16_, 3, [], .none, .none, .none, .str (Str.ofString "io") 403, none, .ref 264, .none, 0⟩, #[]⟩) ::
    (nat_lit 266, ⟨.type "tuple", none, .seq #[] 0, #[]⟩) ::
    (nat_lit 268, ⟨.type "tuple", none, .seq #[.str (Str.ofString "self") 647] 0, #[]⟩) ::
    (nat_lit 269, ⟨.type "tuple", none, .seq #[] 0, #[]⟩) ::
    (nat_lit 271, ⟨.type "code", none, .fields #[.str (Str.ofString "tell") 644, .str (Str.ofString "BytesIO.tell") 645, .str (Str.ofString "/claim/cut.py") 646, .int 128 0, .int 1 0, .int 0 0, .int 0 0, .int 3 0, .ref 266, .bool true, .int 318 0, .ref 267, .none, .ref 268, .ref 269, .ref 270, .int 648 0, .int 128 0, .str (Str.ofString "/claim/cut.py") 649], #[]⟩) ::
    (nat_lit 272, ⟨.type "function", none, .func ⟨n_c_15_17_, Str.ofString "BytesIO.tell", a_c_15_17_, .stmts b_c_15_17_, s_c_15_17_, 3, [], .none, .none, .none, .str (Str.ofString "io") 403, none, .ref 271, .none, 0⟩, #[]⟩) ::
    (nat_lit 273, ⟨.type "tuple", none, .seq #[.int 0 651] 0, #[]⟩) ::
    (nat_lit 274, ⟨.type "tuple", none, .seq #[] 0, #[]⟩) ::
    (nat_lit 276, ⟨.type "tuple", none, .seq #[.str (Str.ofString "self") 655, .str (Str.ofString "pos") 656, .str (Str.ofString "whence") 657] 0, #[]⟩) ::
    (nat_lit 277, ⟨.type "tuple", none, .seq #[] 0, #[]⟩) ::
    (nat_lit 279, ⟨.type "code", none, .fields #[.str (Str.ofString "seek") 652, .str (Str.ofString "BytesIO.seek") 653, .str (Str.ofString "/claim/cut.py") 654, .int 132 0, .int 3 0, .int 3 0, .int 0 0, .int 3 0, .ref 274, .bool true, .int 318 0, .ref 275, .none, .ref 276, .ref 277, .ref 278, .int 658 0, .int 132 0, .str (Str.ofString "/claim/cut.py") 659], #[]⟩) ::
    (nat_lit 280, ⟨.type "function", none, .func ⟨n_c_15_18_, Str.ofString "BytesIO.seek", a_c_15_18_, .stmts b_c_15_18_, s_c_15_18_, 3, [], .ref 273, .none, .none, .str (Str.ofString "io") 403, none, .ref 279, .none, 0⟩, #[]⟩) ::
    (nat_lit 281, ⟨.type "tuple", none, .seq #[.none] 0, #[]⟩) ::
    (nat_lit 282, ⟨.type "tuple", none, .seq #[] 0, #[]⟩) ::
    (nat_lit 284, ⟨.type "tuple", none, .seq #[.str (Str.ofString "self") 664, .str (Str.ofString "size") 665] 0, #[]⟩) ::
    (nat_lit 285, ⟨.type "tuple", none, .seq #[] 0, #[]⟩) ::
    (nat_lit 287, ⟨.type "code", none, .fields #[.str (Str.ofString "truncate") 661, .str (Str.ofString "BytesIO.truncate") 662, .str (Str.ofString "/claim/cut.py") 663, .int 149 0, .int 2 0, .int 2 0, .int 0 0, .int 3 0, .ref 282, .bool true, .int 318 0, .ref 283, .none, .ref 284, .ref 285, .ref 286, .int 666 0, .int 149 0, .str (Str.ofString "/claim/cut.py") 667], #[]⟩) ::
    (nat_lit 288, ⟨.type "function", none, .func ⟨n_c_15_19_, Str.ofString "BytesIO.truncate", a_c_15_19_, .stmts b_c_15_19_, s_c_15_19_, 3, [], .ref 281, .none, .none, .str (Str.ofString "io") 403, none, .ref 287, .none, 0⟩, #[]⟩) ::
    (nat_lit 289, ⟨.type "tuple", none, .seq #[.int (-1) 670] 0, #[]⟩) ::
    (nat_lit 290, ⟨.type "tuple", none, .seq #[] 0, #[]⟩) ::
    (nat_lit 292, ⟨.type "tuple", none, .seq #[.str (Str.ofString "self") 674, .str (Str.ofString "size") 675, .str (Str.ofString "start") 676, .str (Str.ofString "stop") 677] 0, #[]⟩) ::
    (nat_lit 293, ⟨.type "tuple", none, .seq #[] 0, #[]⟩) ::
    (nat_lit 295, ⟨.type "code", none, .fields #[.str (Str.ofString "read") 671, .str (Str.ofString "BytesIO.read") 672, .str (Str.ofString "/claim/cut.py") 673, .int 152 0, .int 2 0, .int 2 0, .int 0 0, .int 3 0, .ref 290, .bool true, .int 318 0, .ref 291, .none, .ref 292, .ref 293, .ref 294, .int 678 0, .int 152 0, .str (Str.ofString "/claim/cut.py") 679], #[]⟩) ::
    (nat_lit 296, ⟨.type "function", none, .func ⟨n_c_15_20_, Str.ofString "BytesIO.read", a_c_15_20_, .stmts b_c_15_20_, s_c_15_20_, 3, [], .ref 289, .none, .none, .str (Str.ofString "io") 403, none, .ref 295, .none, 0⟩, #[]⟩) ::
    (nat_lit 297, ⟨.type "tuple", none, .seq #[.int (-1) 682] 0, #[]⟩) ::
    (nat_lit 298, ⟨.type "tuple", none, .seq #[] 0, #[]⟩) ::
    (nat_lit 300, ⟨.type "tuple", none, .seq #[.str (Str.ofString "self") 686, .str (Str.ofString "size") 687] 0, #[]⟩) ::
    (nat_lit 301, ⟨.type "tuple", none, .seq #[] 0, #[]⟩) ::
    (nat_lit 303, ⟨.type "code", none, .fields #[.str (Str.ofString "read1") 683, .str (Str.ofString "BytesIO.read1") 684, .str (Str.ofString "/claim/cut.py") 685, .int 166 0, .int 2 0, .int 2 0, .int 0 0, .int 3 0, .ref 298, .bool true, .int 318 0, .ref 299, .none, .ref 300, .ref 301, .ref 302, .int 688 0, .int 166 0, .str (Str.ofString "/claim/cut.py") 689], #[]⟩) ::
    (nat_lit 304, ⟨.type "function", none, .func ⟨n_c_15_21_, Str.ofString "BytesIO.read1", a_c_15_21_, .stmts b_c_15_21_, s_c_15_21_, 3, [], .ref 297, .none, .none, .str (Str.ofString "io") 403, none, .ref 303, .none, 0⟩, #[]⟩) ::
    (nat_lit 305, ⟨.type "tuple", none, .seq #[] 0, #[]⟩) ::
    (nat_lit 307, ⟨.type "tuple", none, .seq #[.str (Str.ofString "self") 694, .str (Str.ofString "buffer") 695, .str (Str.ofString "start") 696, .str (Str.ofString "n") 697] 0, #[]⟩) ::
    (nat_lit 308, ⟨.type "tuple", none, .seq #[] 0, #[]⟩) ::
    (nat_lit 310, ⟨.type "code", none, .fields #[.str (Str.ofString "readinto") 691, .str (Str.ofString "BytesIO.readinto") 692, .str (Str.ofString "/claim/cut.py") 693, .int 169 0, .int 2 0, .int 2 0, .int 0 0, .int 3 0, .ref 305, .bool true, .int 318 0, .ref 306, .none, .ref 307, .ref 308, .ref 309, .int 698 0, .int 169 0, .str (Str.ofString "/claim/cut.py") 699], #[]⟩) ::
    (nat_lit 311, ⟨.type "function", none, .func ⟨n_c_15_22_, Str.ofString "BytesIO.readinto", a_c_15_22_, .stmts b_c_15_22_, s_c_15_22_, 3, [], .none, .none, .none, .str (Str.ofString "io") 403, none, .ref 310, .none, 0⟩, #[]⟩) ::
    (nat_lit 312, ⟨.type "tuple", none, .seq #[] 0, #[]⟩) ::
    (nat_lit 314, ⟨.type "tuple", none, .seq #[.str (Str.ofString "self") 704, .str (Str.ofString "buffer") 705] 0, #[]⟩) ::
    (nat_lit 315, ⟨.type "tuple", none, .seq #[] 0, #[]⟩) ::
    (nat_lit 317, ⟨.type "code", none, .fields #[.str (Str.ofString "readinto1") 701, .str (Str.ofString "BytesIO.readinto1") 702, .str (Str.ofString "/claim/cut.py") 703, .int 183 0, .int 2 0, .int 2 0, .int 0 0, .int 3 0, .ref 312, .bool true, .int 318 0, .ref 313, .none, .ref 314, .ref 315, .ref 316, .int 706 0, .int 183 0, .str (Str.ofString "/claim/cut.py") 707], #[]⟩) ::
    (nat_lit 318, ⟨.type "function", none, .func ⟨n_c_15_23_, Str.ofString "BytesIO.readinto1", a_c_15_23_, .stmts b_c_15_23_, s_c_15_23_, 3, [], .none, .none, .none, .str (Str.ofString "io") 403, none, .ref 317, .none, 0⟩, #[]⟩) ::
    (nat_lit 319, ⟨.type "tuple", none, .seq #[.int (-1) 710] 0, #[]⟩) ::
    (nat_lit 320, ⟨.type "tuple", none, .seq #[] 0, #[]⟩) ::
    (nat_lit 322, ⟨.type "tuple", none, .seq #[.str (Str.ofString "self") 714, .str (Str.ofString "size") 715] 0, #[]⟩) ::
    (nat_lit 323, ⟨.type "tuple", none, .seq #[] 0, #[]⟩) ::
    (nat_lit 325, ⟨.type "code", none, .fields #[.str (Str.ofString "readline") 711, .str (Str.ofString "BytesIO.readline") 712, .str (Str.ofString "/claim/cut.py") 713, .int 186 0, .int 2 0, .int 2 0, .int 0 0, .int 3 0, .ref 320, .bool true, .int 318 0, .ref 321, .none, .ref 322, .ref 323, .ref 324, .int 716 0, .int 186 0, .str (Str.ofString "/claim/cut.py") 717], #[]⟩) ::
    (nat_lit 326, ⟨.type "function", none, .func ⟨n_c_15_24_, Str.ofString "BytesIO.readline", a_c_15_24_, .stmts b_c_15_24_, s_c_15_24_, 3, [], .ref 319, .none, .none, .str (Str.ofString "io") 403, none, .ref 325, .none, 0⟩, #[]⟩) ::
    (nat_lit 327, ⟨.type "tuple", none, .seq #[.none] 0, #[]⟩) ::
    (nat_lit 328, ⟨.type "tuple", none, .seq #[] 0, #[]⟩) ::
    (nat_lit 330, ⟨.type "tuple", none, .seq #[.str (Str.ofString "self") 722, .str (Str.ofString "size") 723] 0, #[]⟩) ::
    (nat_lit 331, ⟨.type "tuple", none, .seq #[] 0, #[]⟩) ::
    (nat_lit 333, ⟨.type "code", none, .fields #[.str (Str.ofString "readlines") 719, .str (Str.ofString "BytesIO.readlines") 720, .str (Str.ofString "/claim/cut.py") 721, .int 193 0, .int 2 0, .int 2 0, .int 0 0, .int 3 0, .ref 328, .bool true, .int 318 0, .ref 329, .none, .ref 330, .ref 331, .ref 332, .int 724 0, .int 193 0, .str (Str.ofString "/claim/cut.py") 725], #[]⟩) ::
    (nat_lit 334, ⟨.type "function", none, .func ⟨n_c_15_25_, Str.ofString "BytesIO.readlines", a_c_15_25_, .stmts b_c_15_25_, s_c_15_25_, 3, [], .ref 327, .none, .none, .str (Str.ofString "io") 403, none, .ref 333, .none, 0⟩, #[]⟩) ::
    (nat_lit 335, ⟨.type "tuple", none, .seq #[] 0, #[]⟩) ::
    (nat_lit 337, ⟨.type "tuple", none, .seq #[.str (Str.ofString "self") 730] 0, #[]⟩) ::
    (nat_lit 338, ⟨.type "tuple", none, .seq #[] 0, #[]⟩) ::
    (nat_lit 340, ⟨.type "code", none, .fields #[.str (Str.ofString "__iter__") 727, .str (Str.ofString "BytesIO.__iter__") 728, .str (Str.ofString "/claim/cut.py") 729, .int 196 0, .int 1 0, .int 0 0, .int 0 0, .int 3 0, .ref 335, .bool true, .int 318 0, .ref 336, .none, .ref 337, .ref 338, .ref 339, .int 731 0, .int 196 0, .str (Str.ofString "/claim/cut.py") 732], #[]⟩) ::
    (nat_lit 341, ⟨.type "function", none, .func ⟨n_c_15_26_, Str.ofString "BytesIO.__iter__", a_c_15_26_, .stmts b_c_15_26_, s_c_15_26_, 3, [], .none, .none, .none, .str (Str.ofString "io") 403, none, .ref 340, .none, 0⟩, #[]⟩) ::
    (nat_lit 342, ⟨.type "tuple", none, .seq #[] 0, #[]⟩) ::
    (nat_lit 344, ⟨.type "tuple", none, .seq #[.str (Str.ofString "self") 737, .str (Str.ofString "line") 738] 0, #[]⟩) ::
    (nat_lit 345, ⟨.type "tuple", none, .seq #[] 0, #[]⟩) ::
    (nat_lit 347, ⟨.type "code", none, .fields #[.str (Str.ofString "__next__") 734, .str (Str.ofString "BytesIO.__next__") 735, .str (Str.ofString "/claim/cut.py") 736, .int 199 0, .int 1 0, .int 0 0, .int 0 0, .int 3 0, .ref 342, .bool true, .int 318 0, .ref 343, .none, .ref 344, .ref 345, .ref 346, .int 739 0, .int 199 0, .str (Str.ofString "/claim/cut.py") 740], #[]⟩) ::
    (nat_lit 348, ⟨.type "function", none, .func ⟨n_c_15_27_, Str.ofString "BytesIO.__next__", a_c_15_27_, .stmts b_c_15_27_, s_c_15_27_, 3, [], .none, .none, .none, .str (Str.ofString "io") 403, none, .ref 347, .none, 0⟩, #[]⟩) ::
    (nat_lit 349, ⟨.type "tuple", none, .seq #[] 0, #[]⟩) ::
    (nat_lit 351, ⟨.type "tuple", none, .seq #[.str (Str.ofString "self") 745, .str (Str.ofString "b") 746, .str (Str.ofString "n") 747, .str (Str.ofString "start") 748] 0, #[]⟩) ::
    (nat_lit 352, ⟨.type "tuple", none, .seq #[] 0, #[]⟩) ::
    (nat_lit 354, ⟨.type "code", none, .fields #[.str (Str.ofString "write") 742, .str (Str.ofString "BytesIO.write") 743, .str (Str.ofString "/claim/cut.py") 744, .int 206 0, .int 2 0, .int 2 0, .int 0 0, .int 3 0, .ref 349, .bool true, .int 318 0, .ref 350, .none, .ref 351, .ref 352, .ref 353, .int 749 0, .int 206 0, .str (Str.ofString "/claim/cut.py") 750], #[]⟩) ::
    (nat_lit 355, ⟨.type "function", none, .func ⟨n_c_15_28_, Str.ofString "BytesIO.write", a_c_15_28_, .stmts b_c_15_28_, s_c_15_28_, 3, [], .none, .none, .none, .str (Str.ofString "io") 403, none, .ref 354, .none, 0⟩, #[]⟩) ::
    (nat_lit 356, ⟨.type "tuple", none, .seq #[] 0, #[]⟩) ::
    (nat_lit 358, ⟨.type "tuple", none, .seq #[.str (Str.ofString "self") 755, .str (Str.ofString "lines") 756] 0, #[]⟩) ::
    (nat_lit 359, ⟨.type "tuple", none, .seq #[] 0, #[]⟩) ::
    (nat_lit 361, ⟨.type "code", none, .fields #[.str (Str.ofString "writelines") 752, .str (Str.ofString "BytesIO.writelines") 753, .str (Str.ofString "/claim/cut.py") 754, .int 222 0, .int 2 0, .int 2 0, .int 0 0, .int 3 0, .ref 356, .bool true, .int 318 0, .ref 357, .none, .ref 358, .ref 359, .ref 360, .int 757 0, .int 222 0, .str (Str.ofString "/claim/cut.py") 758], #[]⟩) ::
    (nat_lit 362, ⟨.type "function", none, .func ⟨n_c_15_29_, Str.ofString "BytesIO.writelines", a_c_15_29_, .stmts b_c_15_29_, s_c_15_29_, 3, [], .none, .none, .none, .str (Str.ofString "io") 403, none, .ref 361, .none, 0⟩, #[]⟩) ::
    (nat_lit 363, ⟨.type "tuple", none, .seq #[] 0, #[]⟩) ::
    (nat_lit 365, ⟨.type "tuple", none, .seq #[.str (Str.ofString "self") 763] 0, #[]⟩) ::
    (nat_lit 366, ⟨.type "tuple", none, .seq #[] 0, #[]⟩) ::
    (nat_lit 368, ⟨.type "code", none, .fields #[.str (Str.ofString "__repr__") 760, .str (Str.ofString "BytesIO.__repr__") 761, .str (Str.ofString "/claim/cut.py") 762, .int 225 0, .int 1 0, .int 0 0, .int 0 0, .int 3 0, .ref 363, .bool true, .int 318 0, .ref 364, .none, .ref 365, .ref 366, .ref 367, .int 764 0, .int 225 0, .str (Str.ofString "/claim/cut.py") 765], #[]⟩) ::
    (nat_lit 369, ⟨.type "function", none, .func ⟨n_c_15_30_, Str.ofString "BytesIO.__repr__", a_c_15_30_, .stmts b_c_15_30_, s_c_15_30_, 3, [], .none, .none, .none, .str (Str.ofString "io") 403, none, .ref 368, .none, 0⟩, #[]⟩) ::
    (nat_lit 370, ⟨.type "tuple", none, .seq #[.str (Str.ofString "__buf") 767, .str (Str.ofString "__pos") 768] 0, #[]⟩) ::
    (nat_lit 371, ⟨.type "dict", none, .dict #[⟨PyData.keyHash P (Str.ofString "__module__"), .str (Str.ofString "__module__") 518, .str (Str.ofString "_io") 523⟩, ⟨PyData.keyHash P (Str.ofString "__firstlineno__"), .str (Str.ofString "__firstlineno__") 522, .int 57 521⟩, ⟨PyData.keyHash P (Str.ofString "__init__"), .str (Str.ofString "__init__") 532, .ref 159⟩, ⟨PyData.keyHash P (Str.ofString "_BytesIO__check"), .str (Str.ofString "_BytesIO__check") 539, .ref 166⟩, ⟨PyData.keyHash P (Str.ofString "_BytesIO__line"), .str (Str.ofString "_BytesIO__line") 550, .ref 173⟩, ⟨PyData.keyHash P (Str.ofString "closed"), .str (Str.ofString "closed") 558, .ref 181⟩, ⟨PyData.keyHash P (Str.ofString "close"), .str (Str.ofString "close") 565, .ref 188⟩, ⟨PyData.keyHash P (Str.ofString "__enter__"), .str (Str.ofString "__enter__") 572, .ref 195⟩, ⟨PyData.keyHash P (Str.ofString "__exit__"), .str (Str.ofString "__exit__") 580, .ref 202⟩, ⟨PyData.keyHash P (Str.ofString "readable"), .str (Str.ofString "readable") 587, .ref 209⟩, ⟨PyData.keyHash P (Str.ofString "writable"), .str (Str.ofString "writable") 594, .ref 216⟩, ⟨PyData.keyHash P (Str.ofString "seekable"), .str (Str.ofString "seekable") 601, .ref 223⟩, ⟨PyData.keyHash P (Str.ofString "isatty"), .str (Str.ofString "isatty") 608, .ref 230⟩, ⟨PyData.keyHash P (Str.ofString "flush"), .str (Str.ofString "flush") 615, .ref 237⟩, ⟨PyData.keyHash P (Str.ofString "fileno"), .str (Str.ofString "fileno") 622, .ref 244⟩, ⟨PyData.keyHash P (Str.ofString "detach"), .str (Str.ofString "detach") 629, .ref 251⟩, ⟨PyData.keyHash P (Str.ofString "getvalue"), .str (Str.ofString "getvalue") 636, .ref 258⟩, ⟨PyData.keyHash P (Str.ofString "getbuffer"), .str (Str.ofString "getbuffer") 643, .ref 265⟩, ⟨PyData.keyHash P (Str.ofString "tell"), .str (Str.ofString "tell") 650, .ref 272⟩, ⟨PyData.keyHash P (Str.ofString "seek"), .str (Str.ofString "seek") 660, .ref 280⟩, ⟨PyData.keyHash P (Str.ofString "truncate"), .str (Str.ofString "truncate") 668, .ref 288⟩, ⟨PyData.keyHash P (Str.ofString "read"), .str (Str.ofString "read") 680, .ref 296⟩, ⟨PyData.keyHash P (Str.ofString "read1"), .str (Str.ofString "read1") 690, .ref 304⟩, ⟨PyData.keyHash P (Str.ofString "readinto"), .str (Str.ofString "readinto") 700, .ref 311⟩, ⟨PyData.keyHash P (Str.ofString "readinto1"), .str (Str.ofString "readinto1") 708, .ref 318⟩, ⟨PyData.keyHash P (Str.ofString "readline"), .str (Str.ofString "readline") 718, .ref 326⟩, ⟨PyData.keyHash P (Str.ofString "readlines"), .str (Str.ofString "readlines") 726, .ref 334⟩, ⟨PyData.keyHash P (Str.ofString "__iter__"), .str (Str.ofString "__iter__") 733, .ref 341⟩, ⟨PyData.keyHash P (Str.ofString "__next__"), .str (Str.ofString "__next__") 741, .ref 348⟩, ⟨PyData.keyHash P (Str.ofString "write"), .str (Str.ofString "write") 751, .ref 355⟩, ⟨PyData.keyHash P (Str.ofString "writelines"), .str (Str.ofString "writelines") 759, .ref 362⟩, ⟨PyData.keyHash P (Str.ofString "__repr__"), .str (Str.ofString "__repr__") 766, .ref 369⟩, ⟨PyData.keyHash P (Str.ofString "__static_attributes__"), .str (Str.ofString "__static_attributes__") 769, .ref 370⟩, ⟨PyData.keyHash P (Str.ofString "__doc__"), .str (Str.ofString "__doc__") 770, .none⟩] 2, #[]⟩) ::
    (nat_lit 372, ⟨.type "type", none, .cls ⟨Str.ofString "BytesIO", [.ref 130], [.ref 372, .ref 130, .ref 115, .type "object"], 371, Str.ofString "BytesIO", true, [], [], false, none, false⟩, #[some (.ref 145), none, some (.str (Str.ofString "BytesIO") 511), some (.str (Str.ofString "BytesIO") 519), some .none, some (.bool true)]⟩) ::
    (nat_lit 375, ⟨.type "tuple", none, .seq #[.ref 142] 0, #[]⟩) ::
    (nat_lit 382, ⟨.type "tuple", none, .seq #[.str (Str.ofString "") 787, .str (Str.ofString "\n") 788] 0, #[]⟩) ::
    (nat_lit 383, ⟨.type "tuple", none, .seq #[] 0, #[]⟩) ::
    (nat_lit 385, ⟨.type "tuple", none, .seq #[.str (Str.ofString "self") 792, .str (Str.ofString "initial_value") 793, .str (Str.ofString "newline") 794] 0, #[]⟩) ::
    (nat_lit 386, ⟨.type "tuple", none, .seq #[] 0, #[]⟩) ::
    (nat_lit 388, ⟨.type "code", none, .fields #[.str (Str.ofString "__init__") 789, .str (Str.ofString "StringIO.__init__") 790, .str (Str.ofString "/claim/cut.py") 791, .int 230 0, .int 3 0, .int 0 0, .int 0 0, .int 3 0, .ref 383, .bool true, .int 318 0, .ref 384, .none, .ref 385, .ref 386, .ref 387, .int 795 0, .int 230 0, .str (Str.ofString "/claim/cut.py") 796], #[]⟩) ::
    (nat_lit 389, ⟨.type "function", none, .func ⟨n_c_16_1_, Str.ofString "StringIO.__init__", a_c_16_1_, .stmts b_c_16_1_, s_c_16_1_, 3, [], .ref 382, .none, .none, .str (Str.ofString "io") 403, none, .ref 388, .none, 0⟩, #[]⟩) ::
    (nat_lit 390, ⟨.type "tuple", none, .seq #[] 0, #[]⟩) ::
    (nat_lit 392, ⟨.type "tuple", none, .seq #[.str (Str.ofString "self") 801, .str (Str.ofString "s") 802, .str (Str.ofString "newline") 803] 0, #[]⟩) ::
    (nat_lit 393, ⟨.type "tuple", none, .seq #[] 0, #[]⟩) ::
    (nat_lit 395, ⟨.type "code", none, .fields #[.str (Str.ofString "__translated") 798, .str (Str.ofString "StringIO.__translated") 799, .str (Str.ofString "/claim/cut.py") 800, .int 243 0, .int 2 0, .int 0 0, .int 0 0, .int 3 0, .ref 390, .bool true, .int 318 0, .ref 391, .none, .ref 392, .ref 393, .ref 394, .int 804 0, .int 243 0, .str (Str.ofString "/claim/cut.py") 805], #[]⟩) ::
    (nat_lit 396, ⟨.type "function", none, .func ⟨n_c_16_2_, Str.ofString "StringIO.__translated", a_c_16_2_, .stmts b_c_16_2_, s_c_16_2_, 3, [], .none, .none, .none, .str (Str.ofString "io") 403, none, .ref 395, .none, 0⟩, #[]⟩) ::
    (nat_lit 397, ⟨.type "tuple", none, .seq #[] 0, #[]⟩) ::
    (nat_lit 399, ⟨.type "tuple", none, .seq #[.str (Str.ofString "self") 810] 0, #[]⟩) ::
    (nat_lit 400, ⟨.type "tuple", none, .seq #[] 0, #[]⟩) ::
    (nat_lit 402, ⟨.type "code", none, .fields #[.str (Str.ofString "__check") 807, .str (Str.ofString "StringIO.__check") 808, .str (Str.ofString "/claim/cut.py") 809, .int 251 0, .int 1 0, .int 0 0, .int 0 0, .int 3 0, .ref 397, .bool true, .int 318 0, .ref 398, .none, .ref 399, .ref 400, .ref 401, .int 811 0, .int 251 0, .str (Str.ofString "/claim/cut.py") 812], #[]⟩) ::
    (nat_lit 403, ⟨.type "function", none, .func ⟨n_c_16_3_, Str.ofString "StringIO.__check", a_c_16_3_, .stmts b_c_16_3_, s_c_16_3_, 3, [], .none, .none, .none, .str (Str.ofString "io") 403, none, .ref 402, .none, 0⟩, #[]⟩) ::
    (nat_lit 404, ⟨.type "tuple", none, .seq #[] 0, #[]⟩) ::
    (nat_lit 406, ⟨.type "tuple", none, .seq #[.str (Str.ofString "self") 817] 0, #[]⟩) ::
    (nat_lit 407, ⟨.type "tuple", none, .seq #[] 0, #[]⟩) ::
    (nat_lit 409, ⟨.type "code", none, .fields #[.str (Str.ofString "__check_dot") 814, .str (Str.ofString "StringIO.__check_dot") 815, .str (Str.ofString "/claim/cut.py") 816, .int 255 0, .int 1 0, .int 0 0, .int 0 0, .int 3 0, .ref 404, .bool true, .int 318 0, .ref 405, .none, .ref 406, .ref 407, .ref 408, .int 818 0, .int 255 0, .str (Str.ofString "/claim/cut.py") 819], #[]⟩) ::
    (nat_lit 410, ⟨.type "function", none, .func ⟨n_c_16_4_, Str.ofString "StringIO.__check_dot", a_c_16_4_, .stmts b_c_16_4_, s_c_16_4_, 3, [], .none, .none, .none, .str (Str.ofString "io") 403, none, .ref 409, .none, 0⟩, #[]⟩) ::
    (nat_lit 411, ⟨.type "tuple", none, .seq #[] 0, #[]⟩) ::
    (nat_lit 413, ⟨.type "tuple", none, .seq #[.str (Str.ofString "self") 824, .str (Str.ofString "limit") 825, .str (Str.ofString "start") 826, .str (Str.ofString "stop") 827, .str (Str.ofString "cut") 828, .str (Str.ofString "newline") 829, .str (Str.ofString "i") 830, .str (Str.ofString "j") 831, .str (Str.ofString "end") 832] 0, #[]⟩) ::
    (nat_lit 414, ⟨.type "tuple", none, .seq #[] 0, #[]⟩) ::
    (nat_lit 416, ⟨.type "code", none, .fields #[.str (Str.ofString "__line") 821, .str (Str.ofString "StringIO.__line") 822, .str (Str.ofString "/claim/cut.py") 823, .int 259 0, .int 2 0, .int 0 0, .int 0 0, .int 3 0, .ref 411, .bool true, .int 318 0, .ref 412, .none, .ref 413, .ref 414, .ref 415, .int 833 0, .int 259 0, .str (Str.ofString "/claim/cut.py") 834], #[]⟩) ::
    (nat_lit 417, ⟨.type "function", none, .func ⟨n_c_16_5_, Str.ofString "StringIO.__line", a_c_16_5_, .stmts b_c_16_5_, s_c_16_5_, 3, [], .none, .none, .none, .str (Str.ofString "io") 403, none, .ref 416, .none, 0⟩, #[]⟩) ::
    (nat_lit 418, ⟨.type "tuple", none, .seq #[] 0, #[]⟩) ::
    (nat_lit 420, ⟨.type "tuple", none, .seq #[.str (Str.ofString "self") 839] 0, #[]⟩) ::
    (nat_lit 421, ⟨.type "tuple", none, .seq #[] 0, #[]⟩) ::
    (nat_lit 423, ⟨.type "code", none, .fields #[.str (Str.ofString "closed") 836, .str (Str.ofString "StringIO.closed") 837, .str (Str.ofString "/claim/cut.py") 838, .int 291 0, .int 1 0, .int 0 0, .int 0 0, .int 3 0, .ref 418, .bool true, .int 318 0, .ref 419, .none, .ref 420, .ref 421, .ref 422, .int 840 0, .int 291 0, .str (Str.ofString "/claim/cut.py") 841], #[]⟩) ::
    (nat_lit 424, ⟨.type "function", none, .func ⟨n_c_16_6_, Str.ofString "StringIO.closed", a_c_16_6_, .stmts b_c_16_6_, s_c_16_6_, 3, [], .none, .none, .none, .str (Str.ofString "io") 403, none, .ref 423, .none, 0⟩, #[]⟩) ::
    (nat_lit 425, ⟨.type "property", none, .fields #[.ref 424, .none, .none, .none, .str (Str.ofString "closed") 843, .bool false], #[]⟩) ::
    (nat_lit 426, ⟨.type "tuple", none, .seq #[] 0, #[]⟩) ::
    (nat_lit 428, ⟨.type "tuple", none, .seq #[.str (Str.ofString "self") 847] 0, #[]⟩) ::
    (nat_lit 429, ⟨.type "tuple", none, .seq #[] 0, #[]⟩) ::
    (nat_lit 431, ⟨.type "code", none, .fields #[.str (Str.ofString "line_buffering") 844, .str (Str.ofString "StringIO.line_buffering") 845, .str (Str.ofString "/claim/cut.py") 846, .int 295 0, .int 1 0, .int 0 0, .int 0 0, .int 3 0, .ref 426, .bool true, .int 318 0, .ref 427, .none, .ref 428, .ref 429, .ref 430, .int 848 0, .int 295 0, .str (Str.ofString "/claim/cut.py") 849], #[]⟩) ::
    (nat_lit 432, ⟨.type "function", none, .func ⟨n_c_16_7_, Str.ofString "StringIO.line_buffering", a_c_16_7_, .stmts b_c_16_7_, s_c_16_7_, 3, [], .none, .none, .none, .str (Str.ofString "io") 403, none, .ref 431, .none, 0⟩, #[]⟩) ::
    (nat_lit 433, ⟨.type "property", none, .fields #[.ref 432, .none, .none, .none, .str (Str.ofString "line_buffering") 851, .bool false], #[]⟩) ::
    (nat_lit 434, ⟨.type "tuple", none, .seq #[] 0, #[]⟩) ::
    (nat_lit 436, ⟨.type "tuple", none, .seq #[.str (Str.ofString "self") 855] 0, #[]⟩) ::
    (nat_lit 437, ⟨.type "tuple", none, .seq #[] 0, #[]⟩) ::
    (nat_lit 439, ⟨.type "code", none, .fields #[.str (Str.ofString "newlines") 852, .str (Str.ofString "StringIO.newlines") 853, .str (Str.ofString "/claim/cut.py") 854, .int 299 0, .int 1 0, .int 0 0, .int 0 0, .int 3 0, .ref 434, .bool true, .int 318 0, .ref 435, .none, .ref 436, .ref 437, .ref 438, .int 856 0, .int 299 0, .str (Str.ofString "/claim/cut.py") 857], #[]⟩) ::
    (nat_lit 440, ⟨.type "function", none, .func ⟨n_c_16_8_, Str.ofString "StringIO.newlines", a_c_16_8_, .stmts b_c_16_8_, s_c_16_8_, 3, [], .none, .none, .none, .str (Str.ofString "io") 403, none, .ref 439, .none, 0⟩, #[]⟩) ::
    (nat_lit 441, ⟨.type "property", none, .fields #[.ref 440, .none, .none, .none, .str (Str.ofString "newlines") 859, .bool false], #[]⟩) ::
    (nat_lit 442, ⟨.type "tuple", none, .seq #[] 0, #[]⟩) ::
    (nat_lit 444, ⟨.type "tuple", none, .seq #[.str (Str.ofString "self") 863] 0, #[]⟩) ::
    (nat_lit 445, ⟨.type "tuple", none, .seq #[] 0, #[]⟩) ::
    (nat_lit 447, ⟨.type "code", none, .fields #[.str (Str.ofString "encoding") 860, .str (Str.ofString "StringIO.encoding") 861, .str (Str.ofString "/claim/cut.py") 862, .int 303 0, .int 1 0, .int 0 0, .int 0 0, .int 3 0, .ref 442, .bool true, .int 318 0, .ref 443, .none, .ref 444, .ref 445, .ref 446, .int 864 0, .int 303 0, .str (Str.ofString "/claim/cut.py") 865], #[]⟩) ::
    (nat_lit 448, ⟨.type "function", none, .func ⟨n_c_16_9_, Str.ofString "StringIO.encoding", a_c_16_9_, .stmts b_c_16_9_, s_c_16_9_, 3, [], .none, .none, .none, .str (Str.ofString "io") 403, none, .ref 447, .none, 0⟩, #[]⟩) ::
    (nat_lit 449, ⟨.type "property", none, .fields #[.ref 448, .none, .none, .none, .str (Str.ofString "encoding") 867, .bool false], #[]⟩) ::
    (nat_lit 450, ⟨.type "tuple", none, .seq #[] 0, #[]⟩) ::
    (nat_lit 452, ⟨.type "tuple", none, .seq #[.str (Str.ofString "self") 871] 0, #[]⟩) ::
    (nat_lit 453, ⟨.type "tuple", none, .seq #[] 0, #[]⟩) ::
    (nat_lit 455, ⟨.type "code", none, .fields #[.str (Str.ofString "errors") 868, .str (Str.ofString "StringIO.errors") 869, .str (Str.ofString "/claim/cut.py") 870, .int 307 0, .int 1 0, .int 0 0, .int 0 0, .int 3 0, .ref 450, .bool true, .int 318 0, .ref 451, .none, .ref 452, .ref 453, .ref 454, .int 872 0, .int 307 0, .str (Str.ofString "/claim/cut.py") 873], #[]⟩) ::
    (nat_lit 456, ⟨.type "function", none, .func ⟨n_c_16_10_, Str.ofString "StringIO.errors", a_c_16_10_, .stmts b_c_16_10_, s_c_16_10_, 3, [], .none, .none, .none, .str (Str.ofString "io") 403, none, .ref 455, .none, 0⟩, #[]⟩) ::
    (nat_lit 457, ⟨.type "property", none, .fields #[.ref 456, .none, .none, .none, .str (Str.ofString "errors") 875, .bool false], #[]⟩) ::
    (nat_lit 458, ⟨.type "tuple", none, .seq #[] 0, #[]⟩) ::
    (nat_lit 460, ⟨.type "tuple", none, .seq #[.str (Str.ofString "self") 879] 0, #[]⟩) ::
    (nat_lit 461, ⟨.type "tuple", none, .seq #[] 0, #[]⟩) ::
    (nat_lit 463, ⟨.type "code", none, .fields #[.str (Str.ofString "close") 876, .str (Str.ofString "StringIO.close") 877, .str (Str.ofString "/claim/cut.py") 878, .int 311 0, .int 1 0, .int 0 0, .int 0 0, .int 3 0, .ref 458, .bool true, .int 318 0, .ref 459, .none, .ref 460, .ref 461, .ref 462, .int 880 0, .int 311 0, .str (Str.ofString "/claim/cut.py") 881], #[]⟩) ::
    (nat_lit 464, ⟨.type "function", none, .func ⟨n_c_16_11_, Str.ofString "StringIO.close", a_c_16_11_, .stmts b_c_16_11_, s_c_16_11_, 3, [], .none, .none, .none, .str (Str.ofString "io") 403, none, .ref 463, .none, 0⟩, #[]⟩) ::
    (nat_lit 465, ⟨.type "tuple", none, .seq #[] 0, #[]⟩) ::
    (nat_lit 467, ⟨.type "tuple", none, .seq #[.str (Str.ofString "self") 886] 0, #[]⟩) ::
    (nat_lit 468, ⟨.type "tuple", none, .seq #[] 0, #[]⟩) ::
    (nat_lit 470, ⟨.type "code", none, .fields #[.str (Str.ofString "__enter__") 883, .str (Str.ofString "StringIO.__enter__") 884, .str (Str.ofString "/claim/cut.py") 885, .int 314 0, .int 1 0, .int 0 0, .int 0 0, .int 3 0, .ref 465, .bool true, .int 318 0, .ref 466, .none, .ref 467, .ref 468, .ref 469, .int 887 0, .int 314 0, .str (Str.ofString "/claim/cut.py") 888], #[]⟩) ::
    (nat_lit 471, ⟨.type "function", none, .func ⟨n_c_16_12_, Str.ofString "StringIO.__enter__", a_c_16_12_, .stmts b_c_16_12_, s_c_16_12_, 3, [], .none, .none, .none, .str (Str.ofString "io") 403, none, .ref 470, .none, 0⟩, #[]⟩) ::
    (nat_lit 472, ⟨.type "tuple", none, .seq #[] 0, #[]⟩) ::
    (nat_lit 474, ⟨.type "tuple", none, .seq #[.str (Str.ofString "self") 893, .str (Str.ofString "args") 894] 0, #[]⟩) ::
    (nat_lit 475, ⟨.type "tuple", none, .seq #[] 0, #[]⟩) ::
    (nat_lit 477, ⟨.type "code", none, .fields #[.str (Str.ofString "__exit__") 890, .str (Str.ofString "StringIO.__exit__") 891, .str (Str.ofString "/claim/cut.py") 892, .int 318 0, .int 1 0, .int 0 0, .int 0 0, .int 7 0, .ref 472, .bool true, .int 318 0, .ref 473, .none, .ref 474, .ref 475, .ref 476, .int 895 0, .int 318 0, .str (Str.ofString "/claim/cut.py") 896], #[]⟩) ::
    (nat_lit 478, ⟨.type "function", none, .func ⟨n_c_16_13_, Str.ofString "StringIO.__exit__", a_c_16_13_, .stmts b_c_16_13_, s_c_16_13_, 3, [], .none, .none, .none, .str (Str.ofString "io") 403, none, .ref 477, .none, 0⟩, #[]⟩) ::
    (nat_lit 479, ⟨.type "tuple", none, .seq #[] 0, #[]⟩) ::
    (nat_lit 481, ⟨.type "tuple", none, .seq #[.str (Str.ofString "self") 901] 0, #[]⟩) ::
    (nat_lit 482, ⟨.type "tuple", none, .seq #[] 0, #[]⟩) ::
    (nat_lit 484, ⟨.type "code", none, .fields #[.str (Str.ofString "readable") 898, .str (Str.ofString "StringIO.readable") 899, .str (Str.ofString "/claim/cut.py") 900, .int 321 0, .int 1 0, .int 0 0, .int 0 0, .int 3 0, .ref 479, .bool true, .int 318 0, .ref 480, .none, .ref 481, .ref 482, .ref 483, .int 902 0, .int 321 0, .str (Str.ofString "/claim/cut.py") 903], #[]⟩) ::
    (nat_lit 485, ⟨.type "function", none, .func ⟨n_c_16_14_, Str.ofString "StringIO.readable", a_c_16_14_, .stmts b_c_16_14_, s_c_16_14_, 3, [], .none, .none, .none, .str (Str.ofString "io") 403, none, .ref 484, .none, 0⟩, #[]⟩) ::
    (nat_lit 486, ⟨.type "tuple", none, .seq #[] 0, #[]⟩) ::
    (nat_lit 488, ⟨.type "tuple", none, .seq #[.str (Str.ofString "self") 908] 0, #[]⟩) ::
    (nat_lit 489, ⟨.type "tuple", none, .seq #[] 0, #[]⟩) ::
    (nat_lit 491, ⟨.type "code", none, .fields #[.str (Str.ofString "writable") 905, .str (Str.ofString "StringIO.writable") 906, .str (Str.ofString "/claim/cut.py") 907, .int 325 0, .int 1 0, .int 0 0, .int 0 0, .int 3 0, .ref 486, .bool true, .int 318 0, .ref 487, .none, .ref 488, .ref 489, .ref 490, .int 909 0, .int 325 0, .str (Str.ofString "/claim/cut.py") 910], #[]⟩) ::
    (nat_lit 492, ⟨.type "function", none, .func ⟨n_c_16_15_, Str.ofString "StringIO.writable", a_c_16_15_, .stmts b_c_16_15_, s_c_16_15_, 3, [], .none, .none, .none, .str (Str.ofString "io") 403, none, .ref 491, .none, 0⟩, #[]⟩) ::
    (nat_lit 493, ⟨.type "tuple", none, .seq #[] 0, #[]⟩) ::
    (nat_lit 495, ⟨.type "tuple", none, .seq #[.str (Str.ofString "self") 915] 0, #[]⟩) ::
    (nat_lit 496, ⟨.type "tuple", none, .seq #[] 0, #[]⟩) ::
    (nat_lit 498, ⟨.type "code", none, .fields #[.str (Str.ofString "seekable") 912, .str (Str.ofString "StringIO.seekable") 913, .str (Str.ofString "/claim/cut.py") 914, .int 329 0, .int 1 0, .int 0 0, .int 0 0, .int 3 0, .ref 493, .bool true, .int 318 0, .ref 494, .none, .ref 495, .ref 496, .ref 497, .int 916 0, .int 329 0, .str (Str.ofString "/claim/cut.py") 917], #[]⟩) ::
    (nat_lit 499, ⟨.type "function", none, .func ⟨n_c_16_16_, Str.ofString "StringIO.seekable", a_c_16_16_, .stmts b_c_16_16_, s_c_16_16_, 3, [], .none, .none, .none, .str (Str.ofString "io") 403, none, .ref 498, .none, 0⟩, #[]⟩) ::
    (nat_lit 500, ⟨.type "tuple", none, .seq #[] 0, #[]⟩) ::
    (nat_lit 502, ⟨.type "tuple", none, .seq #[.str (Str.ofString "self") 922] 0, #[]⟩) ::
    (nat_lit 503, ⟨.type "tuple", none, .seq #[] 0, #[]⟩) ::
    (nat_lit 505, ⟨.type "code", none, .fields #[.str (Str.ofString "isatty") 919, .str (Str.ofString "StringIO.isatty") 920, .str (Str.ofString "/claim/cut.py") 921, .int 333 0, .int 1 0, .int 0 0, .int 0 0, .int 3 0, .ref 500, .bool true, .int 318 0, .ref 501, .none, .ref 502, .ref 503, .ref 504, .int 923 0, .int 333 0, .str (Str.ofString "/claim/cut.py") 924], #[]⟩) ::
    (nat_lit 506, ⟨.type "function", none, .func ⟨n_c_16_17_, Str.ofString "StringIO.isatty", a_c_16_17_, .stmts b_c_16_17_, s_c_16_17_, 3, [], .none, .none, .none, .str (Str.ofString "io") 403, none, .ref 505, .none, 0⟩, #[]⟩) ::
    (nat_lit 507, ⟨.type "tuple", none, .seq #[] 0, #[]⟩) ::
    (nat_lit 509, ⟨.type "tuple", none, .seq #[.str (Str.ofString "self") 929] 0, #[]⟩) ::
    (nat_lit 510, ⟨.type "tuple", none, .seq #[] 0, #[]⟩) ::
    (nat_lit 512, ⟨.type "code", none, .fields #[.str (Str.ofString "flush") 926, .str (Str.ofString "StringIO.flush") 927, .str (Str.ofString "/claim/cut.py") 928, .int 337 0, .int 1 0, .int 0 0, .int 0 0, .int 3 0, .ref 507, .bool true, .int 318 0, .ref 508, .none, .ref 509, .ref 510, .ref 511, .int 930 0, .int 337 0, .str (Str.ofString "/claim/cut.py") 931], #[]⟩) ::
    (nat_lit 513, ⟨.type "function", none, .func ⟨n_c_16_18_, Str.ofString "StringIO.flush", a_c_16_18_, .stmts b_c_16_18_, s_c_16_18_, 3, [], .none, .none, .none, .str (Str.ofString "io") 403, none, .ref 512, .none, 0⟩, #[]⟩) ::
    (nat_lit 514, ⟨.type "tuple", none, .seq #[] 0, #[]⟩) ::
    (nat_lit 516, ⟨.type "tuple", none, .seq #[.str (Str.ofString "self") 936] 0, #[]⟩) ::
    (nat_lit 517, ⟨.type "tuple", none, .seq #[] 0, #[]⟩) ::
    (nat_lit 519, ⟨.type "code", none, .fields #[.str (Str.ofString "fileno") 933, .str (Str.ofString "StringIO.fileno") 934, .str (Str.ofString "/claim/cut.py") 935, .int 340 0, .int 1 0, .int 0 0, .int 0 0, .int 3 0, .ref 514, .bool true, .int 318 0, .ref 515, .none, .ref 516, .ref 517, .ref 518, .int 937 0, .int 340 0, .str (Str.ofString "/claim/cut.py") 938], #[]⟩) ::
    (nat_lit 520, ⟨.type "function", none, .func ⟨n_c_16_19_, Str.ofString "StringIO.fileno", a_c_16_19_, .stmts b_c_16_19_, s_c_16_19_, 3, [], .none, .none, .none, .str (Str.ofString "io") 403, none, .ref 519, .none, 0⟩, #[]⟩) ::
    (nat_lit 521, ⟨.type "tuple", none, .seq #[] 0, #[]⟩) ::
    (nat_lit 523, ⟨.type "tuple", none, .seq #[.str (Str.ofString "self") 943] 0, #[]⟩) ::
    (nat_lit 524, ⟨.type "tuple", none, .seq #[] 0, #[]⟩) ::
    (nat_lit 526, ⟨.type "code", none, .fields #[.str (Str.ofString "detach") 940, .str (Str.ofString "StringIO.detach") 941, .str (Str.ofString "/claim/cut.py") 942, .int 343 0, .int 1 0, .int 0 0, .int 0 0, .int 3 0, .ref 521, .bool true, .int 318 0, .ref 522, .none, .ref 523, .ref 524, .ref 525, .int 944 0, .int 343 0, .str (Str.ofString "/claim/cut.py") 945], #[]⟩) ::
    (nat_lit 527, ⟨.type "function", none, .func ⟨n_c_16_20_, Str.ofString "StringIO.detach", a_c_16_20_, .stmts b_c_16_20_, s_c_16_20_, 3, [], .none, .none, .none, .str (Str.ofString "io") 403, none, .ref 526, .none, 0⟩, #[]⟩) ::
    (nat_lit 528, ⟨.type "tuple", none, .seq #[] 0, #[]⟩) ::
    (nat_lit 530, ⟨.type "tuple", none, .seq #[.str (Str.ofString "self") 950] 0, #[]⟩) ::
    (nat_lit 531, ⟨.type "tuple", none, .seq #[] 0, #[]⟩) ::
    (nat_lit 533, ⟨.type "code", none, .fields #[.str (Str.ofString "getvalue") 947, .str (Str.ofString "StringIO.getvalue") 948, .str (Str.ofString "/claim/cut.py") 949, .int 346 0, .int 1 0, .int 0 0, .int 0 0, .int 3 0, .ref 528, .bool true, .int 318 0, .ref 529, .none, .ref 530, .ref 531, .ref 532, .int 951 0, .int 346 0, .str (Str.ofString "/claim/cut.py") 952], #[]⟩) ::
    (nat_lit 534, ⟨.type "function", none, .func ⟨n_c_16_21_, Str.ofString "StringIO.getvalue", a_c_16_21_, .stmts b_c_16_21_, s_c_16_21_, 3, [], .none, .none, .none, .str (Str.ofString "io") 403, none, .ref 533, .none, 0⟩, #[]⟩) ::
    (nat_lit 535, ⟨.type "tuple", none, .seq #[] 0, #[]⟩) ::
    (nat_lit 537, ⟨.type "tuple", none, .seq #[.str (Str.ofString "self") 957] 0, #[]⟩) ::
    (nat_lit 538, ⟨.type "tuple", none, .seq #[] 0, #[]⟩) ::
    (nat_lit 540, ⟨.type "code", none, .fields #[.str (Str.ofString "tell") 954, .str (Str.ofString "StringIO.tell") 955, .str (Str.ofString "/claim/cut.py") 956, .int 349 0, .int 1 0, .int 0 0, .int 0 0, .int 3 0, .ref 535, .bool true, .int 318 0, .ref 536, .none, .ref 537, .ref 538, .ref 539, .int 958 0, .int 349 0, .str (Str.ofString "/claim/cut.py") 959], #[]⟩) ::
    (nat_lit 541, ⟨.type "function", none, .func ⟨n_c_16_22_, Str.ofString "StringIO.tell", a_c_16_22_, .stmts b_c_16_22_, s_c_16_22_, 3, [], .none, .none, .none, .str (Str.ofString "io") 403, none, .ref 540, .none, 0⟩, #[]⟩) ::
    (nat_lit 542, ⟨.type "tuple", none, .seq #[.int 0 961] 0, #[]⟩) ::
    (nat_lit 543, ⟨.type "tuple", none, .seq #[] 0, #[]⟩) ::
    (nat_lit 545, ⟨.type "tuple", none, .seq #[.str (Str.ofString "self") 965, .str (Str.ofString "pos") 966, .str (Str.ofString "whence") 967] 0, #[]⟩) ::
    (nat_lit 546, ⟨.type "tuple", none, .seq #[] 0, #[]⟩) ::
    (nat_lit 548, ⟨.type "code", none, .fields #[.str (Str.ofString "seek") 962, .str (Str.ofString "StringIO.seek") 963, .str (Str.ofString "/claim/cut.py") 964, .int 353 0, .int 3 0, .int 3 0, .int 0 0, .int 3 0, .ref 543, .bool true, .int 318 0, .ref 544, .none, .ref 545, .ref 546, .ref 547, .int 968 0, .int 353 0, .str (Str.ofString "/claim/cut.py") 969], #[]⟩) ::
    (nat_lit 549, ⟨.type "function", none, .func ⟨n_c_16_23_, Str.ofString "StringIO.seek", a_c_16_23_, .stmts b_c_16_23_, s_c_16_23_, 3, [], .ref 542, .none, .none, .str (Str.ofString "io") 403, none, .ref 548, .none, 0⟩, #[]⟩) ::
    (nat_lit 550, ⟨.type "tuple", none, .seq #[.none] 0, #[]⟩) ::
    (nat_lit 551, ⟨.type "tuple", none, .seq #[] 0, #[]⟩) ::
    (nat_lit 553, ⟨.type "tuple", none, .seq #[.str (Str.ofString "self") 974, .str (Str.ofString "pos") 975] 0, #[]⟩) ::
    (nat_lit 554, ⟨.type "tuple", none, .seq #[] 0, #[]⟩) ::
    (nat_lit 556, ⟨.type "code", none, .fields #[.str (Str.ofString "truncate") 971, .str (Str.ofString "StringIO.truncate") 972, .str (Str.ofString "/claim/cut.py") 973, .int 370 0, .int 2 0, .int 2 0, .int 0 0, .int 3 0, .ref 551, .bool true, .int 318 0, .ref 552, .none, .ref 553, .ref 554, .ref 555, .int 976 0, .int 370 0, .str (Str.ofString "/claim/cut.py") 977], #[]⟩) ::
    (nat_lit 557, ⟨.type "function", none, .func ⟨n_c_16_24_, Str.ofString "StringIO.truncate", a_c_16_24_, .stmts b_c_16_24_, s_c_16_24_, 3, [], .ref 550, .none, .none, .str (Str.ofString "io") 403, none, .ref 556, .none, 0⟩, #[]⟩) ::
    (nat_lit 558, ⟨.type "tuple", none, .seq #[.int (-1) 980] 0, #[]⟩) ::
    (nat_lit 559, ⟨.type "tuple", none, .seq #[] 0, #[]⟩) ::
    (nat_lit 561, ⟨.type "tuple", none, .seq #[.str (Str.ofString "self") 984, .str (Str.ofString "size") 985, .str (Str.ofString "start") 986, .str (Str.ofString "stop") 987] 0, #[]⟩) ::
    (nat_lit 562, ⟨.type "tuple", none, .seq #[] 0, #[]⟩) ::
    (nat_lit 564, ⟨.type "code", none, .fields #[.str (Str.ofString "read") 981, .str (Str.ofString "StringIO.read") 982, .str (Str.ofString "/claim/cut.py") 983, .int 373 0, .int 2 0, .int 2 0, .int 0 0, .int 3 0, .ref 559, .bool true, .int 318 0, .ref 560, .none, .ref 561, .ref 562, .ref 563, .int 988 0, .int 373 0, .str (Str.ofString "/claim/cut.py") 989], #[]⟩) ::
    (nat_lit 565, ⟨.type "function", none, .func ⟨n_c_16_25_, Str.ofString "StringIO.read", a_c_16_25_, .stmts b_c_16_25_, s_c_16_25_, 3, [], .ref 558, .none, .none, .str (Str.ofString "io") 403, none, .ref 564, .none, 0⟩, #[]⟩) ::
    (nat_lit 566, ⟨.type "tuple", none, .seq #[.int (-1) 992] 0, #[]⟩) ::
    (nat_lit 567, ⟨.type "tuple", none, .seq #[] 0, #[]⟩) ::
    (nat_lit 569, ⟨.type "tuple", none, .seq #[.str (Str.ofString "self") 996, .str (Str.ofString "size") 997] 0, #[]⟩) ::
    (nat_lit 570, ⟨.type "tuple", none, .seq #[] 0, #[]⟩) ::
    (nat_lit 572, ⟨.type "code", none, .fields #[.str (Str.ofString "readline") 993, .str (Str.ofString "StringIO.readline") 994, .str (Str.ofString "/claim/cut.py") 995, .int 387 0, .int 2 0, .int 2 0, .int 0 0, .int 3 0, .ref 567, .bool true, .int 318 0, .ref 568, .none, .ref 569, .ref 570, .ref 571, .int 998 0, .int 387 0, .str (Str.ofString "/claim/cut.py") 999], #[]⟩) ::
    (nat_lit 573, ⟨.type "function", none, .func ⟨n_c_16_26_, Str.ofString "StringIO.readline", a_c_16_26_, .stmts b_c_16_26_, s_c_16_26_, 3, [], .ref 566, .none, .none, .str (Str.ofString "io") 403, none, .ref 572, .none, 0⟩, #[]⟩) ::
    (nat_lit 574, ⟨.type "tuple", none, .seq #[.int (-1) 1002] 0, #[]⟩) ::
    (nat_lit 575, ⟨.type "tuple", none, .seq #[] 0, #[]⟩) ::
    (nat_lit 577, ⟨.type "tuple", none, .seq #[.str (Str.ofString "self") 1006, .str (Str.ofString "hint") 1007] 0, #[]⟩) ::
    (nat_lit 578, ⟨.type "tuple", none, .seq #[] 0, #[]⟩) ::
    (nat_lit 580, ⟨.type "code", none, .fields #[.str (Str.ofString "readlines") 1003, .str (Str.ofString "StringIO.readlines") 1004, .str (Str.ofString "/claim/cut.py") 1005, .int 394 0, .int 2 0, .int 2 0, .int 0 0, .int 3 0, .ref 575, .bool true, .int 318 0, .ref 576, .none, .ref 577, .ref 578, .ref 579, .int 1008 0, .int 394 0, .str (Str.ofString "/claim/cut.py") 1009], #[]⟩) ::
    (nat_lit 581, ⟨.type "function", none, .func ⟨n_c_16_27_, Str.ofString "StringIO.readlines", a_c_16_27_, .stmts b_c_16_27_, s_c_16_27_, 3, [], .ref 574, .none, .none, .str (Str.ofString "io") 403, none, .ref 580, .none, 0⟩, #[]⟩) ::
    (nat_lit 582, ⟨.type "tuple", none, .seq #[] 0, #[]⟩) ::
    (nat_lit 584, ⟨.type "tuple", none, .seq #[.str (Str.ofString "self") 1014] 0, #[]⟩) ::
    (nat_lit 585, ⟨.type "tuple", none, .seq #[] 0, #[]⟩) ::
    (nat_lit 587, ⟨.type "code", none, .fields #[.str (Str.ofString "__iter__") 1011, .str (Str.ofString "StringIO.__iter__") 1012, .str (Str.ofString "/claim/cut.py") 1013, .int 397 0, .int 1 0, .int 0 0, .int 0 0, .int 3 0, .ref 582, .bool true, .int 318 0, .ref 583, .none, .ref 584, .ref 585, .ref 586, .int 1015 0, .int 397 0, .str (Str.ofString "/claim/cut.py") 1016], #[]⟩) ::
    (nat_lit 588, ⟨.type "function", none, .func ⟨n_c_16_28_, Str.ofString "StringIO.__iter__", a_c_16_28_, .stmts b_c_16_28_, s_c_16_28_, 3, [], .none, .none, .none, .str (Str.ofString "io") 403, none, .ref 587, .none, 0⟩, #[]⟩) ::
    (nat_lit 589, ⟨.type "tuple", none, .seq #[] 0, #[]⟩) ::
    (nat_lit 591, ⟨.type "tuple", none, .seq #[.str (Str.ofString "self") 1021, .str (Str.ofString "line") 1022] 0, #[]⟩) ::
    (nat_lit 592, ⟨.type "tuple", none, .seq #[] 0, #[]⟩) ::
    (nat_lit 594, ⟨.type "code", none, .fields #[.str (Str.ofString "__next__") 1018, .str (Str.ofString "StringIO.__next__") 1019, .str (Str.ofString "/claim/cut.py") 1020, .int 401 0, .int 1 0, .int 0 0, .int 0 0, .int 3 0, .ref 589, .bool true, .int 318 0, .ref 590, .none, .ref 591, .ref 592, .ref 593, .int 1023 0, .int 401 0, .str (Str.ofString "/claim/cut.py") 1024], #[]⟩) ::
    (nat_lit 595, ⟨.type "function", none, .func ⟨n_c_16_29_, Str.ofString "StringIO.__next__", a_c_16_29_, .stmts b_c_16_29_, s_c_16_29_, 3, [], .none, .none, .none, .str (Str.ofString "io") 403, none, .ref 594, .none, 0⟩, #[]⟩) ::
    (nat_lit 596, ⟨.type "tuple", none, .seq #[] 0, #[]⟩) ::
    (nat_lit 598, ⟨.type "tuple", none, .seq #[.str (Str.ofString "self") 1029, .str (Str.ofString "s") 1030, .str (Str.ofString "n") 1031, .str (Str.ofString "m") 1032, .str (Str.ofString "start") 1033, .str (Str.ofString "buf") 1034] 0, #[]⟩) ::
    (nat_lit 599, ⟨.type "tuple", none, .seq #[] 0, #[]⟩) ::
    (nat_lit 601, ⟨.type "code", none, .fields #[.str (Str.ofString "write") 1026, .str (Str.ofString "StringIO.write") 1027, .str (Str.ofString "/claim/cut.py") 1028, .int 408 0, .int 2 0, .int 2 0, .int 0 0, .int 3 0, .ref 596, .bool true, .int 318 0, .ref 597, .none, .ref 598, .ref 599, .ref 600, .int 1035 0, .int 408 0, .str (Str.ofString "/claim/cut.py") 1036], #[]⟩) ::
    (nat_lit 602, ⟨.type "function", none, .func ⟨n_c_16_30_, Str.ofString "StringIO.write", a_c_16_30_, .stmts b_c_16_30_, s_c_16_30_, 3, [], .none, .none, .none, .str (Str.ofString "io") 403, none, .ref 601, .none, 0⟩, #[]⟩) ::
    (nat_lit 603, ⟨.type "tuple", none, .seq #[] 0, #[]⟩) ::
    (nat_lit 605, ⟨.type "tuple", none, .seq #[.str (Str.ofString "self") 1041, .str (Str.ofString "lines") 1042] 0, #[]⟩) ::
    (nat_lit 606, ⟨.type "tuple", none, .seq #[] 0, #[]⟩) ::
    (nat_lit 608, ⟨.type "code", none, .fields #[.str (Str.ofString "writelines") 1038, .str (Str.ofString "StringIO.writelines") 1039, .str (Str.ofString "/claim/cut.py") 1040, .int 427 0, .int 2 0, .int 2 0, .int 0 0, .int 3 0, .ref 603, .bool true, .int 318 0, .ref 604, .none, .ref 605, .ref 606, .ref 607, .int 1043 0, .int 427 0, .str (Str.ofString "/claim/cut.py") 1044], #[]⟩) ::
    (nat_lit 609, ⟨.type "function", none, .func ⟨n_c_16_31_, Str.ofString "StringIO.writelines", a_c_16_31_, .stmts b_c_16_31_, s_c_16_31_, 3, [], .none, .none, .none, .str (Str.ofString "io") 403, none, .ref 608, .none, 0⟩, #[]⟩) ::
    (nat_lit 610, ⟨.type "tuple", none, .seq #[] 0, #[]⟩) ::
    (nat_lit 612, ⟨.type "tuple", none, .seq #[.str (Str.ofString "self") 1049] 0, #[]⟩) ::
    (nat_lit 613, ⟨.type "tuple", none, .seq #[] 0, #[]⟩) ::
    (nat_lit 615, ⟨.type "code", none, .fields #[.str (Str.ofString "__repr__") 1046, .str (Str.ofString "StringIO.__repr__") 1047, .str (Str.ofString "/claim/cut.py") 1048, .int 430 0, .int 1 0, .int 0 0, .int 0 0, .int 3 0, .ref 610, .bool true, .int 318 0, .ref 611, .none, .ref 612, .ref 613, .ref 614, .int 1050 0, .int 430 0, .str (Str.ofString "/claim/cut.py") 1051], #[]⟩) ::
    (nat_lit 616, ⟨.type "function", none, .func ⟨n_c_16_32_, Str.ofString "StringIO.__repr__", a_c_16_32_, .stmts b_c_16_32_, s_c_16_32_, 3, [], .none, .none, .none, .str (Str.ofString "io") 403, none, .ref 615, .none, 0⟩, #[]⟩) ::
    (nat_lit 617, ⟨.type "tuple", none, .seq #[.str (Str.ofString "__buf") 1053, .str (Str.ofString "__newline") 1054, .str (Str.ofString "__pos") 1055] 0, #[]⟩) ::
    (nat_lit 618, ⟨.type "dict", none, .dict #[⟨PyData.keyHash P (Str.ofString "__module__"), .str (Str.ofString "__module__") 780, .str (Str.ofString "_io") 785⟩, ⟨PyData.keyHash P (Str.ofString "__firstlineno__"), .str (Str.ofString "__firstlineno__") 784, .int 227 783⟩, ⟨PyData.keyHash P (Str.ofString "__init__"), .str (Str.ofString "__init__") 797, .ref 389⟩, ⟨PyData.keyHash P (Str.ofString "_StringIO__translated"), .str (Str.ofString "_StringIO__translated") 806, .ref 396⟩, ⟨PyData.keyHash P (Str.ofString "_StringIO__check"), .str (Str.ofString "_StringIO__check") 813, .ref 403⟩, ⟨PyData.keyHash P (Str.ofString "_StringIO__check_dot"), .str (Str.ofString "_StringIO__check_dot") 820, .ref 410⟩, ⟨PyData.keyHash P (Str.ofString "_StringIO__line"), .str (Str.ofString "_StringIO__line") 835, .ref 417⟩, ⟨PyData.keyHash P (Str.ofString "closed"), .str (Str.ofString "closed") 843, .ref 425⟩, ⟨PyData.keyHash P (Str.ofString "line_buffering"), .str (Str.ofString "line_buffering") 851, .ref 433⟩, ⟨PyData.keyHash P (Str.ofString "newlines"), .str (Str.ofString "newlines") 859, .ref 441⟩, ⟨PyData.keyHash P (Str.ofString "encoding"), .str (Str.ofString "encoding") 867, .ref 449⟩, ⟨PyData.keyHash P (Str.ofString "errors"), .str (Str.ofString "errors") 875, .ref 457⟩, ⟨PyData.keyHash P (Str.ofString "close"), .str (Str.ofString "close") 882, .ref 464⟩, ⟨PyData.keyHash P (Str.ofString "__enter__"), .str (Str.ofString "__enter__") 889, .ref 471⟩, ⟨PyData.keyHash P (Str.ofString "__exit__"), .str (Str.ofString "__exit__") 897, .ref 478⟩, ⟨PyData.keyHash P (Str.ofString "readable"), .str (Str.ofString "readable") 904, .ref 485⟩, ⟨PyData.keyHash P (Str.ofString "writable"), .str (Str.ofString "writable") 911, .ref 492⟩, ⟨PyData.keyHash P (Str.ofString "seekable"), .str (Str.ofString "seekable") 918, .ref 499⟩, ⟨PyData.keyHash P (Str.ofString "isatty"), .str (Str.ofString "isatty") 925, .ref 506⟩, ⟨PyData.keyHash P (Str.ofString "flush"), .str (Str.ofString "flush") 932, .ref 513⟩, ⟨PyData.keyHash P (Str.ofString "fileno"), .str (Str.ofString "fileno") 939, .ref 520⟩, ⟨PyData.keyHash P (Str.ofString "detach"), .str (Str.ofString "detach") 946, .ref 527⟩, ⟨PyData.keyHash P (Str.ofString "getvalue"), .str (Str.ofString "getvalue") 953, .ref 534⟩, ⟨PyData.keyHash P (Str.ofString "tell"), .str (Str.ofString "tell") 960, .ref 541⟩, ⟨PyData.keyHash P (Str.ofString "seek"), .str (Str.ofString "seek") 970, .ref 549⟩, ⟨PyData.keyHash P (Str.ofString "truncate"), .str (Str.ofString "truncate") 978, .ref 557⟩, ⟨PyData.keyHash P (Str.ofString "read"), .str (Str.ofString "read") 990, .ref 565⟩, ⟨PyData.keyHash P (Str.ofString "readline"), .str (Str.ofString "readline") 1000, .ref 573⟩, ⟨PyData.keyHash P (Str.ofString "readlines"), .str (Str.ofString "readlines") 1010, .ref 581⟩, ⟨PyData.keyHash P (Str.ofString "__iter__"), .str (Str.ofString "__iter__") 1017, .ref 588⟩, ⟨PyData.keyHash P (Str.ofString "__next__"), .str (Str.ofString "__next__") 1025, .ref 595⟩, ⟨PyData.keyHash P (Str.ofString "write"), .str (Str.ofString "write") 1037, .ref 602⟩, ⟨PyData.keyHash P (Str.ofString "writelines"), .str (Str.ofString "writelines") 1045, .ref 609⟩, ⟨PyData.keyHash P (Str.ofString "__repr__"), .str (Str.ofString "__repr__") 1052, .ref 616⟩, ⟨PyData.keyHash P (Str.ofString "__static_attributes__"), .str (Str.ofString "__static_attributes__") 1056, .ref 617⟩, ⟨PyData.keyHash P (Str.ofString "__doc__"), .str (Str.ofString "__doc__") 1057, .none⟩] 2, #[]⟩) ::
    (nat_lit 619, ⟨.type "type", none, .cls ⟨Str.ofString "StringIO", [.ref 142], [.ref 619, .ref 142, .ref 115, .type "object"], 618, Str.ofString "StringIO", true, [], [], false, none, false⟩, #[some (.ref 375), none, some (.str (Str.ofString "StringIO") 773), some (.str (Str.ofString "StringIO") 781), some .none, some (.bool true)]⟩) ::
    (nat_lit 622, ⟨.type "tuple", none, .seq #[] 0, #[]⟩) ::
    (nat_lit 624, ⟨.type "tuple", none, .seq #[.str (Str.ofString "name") 1065, .str (Str.ofString "x") 1066, .str (Str.ofString "t") 1067] 0, #[]⟩) ::
    (nat_lit 625, ⟨.type "tuple", none, .seq #[] 0, #[]⟩) ::
    (nat_lit 627, ⟨.type "code", none, .fields #[.str (Str.ofString "_kind") 1062, .str (Str.ofString "_kind") 1063, .str (Str.ofString "/claim/cut.py") 1064, .int 433 0, .int 2 0, .int 0 0, .int 0 0, .int 3 0, .ref 622, .bool true, .int 318 0, .ref 623, .none, .ref 624, .ref 625, .ref 626, .int 1068 0, .int 433 0, .str (Str.ofString "/claim/cut.py") 1069], #[]⟩) ::
    (nat_lit 628, ⟨.type "function", none, .func ⟨n_s_18_, Str.ofString "_kind", a_s_18_, .stmts b_s_18_, s_s_18_, 3, [], .none, .none, .none, .str (Str.ofString "os.path") 1060, none, .ref 627, .none, 0⟩, #[]⟩) ::
    (nat_lit 629, ⟨.type "tuple", none, .seq #[] 0, #[]⟩) ::
    (nat_lit 631, ⟨.type "tuple", none, .seq #[.str (Str.ofString "name") 1074, .str (Str.ofString "x") 1075, .str (Str.ofString "k") 1076] 0, #[]⟩) ::
    (nat_lit 632, ⟨.type "tuple", none, .seq #[] 0, #[]⟩) ::
    (nat_lit 634, ⟨.type "code", none, .fields #[.str (Str.ofString "_fspath") 1071, .str (Str.ofString "_fspath") 1072, .str (Str.ofString "/claim/cut.py") 1073, .int 454 0, .int 2 0, .int 0 0, .int 0 0, .int 3 0, .ref 629, .bool true, .int 318 0, .ref 630, .none, .ref 631, .ref 632, .ref 633, .int 1077 0, .int 454 0, .str (Str.ofString "/claim/cut.py") 1078], #[]⟩) ::
    (nat_lit 635, ⟨.type "function", none, .func ⟨n_s_19_, Str.ofString "_fspath", a_s_19_, .stmts b_s_19_, s_s_19_, 3, [], .none, .none, .none, .str (Str.ofString "os.path") 1060, none, .ref 634, .none, 0⟩, #[]⟩) ::
    (nat_lit 636, ⟨.type "tuple", none, .seq #[] 0, #[]⟩) ::
    (nat_lit 638, ⟨.type "tuple", none, .seq #[.str (Str.ofString "funcname") 1083, .str (Str.ofString "args") 1084, .str (Str.ofString "s") 1085, .str (Str.ofString "k") 1086] 0, #[]⟩) ::
    (nat_lit 639, ⟨.type "tuple", none, .seq #[] 0, #[]⟩) ::
    (nat_lit 641, ⟨.type "code", none, .fields #[.str (Str.ofString "_check_arg_types") 1080, .str (Str.ofString "_check_arg_types") 1081, .str (Str.ofString "/claim/cut.py") 1082, .int 459 0, .int 1 0, .int 0 0, .int 0 0, .int 7 0, .ref 636, .bool true, .int 318 0, .ref 637, .none, .ref 638, .ref 639, .ref 640, .int 1087 0, .int 459 0, .str (Str.ofString "/claim/cut.py") 1088], #[]⟩) ::
    (nat_lit 642, ⟨.type "function", none, .func ⟨n_s_20_, Str.ofString "_check_arg_types", a_s_20_, .stmts b_s_20_, s_s_20_, 3, [], .none, .none, .none, .str (Str.ofString "os.path") 1060, none, .ref 641, .none, 0⟩, #[]⟩) ::
    (nat_lit 643, ⟨.type "tuple", none, .seq #[] 0, #[]⟩) ::
    (nat_lit 645, ⟨.type "tuple", none, .seq #[.str (Str.ofString "s") 1093] 0, #[]⟩) ::
    (nat_lit 646, ⟨.type "tuple", none, .seq #[] 0, #[]⟩) ::
    (nat_lit 648, ⟨.type "code", none, .fields #[.str (Str.ofString "isabs") 1090, .str (Str.ofString "isabs") 1091, .str (Str.ofString "/claim/cut.py") 1092, .int 464 0, .int 1 0, .int 0 0, .int 0 0, .int 3 0, .ref 643, .bool true, .int 318 0, .ref 644, .none, .ref 645, .ref 646, .ref 647, .int 1094 0, .int 464 0, .str (Str.ofString "/claim/cut.py") 1095], #[]⟩) ::
    (nat_lit 649, ⟨.type "function", none, .func ⟨n_s_21_, Str.ofString "isabs", a_s_21_, .stmts b_s_21_, s_s_21_, 3, [], .none, .none, .none, .str (Str.ofString "os.path") 1060, none, .ref 648, .none, 0⟩, #[]⟩) ::
    (nat_lit 650, ⟨.type "tuple", none, .seq #[] 0, #[]⟩) ::
    (nat_lit 652, ⟨.type "tuple", none, .seq #[.str (Str.ofString "a") 1100, .str (Str.ofString "p") 1101, .str (Str.ofString "b") 1102, .str (Str.ofString "sep") 1103, .str (Str.ofString "path") 1104] 0, #[]⟩) ::
    (nat_lit 653, ⟨.type "tuple", none, .seq #[] 0, #[]⟩) ::
    (nat_lit 655, ⟨.type "code", none, .fields #[.str (Str.ofString "join") 1097, .str (Str.ofString "join") 1098, .str (Str.ofString "/claim/cut.py") 1099, .int 467 0, .int 1 0, .int 0 0, .int 0 0, .int 7 0, .ref 650, .bool true, .int 318 0, .ref 651, .none, .ref 652, .ref 653, .ref 654, .int 1105 0, .int 467 0, .str (Str.ofString "/claim/cut.py") 1106], #[]⟩) ::
    (nat_lit 656, ⟨.type "function", none, .func ⟨n_s_22_, Str.ofString "join", a_s_22_, .stmts b_s_22_, s_s_22_, 3, [], .none, .none, .none, .str (Str.ofString "os.path") 1060, none, .ref 655, .none, 0⟩, #[]⟩) ::
    (nat_lit 657, ⟨.type "tuple", none, .seq #[] 0, #[]⟩) ::
    (nat_lit 659, ⟨.type "tuple", none, .seq #[.str (Str.ofString "p") 1112, .str (Str.ofString "sep") 1113, .str (Str.ofString "i") 1114, .str (Str.ofString "head") 1115] 0, #[]⟩) ::
    (nat_lit 660, ⟨.type "tuple", none, .seq #[] 0, #[]⟩) ::
    (nat_lit 662, ⟨.type "code", none, .fields #[.str (Str.ofString "dirname") 1109, .str (Str.ofString "dirname") 1110, .str (Str.ofString "/claim/cut.py") 1111, .int 488 0, .int 1 0, .int 0 0, .int 0 0, .int 3 0, .ref 657, .bool true, .int 318 0, .ref 658, .none, .ref 659, .ref 660, .ref 661, .int 1116 0, .int 488 0, .str (Str.ofString "/claim/cut.py") 1117], #[]⟩) ::
    (nat_lit 663, ⟨.type "function", none, .func ⟨n_s_24_, Str.ofString "dirname", a_s_24_, .stmts b_s_24_, s_s_24_, 3, [], .none, .none, .none, .str (Str.ofString "os.path") 1060, none, .ref 662, .none, 0⟩, #[]⟩) ::
    (nat_lit 671, ⟨.type "tuple", none, .seq #[.none, .none, .bool false, .bool false] 0, #[]⟩) ::
    (nat_lit 672, ⟨.type "tuple", none, .seq #[] 0, #[]⟩) ::
    (nat_lit 674, ⟨.type "tuple", none, .seq #[.str (Str.ofString "self") 1136, .str (Str.ofString "instream") 1137, .str (Str.ofString "infile") 1138, .str (Str.ofString "posix") 1139, .str (Str.ofString "punctuation_chars") 1140, .str (Str.ofString "t") 1141] 0, #[]⟩) ::
    (nat_lit 675, ⟨.type "tuple", none, .seq #[] 0, #[]⟩) ::
    (nat_lit 677, ⟨.type "code", none, .fields #[.str (Str.ofString "__init__") 1133, .str (Str.ofString "shlex.__init__") 1134, .str (Str.ofString "/claim/cut.py") 1135, .int 499 0, .int 5 0, .int 0 0, .int 0 0, .int 3 0, .ref 672, .bool true, .int 318 0, .ref 673, .none, .ref 674, .ref 675, .ref 676, .int 1142 0, .int 499 0, .str (Str.ofString "/claim/cut.py") 1143], #[]⟩) ::
    (nat_lit 678, ⟨.type "function", none, .func ⟨n_c_26_0_, Str.ofString "shlex.__init__", a_c_26_0_, .stmts b_c_26_0_, s_c_26_0_, 3, [], .ref 671, .none, .none, .str (Str.ofString "cpy313.shlex") 1119, none, .ref 677, .none, 0⟩, #[]⟩) ::
    (nat_lit 679, ⟨.type "tuple", none, .seq #[] 0, #[]⟩) ::
    (nat_lit 681, ⟨.type "tuple", none, .seq #[.str (Str.ofString "self") 1148] 0, #[]⟩) ::
    (nat_lit 682, ⟨.type "tuple", none, .seq #[] 0, #[]⟩) ::
    (nat_lit 684, ⟨.type "code", none, .fields #[.str (Str.ofString "punctuation_chars") 1145, .str (Str.ofString "shlex.punctuation_chars") 1146, .str (Str.ofString "/claim/cut.py") 1147, .int 540 0, .int 1 0, .int 0 0, .int 0 0, .int 3 0, .ref 679, .bool true, .int 318 0, .ref 680, .none, .ref 681, .ref 682, .ref 683, .int 1149 0, .int 540 0, .str (Str.ofString "/claim/cut.py") 1150], #[]⟩) ::
    (nat_lit 685, ⟨.type "function", none, .func ⟨n_c_26_1_, Str.ofString "shlex.punctuation_chars", a_c_26_1_, .stmts b_c_26_1_, s_c_26_1_, 3, [], .none, .none, .none, .str (Str.ofString "cpy313.shlex") 1119, none, .ref 684, .none, 0⟩, #[]⟩) ::
    (nat_lit 686, ⟨.type "property", none, .fields #[.ref 685, .none, .none, .none, .str (Str.ofString "punctuation_chars") 1152, .bool false], #[]⟩) ::
    (nat_lit 687, ⟨.type "tuple", none, .seq #[] 0, #[]⟩) ::
    (nat_lit 689, ⟨.type "tuple", none, .seq #[.str (Str.ofString "self") 1156, .str (Str.ofString "tok") 1157] 0, #[]⟩) ::
    (nat_lit 690, ⟨.type "tuple", none, .seq #[] 0, #[]⟩) ::
    (nat_lit 692, ⟨.type "code", none, .fields #[.str (Str.ofString "push_token") 1153, .str (Str.ofString "shlex.push_token") 1154, .str (Str.ofString "/claim/cut.py") 1155, .int 544 0, .int 2 0, .int 0 0, .int 0 0, .int 3 0, .ref 687, .bool true, .int 318 0, .ref 688, .none, .ref 689, .ref 690, .ref 691, .int 1158 0, .int 544 0, .str (Str.ofString "/claim/cut.py") 1159], #[]⟩) ::
    (nat_lit 693, ⟨.type "function", none, .func ⟨n_c_26_2_, Str.ofString "shlex.push_token", a_c_26_2_, .stmts b_c_26_2_, s_c_26_2_, 3, [], .none, .none, .none, .str (Str.ofString "cpy313.shlex") 1119, none, .ref 692, .none, 0⟩, #[]⟩) ::
    (nat_lit 694, ⟨.type "tuple", none, .seq #[.none] 0, #[]⟩) ::
    (nat_lit 695, ⟨.type "tuple", none, .seq #[] 0, #[]⟩) ::
    (nat_lit 697, ⟨.type "tuple", none, .seq #[.str (Str.ofString "self") 1164, .str (Str.ofString "newstream") 1165, .str (Str.ofString "newfile") 1166] 0, #[]⟩) ::
    (nat_lit 698, ⟨.type "tuple", none, .seq #[] 0, #[]⟩) ::
    (nat_lit 700, ⟨.type "code", none, .fields #[.str (Str.ofString "push_source") 1161, .str (Str.ofString "shlex.push_source") 1162, .str (Str.ofString "/claim/cut.py") 1163, .int 547 0, .int 3 0, .int 0 0, .int 0 0, .int 3 0, .ref 695, .bool true, .int 318 0, .ref 696, .none, .ref 697, .ref 698, .ref 699, .int 1167 0, .int 547 0, .str (Str.ofString "/claim/cut.py") 1168], #[]⟩) ::
    (nat_lit 701, ⟨.type "function", none, .func ⟨n_c_26_3_, Str.ofString "shlex.push_source", a_c_26_3_, .stmts b_c_26_3_, s_c_26_3_, 3, [], .ref 694, .none, .none, .str (Str.ofString "cpy313.shlex") 1119, none, .ref 700, .none, 0⟩, #[]⟩) ::
    (nat_lit 702, ⟨.type "tuple", none, .seq #[] 0, #[]⟩) ::
    (nat_lit 704, ⟨.type "tuple", none, .seq #[.str (Str.ofString "self") 1173] 0, #[]⟩) ::
    (nat_lit 705, ⟨.type "tuple", none, .seq #[] 0, #[]⟩) ::
    (nat_lit 707, ⟨.type "code", none, .fields #[.str (Str.ofString "pop_source") 1170, .str (Str.ofString "shlex.pop_source") 1171, .str (Str.ofString "/claim/cut.py") 1172, .int 560 0, .int 1 0, .int 0 0, .int 0 0, .int 3 0, .ref 702, .bool true, .int 318 0, .ref 703, .none, .ref 704, .ref 705, .ref 706, .int 1174 0, .int 560 0, .str (Str.ofString "/claim/cut.py") 1175], #[]⟩) ::
    (nat_lit 708, ⟨.type "function", none, .func ⟨n_c_26_4_, Str.ofString "shlex.pop_source", a_c_26_4_, .stmts b_c_26_4_, s_c_26_4_, 3, [], .none, .none, .none, .str (Str.ofString "cpy313.shlex") 1119, none, .ref 707, .none, 0⟩, #[]⟩) ::
    (nat_lit 709, ⟨.type "tuple", none, .seq #[] 0, #[]⟩) ::
    (nat_lit 711, ⟨.type "tuple", none, .seq #[.str (Str.ofString "self") 1180, .str (Str.ofString "tok") 1181, .str (Str.ofString "raw") 1182, .str (Str.ofString "spec") 1183, .str (Str.ofString "newfile") 1184, .str (Str.ofString "newstream") 1185] 0, #[]⟩) ::
    (nat_lit 712, ⟨.type "tuple", none, .seq #[] 0, #[]⟩) ::
    (nat_lit 714, ⟨.type "code", none, .fields #[.str (Str.ofString "get_token") 1177, .str (Str.ofString "shlex.get_token") 1178, .str (Str.ofString "/claim/cut.py") 1179, .int 567 0, .int 1 0, .int 0 0, .int 0 0, .int 3 0, .ref 709, .bool true, .int 318 0, .ref 710, .none, .ref 711, .ref 712, .ref 713, .int 1186 0, .int 567 0, .str (Str.ofString "/claim/cut.py") 1187], #[]⟩) ::
    (nat_lit 715, ⟨.type "function", none, .func ⟨n_c_26_5_, Str.ofString "shlex.get_token", a_c_26_5_, .stmts b_c_26_5_, s_c_26_5_, 3, [], .none, .none, .none, .str (Str.ofString "cpy313.shlex") 1119, none, .ref 714, .none, 0⟩, #[]⟩) ::
    (nat_lit 716, ⟨.type "tuple", none, .seq #[] 0, #[]⟩) ::
    (nat_lit 718, ⟨.type "tuple", none, .seq #[.str (Str.ofString "self") 1192, .str (Str.ofString "quoted") 1193, .str (Str.ofString "escapedstate") 1194, .str (Str.ofString "nextchar") 1195, .str (Str.ofString "result") 1196] 0, #[]⟩) ::
    (nat_lit 719, ⟨.type "tuple", none, .seq #[] 0, #[]⟩) ::
    (nat_lit 721, ⟨.type "code", none, .fields #[.str (Str.ofString "read_token") 1189, .str (Str.ofString "shlex.read_token") 1190, .str (Str.ofString "/claim/cut.py") 1191, .int 594 0, .int 1 0, .int 0 0, .int 0 0, .int 3 0, .ref 716, .bool true, .int 318 0, .ref 717, .none, .ref 718, .ref 719, .ref 720, .int 1197 0, .int 594 0, .str (Str.ofString "/claim/cut.py") 1198], #[]⟩) ::
    (nat_lit 722, ⟨.type "function", none, .func ⟨n_c_26_6_, Str.ofString "shlex.read_token", a_c_26_6_, .stmts b_c_26_6_, s_c_26_6_, 3, [], .none, .none, .none, .str (Str.ofString "cpy313.shlex") 1119, none, .ref 721, .none, 0⟩, #[]⟩) ::
    (nat_lit 723, ⟨.type "tuple", none, .seq #[] 0, #[]⟩) ::
    (nat_lit 725, ⟨.type "tuple", none, .seq #[.str (Str.ofString "self") 1203, .str (Str.ofString "newfile") 1204] 0, #[]⟩) ::
    (nat_lit 726, ⟨.type "tuple", none, .seq #[] 0, #[]⟩) ::
    (nat_lit 728, ⟨.type "code", none, .fields #[.str (Str.ofString "sourcehook") 1200, .str (Str.ofString "shlex.sourcehook") 1201, .str (Str.ofString "/claim/cut.py") 1202, .int 731 0, .int 2 0, .int 0 0, .int 0 0, .int 3 0, .ref 723, .bool true, .int 318 0, .ref 724, .none, .ref 725, .ref 726, .ref 727, .int 1205 0, .int 731 0, .str (Str.ofString "/claim/cut.py") 1206], #[]⟩) ::
    (nat_lit 729, ⟨.type "function", none, .func ⟨n_c_26_7_, Str.ofString "shlex.sourcehook", a_c_26_7_, .stmts b_c_26_7_, s_c_26_7_, 3, [], .none, .none, .none, .str (Str.ofString "cpy313.shlex") 1119, none, .ref 728, .none, 0⟩, #[]⟩) ::
    (nat_lit 730, ⟨.type "tuple", none, .seq #[.none, .none] 0, #[]⟩) ::
    (nat_lit 731, ⟨.type "tuple", none, .seq #[] 0, #[]⟩) ::
    (nat_lit 733, ⟨.type "tuple", none, .seq #[.str (Str.ofString "self") 1211, .str (Str.ofString "infile") 1212, .str (Str.ofString "lineno") 1213] 0, #[]⟩) ::
    (nat_lit 734, ⟨.type "tuple", none, .seq #[] 0, #[]⟩) ::
    (nat_lit 736, ⟨.type "code", none, .fields #[.str (Str.ofString "error_leader") 1208, .str (Str.ofString "shlex.error_leader") 1209, .str (Str.ofString "/claim/cut.py") 1210, .int 738 0, .int 3 0, .int 0 0, .int 0 0, .int 3 0, .ref 731, .bool true, .int 318 0, .ref 732, .none, .ref 733, .ref 734, .ref 735, .int 1214 0, .int 738 0, .str (Str.ofString "/claim/cut.py") 1215], #[]⟩) ::
    (nat_lit 737, ⟨.type "function", none, .func ⟨n_c_26_8_, Str.ofString "shlex.error_leader", a_c_26_8_, .stmts b_c_26_8_, s_c_26_8_, 3, [], .ref 730, .none, .none, .str (Str.ofString "cpy313.shlex") 1119, none, .ref 736, .none, 0⟩, #[]⟩) ::
    (nat_lit 738, ⟨.type "tuple", none, .seq #[] 0, #[]⟩) ::
    (nat_lit 740, ⟨.type "tuple", none, .seq #[.str (Str.ofString "self") 1220] 0, #[]⟩) ::
    (nat_lit 741, ⟨.type "tuple", none, .seq #[] 0, #[]⟩) ::
    (nat_lit 743, ⟨.type "code", none, .fields #[.str (Str.ofString "__iter__") 1217, .str (Str.ofString "shlex.__iter__") 1218, .str (Str.ofString "/claim/cut.py") 1219, .int 741 0, .int 1 0, .int 0 0, .int 0 0, .int 3 0, .ref 738, .bool true, .int 318 0, .ref 739, .none, .ref 740, .ref 741, .ref 742, .int 1221 0, .int 741 0, .str (Str.ofString "/claim/cut.py") 1222], #[]⟩) ::
    (nat_lit 744, ⟨.type "function", none, .func ⟨n_c_26_9_, Str.ofString "shlex.__iter__", a_c_26_9_, .stmts b_c_26_9_, s_c_26_9_, 3, [], .none, .none, .none, .str (Str.ofString "cpy313.shlex") 1119, none, .ref 743, .none, 0⟩, #[]⟩) ::
    (nat_lit 745, ⟨.type "tuple", none, .seq #[] 0, #[]⟩) ::
    (nat_lit 747, ⟨.type "tuple", none, .seq #[.str (Str.ofString "self") 1227, .str (Str.ofString "token") 1228] 0, #[]⟩) ::
    (nat_lit 748, ⟨.type "tuple", none, .seq #[] 0, #[]⟩) ::
    (nat_lit 750, ⟨.type "code", none, .fields #[.str (Str.ofString "__next__") 1224, .str (Str.ofString "shlex.__next__") 1225, .str (Str.ofString "/claim/cut.py") 1226, .int 744 0, .int 1 0, .int 0 0, .int 0 0, .int 3 0, .ref 745, .bool true, .int 318 0, .ref 746, .none, .ref 747, .ref 748, .ref 749, .int 1229 0, .int 744 0, .str (Str.ofString "/claim/cut.py") 1230], #[]⟩) ::
    (nat_lit 751, ⟨.type "function", none, .func ⟨n_c_26_10_, Str.ofString "shlex.__next__", a_c_26_10_, .stmts b_c_26_10_, s_c_26_10_, 3, [], .none, .none, .none, .str (Str.ofString "cpy313.shlex") 1119, none, .ref 750, .none, 0⟩, #[]⟩) ::
    (nat_lit 752, ⟨.type "tuple", none, .seq #[.str (Str.ofString "_punctuation_chars") 1232, .str (Str.ofString "_pushback_chars") 1233, .str (Str.ofString "commenters") 1234, .str (Str.ofString "debug") 1235, .str (Str.ofString "eof") 1236, .str (Str.ofString "escape") 1237, .str (Str.ofString "escapedquotes") 1238, .str (Str.ofString "filestack") 1239, .str (Str.ofString "infile") 1240, .str (Str.ofString "instream") 1241, .str (Str.ofString "lineno") 1242, .str (Str.ofString "posix") 1243, .str (Str.ofString "pushback") 1244, .str (Str.ofString "quotes") 1245, .str (Str.ofString "source") 1246, .str (Str.ofString "state") 1247, .str (Str.ofString "token") 1248, .str (Str.ofString "whitespace") 1249, .str (Str.ofString "whitespace_split") 1250, .str (Str.ofString "wordchars") 1251] 0, #[]⟩) ::
    (nat_lit 753, ⟨.type "dict", none, .dict #[⟨PyData.keyHash P (Str.ofString "__module__"), .str (Str.ofString "__module__") 1128, .str (Str.ofString "cpy313.shlex") 1119⟩, ⟨PyData.keyHash P (Str.ofString "__firstlineno__"), .str (Str.ofString "__firstlineno__") 1132, .int 497 1131⟩, ⟨PyData.keyHash P (Str.ofString "__init__"), .str (Str.ofString "__init__") 1144, .ref 678⟩, ⟨PyData.keyHash P (Str.ofString "punctuation_chars"), .str (Str.ofString "punctuation_chars") 1152, .ref 686⟩, ⟨PyData.keyHash P (Str.ofString "push_token"), .str (Str.ofString "push_token") 1160, .ref 693⟩, ⟨PyData.keyHash P (Str.ofString "push_source"), .str (Str.ofString "push_source") 1169, .ref 701⟩, ⟨PyData.keyHash P (Str.ofString "pop_source"), .str (Str.ofString "pop_source") 1176, .ref 708⟩, ⟨PyData.keyHash P (Str.ofString "get_token"), .str (Str.ofString "get_token") 1188, .ref 715⟩, ⟨PyData.keyHash P (Str.ofString "read_token"), .str (Str.ofString "read_token") 1199, .ref 722⟩, ⟨PyData.keyHash P (Str.ofString "sourcehook"), .str (Str.ofString "sourcehook") 1207, .ref 729⟩, ⟨PyData.keyHash P (Str.ofString "error_leader"), .str (Str.ofString "error_leader") 1216, .ref 737⟩, ⟨PyData.keyHash P (Str.ofString "__iter__"), .str (Str.ofString "__iter__") 1223, .ref 744⟩, ⟨PyData.keyHash P (Str.ofString "__next__"), .str (Str.ofString "__next__") 1231, .ref 751⟩, ⟨PyData.keyHash P (Str.ofString "__static_attributes__"), .str (Str.ofString "__static_attributes__") 1252, .ref 752⟩, ⟨PyData.keyHash P (Str.ofString "__dict__"), .str (Str.ofString "__dict__") 1254, .ref 755⟩, ⟨PyData.keyHash P (Str.ofString "__weakref__"), .str (Str.ofString "__weakref__") 1256, .ref 756⟩, ⟨PyData.keyHash P (Str.ofString "__doc__"), .str (Str.ofString "__doc__") 1257, .none⟩] 4, #[]⟩) ::
    (nat_lit 754, ⟨.type "type", none, .cls ⟨Str.ofString "shlex", [.type "object"], [.ref 754, .type "object"], 753, Str.ofString "shlex", true, [], [], false, none, false⟩, #[none, none, some (.str (Str.ofString "shlex") 1121), some (.str (Str.ofString "shlex") 1129), some (.builtin "object.__new__"), some (.bool true)]⟩) ::
    (nat_lit 755, ⟨.type "getset_descriptor", none, .fields #[.str (Str.ofString "__dict__") 1253, .ref 754, .builtin "function.__dict__", .builtin "function.__dict__#set"], #[]⟩) ::
    (nat_lit 756, ⟨.type "getset_descriptor", none, .fields #[.str (Str.ofString "__weakref__") 1255, .ref 754, .builtin "ExceptionGroup.__weakref__", .none], #[]⟩) ::
    (nat_lit 759, ⟨.type "tuple", none, .seq #[.bool false, .bool true] 0, #[]⟩) ::
    (nat_lit 760, ⟨.type "tuple", none, .seq #[] 0, #[]⟩) ::
    (nat_lit 762, ⟨.type "tuple", none, .seq #[.str (Str.ofString "s") 1263, .str (Str.ofString "comments") 1264, .str (Str.ofString "posix") 1265, .str (Str.ofString "lex") 1266] 0, #[]⟩) ::
    (nat_lit 763, ⟨.type "tuple", none, .seq #[] 0, #[]⟩) ::
    (nat_lit 765, ⟨.type "code", none, .fields #[.str (Str.ofString "split") 1260, .str (Str.ofString "split") 1261, .str (Str.ofString "/claim/cut.py") 1262, .int 749 0, .int 3 0, .int 0 0, .int 0 0, .int 3 0, .ref 760, .bool true, .int 318 0, .ref 761, .none, .ref 762, .ref 763, .ref 764, .int 1267 0, .int 749 0, .str (Str.ofString "/claim/cut.py") 1268], #[]⟩) ::
    (nat_lit 766, ⟨.type "function", none, .func ⟨n_s_27_, Str.ofString "split", a_s_27_, .stmts b_s_27_, s_s_27_, 3, [], .ref 759, .none, .none, .str (Str.ofString "cpy313.shlex") 1119, none, .ref 765, .none, 0⟩, #[]⟩) ::
    (nat_lit 767, ⟨.type "tuple", none, .seq #[] 0, #[]⟩) ::
    (nat_lit 769, ⟨.type "tuple", none, .seq #[.str (Str.ofString "split_command") 1273] 0, #[]⟩) ::
    (nat_lit 770, ⟨.type "tuple", none, .seq #[] 0, #[]⟩) ::
    (nat_lit 772, ⟨.type "code", none, .fields #[.str (Str.ofString "join") 1270, .str (Str.ofString "join") 1271, .str (Str.ofString "/claim/cut.py") 1272, .int 757 0, .int 1 0, .int 0 0, .int 0 0, .int 3 0, .ref 767, .bool true, .int 318 0, .ref 768, .none, .ref 769, .ref 770, .ref 771, .int 1274 0, .int 757 0, .str (Str.ofString "/claim/cut.py") 1275], #[]⟩) ::
    (nat_lit 773, ⟨.type "function", none, .func ⟨n_s_28_, Str.ofString "join", a_s_28_, .stmts b_s_28_, s_s_28_, 3, [], .none, .none, .none, .str (Str.ofString "cpy313.shlex") 1119, none, .ref 772, .none, 0⟩, #[]⟩) ::
    (nat_lit 774, ⟨.type "builtin_function_or_method", none, .fields #[.builtin "re.Pattern.search", .ref 71], #[]⟩) ::
    (nat_lit 775, ⟨.type "tuple", none, .seq #[] 0, #[]⟩) ::
    (nat_lit 777, ⟨.type "tuple", none, .seq #[.str (Str.ofString "s") 1283] 0, #[]⟩) ::
    (nat_lit 778, ⟨.type "tuple", none, .seq #[] 0, #[]⟩) ::
    (nat_lit 780, ⟨.type "code", none, .fields #[.str (Str.ofString "quote") 1280, .str (Str.ofString "quote") 1281, .str (Str.ofString "/claim/cut.py") 1282, .int 761 0, .int 1 0, .int 0 0, .int 0 0, .int 3 0, .ref 775, .bool true, .int 318 0, .ref 776, .none, .ref 777, .ref 778, .ref 779, .int 1284 0, .int 761 0, .str (Str.ofString "/claim/cut.py") 1285], #[]⟩) ::
    (nat_lit 781, ⟨.type "function", none, .func ⟨n_s_31_, Str.ofString "quote", a_s_31_, .stmts b_s_31_, s_s_31_, 3, [], .none, .none, .none, .str (Str.ofString "cpy313.shlex") 1119, none, .ref 780, .none, 0⟩, #[]⟩) ::
    (nat_lit 782, ⟨.type "tuple", none, .seq #[] 0, #[]⟩) ::
    (nat_lit 784, ⟨.type "tuple", none, .seq #[.str (Str.ofString "numbers") 1292, .str (Str.ofString "lines") 1293, .str (Str.ofString "x") 1294] 0, #[]⟩) ::
    (nat_lit 785, ⟨.type "tuple", none, .seq #[] 0, #[]⟩) ::
    (nat_lit 787, ⟨.type "code", none, .fields #[.str (Str.ofString "_law_lines") 1289, .str (Str.ofString "_law_lines") 1290, .str (Str.ofString "/claim/cut.py") 1291, .int 768 0, .int 1 0, .int 0 0, .int 0 0, .int 3 0, .ref 782, .bool true, .int 318 0, .ref 783, .none, .ref 784, .ref 785, .ref 786, .int 1295 0, .int 768 0, .str (Str.ofString "/claim/cut.py") 1296], #[]⟩) ::
    (nat_lit 788, ⟨.type "function", none, .func ⟨n_s_33_, Str.ofString "_law_lines", a_s_33_, .stmts b_s_33_, s_s_33_, 3, [], .none, .none, .none, .str (Str.ofString "law_ij0137_01") 1287, none, .ref 787, .none, 0⟩, #[]⟩) ::
    (nat_lit 789, ⟨.type "tuple", none, .seq #[] 0, #[]⟩) ::
    (nat_lit 792, ⟨.type "code", none, .fields #[.str (Str.ofString "_law_written") 1298, .str (Str.ofString "_law_written") 1299, .str (Str.ofString "/claim/cut.py") 1300, .int 778 0, .int 1 0, .int 0 0, .int 0 0, .int 3 0, .ref 789, .bool true, .int 318 0, .ref 790, .none, .none, .none, .ref 791, .int 1301 0, .int 778 0, .str (Str.ofString "/claim/cut.py") 1302], #[]⟩) ::
    (nat_lit 793, ⟨.type "function", none, .func ⟨n_s_34_, Str.ofString "_law_written", a_s_34_, .stmts b_s_34_, s_s_34_, 3, [], .none, .none, .none, .str (Str.ofString "law_ij0137_01") 1287, none, .ref 792, .none, 0⟩, #[]⟩) ::
    (nat_lit 794, ⟨.type "tuple", none, .seq #[] 0, #[]⟩) ::
    (nat_lit 797, ⟨.type "code", none, .fields #[.str (Str.ofString "_law_firsts") 1304, .str (Str.ofString "_law_firsts") 1305, .str (Str.ofString "/claim/cut.py") 1306, .int 780 0, .int 1 0, .int 0 0, .int 0 0, .int 3 0, .ref 794, .bool true, .int 318 0, .ref 795, .none, .none, .none, .ref 796, .int 1307 0, .int 780 0, .str (Str.ofString "/claim/cut.py") 1308], #[]⟩) ::
    (nat_lit 798, ⟨.type "function", none, .func ⟨n_s_35_, Str.ofString "_law_firsts", a_s_35_, .stmts b_s_35_, s_s_35_, 3, [], .none, .none, .none, .str (Str.ofString "law_ij0137_01") 1287, none, .ref 797, .none, 0⟩, #[]⟩) ::
    (nat_lit 799, ⟨.type "tuple", none, .seq #[] 0, #[]⟩) ::
    (nat_lit 801, ⟨.type "tuple", none, .seq #[.str (Str.ofString "rows") 1313] 0, #[]⟩) ::
    (nat_lit 802, ⟨.type "tuple", none, .seq #[] 0, #[]⟩) ::
    (nat_lit 804, ⟨.type "code", none, .fields #[.str (Str.ofString "_law_refused") 1310, .str (Str.ofString "_law_refused") 1311, .str (Str.ofString "/claim/cut.py") 1312, .int 782 0, .int 1 0, .int 0 0, .int 0 0, .int 3 0, .ref 799, .bool true, .int 318 0, .ref 800, .none, .ref 801, .ref 802, .ref 803, .int 1314 0, .int 782 0, .str (Str.ofString "/claim/cut.py") 1315], #[]⟩) ::
    (nat_lit 805, ⟨.type "function", none, .func ⟨n_s_36_, Str.ofString "_law_refused", a_s_36_, .stmts b_s_36_, s_s_36_, 3, [], .none, .none, .none, .str (Str.ofString "law_ij0137_01") 1287, none, .ref 804, .none, 0⟩, #[]⟩) ::
    (nat_lit 806, ⟨.type "tuple", none, .seq #[] 0, #[]⟩) ::
    (nat_lit 809, ⟨.type "code", none, .fields #[.str (Str.ofString "law") 1317, .str (Str.ofString "law") 1318, .str (Str.ofString "/claim/cut.py") 1319, .int 788 0, .int 1 0, .int 0 0, .int 0 0, .int 3 0, .ref 806, .bool true, .int 318 0, .ref 807, .none, .none, .none, .ref 808, .int 1320 0, .int 788 0, .str (Str.ofString "/claim/cut.py") 1321], #[]⟩) ::
    (nat_lit 810, ⟨.type "function", none, .func ⟨n_s_37_, Str.ofString "law", a_s_37_, .stmts b_s_37_, s_s_37_, 3, [], .none, .none, .none, .str (Str.ofString "law_ij0137_01") 1287, none, .ref 809, .none, 0⟩, #[]⟩) :: []
namespace H
noncomputable abbrev as : List Addr := nat_lit 2 :: nat_lit 3 :: nat_lit 38 :: nat_lit 40 :: nat_lit 41 :: nat_lit 43 :: nat_lit 44 :: nat_lit 45 :: nat_lit 46 :: nat_lit 48 :: nat_lit 49 :: nat_lit 51 :: nat_lit 52 :: nat_lit 53 :: nat_lit 55 :: nat_lit 56 :: nat_lit 58 :: nat_lit 59 :: nat_lit 60 :: nat_lit 62 :: nat_lit 63 :: nat_lit 65 :: nat_lit 66 :: nat_lit 70 :: nat_lit 71 :: nat_lit 72 :: nat_lit 74 :: nat_lit 75 :: nat_lit 77 :: nat_lit 78 :: nat_lit 79 :: nat_lit 81 :: nat_lit 82 :: nat_lit 84 :: nat_lit 85 :: nat_lit 86 :: nat_lit 93 :: nat_lit 94 :: nat_lit 95 :: nat_lit 96 :: nat_lit 106 :: nat_lit 108 :: nat_lit 109 :: nat_lit 111 :: nat_lit 112 :: nat_lit 113 :: nat_lit 114 :: nat_lit 115 :: nat_lit 116 :: nat_lit 117 :: nat_lit 118 :: nat_lit 121 :: nat_lit 128 :: nat_lit 129 :: nat_lit 130 :: nat_lit 133 :: nat_lit 140 :: nat_lit 141 :: nat_lit 142 :: nat_lit 145 :: nat_lit 152 :: nat_lit 153 :: nat_lit 155 :: nat_lit 156 :: nat_lit 158 :: nat_lit 159 :: nat_lit 160 :: nat_lit 162 :: nat_lit 163 :: nat_lit 165 :: nat_lit 166 :: nat_lit 167 :: nat_lit 169 :: nat_lit 170 :: nat_lit 172 :: nat_lit 173 :: nat_lit 174 :: nat_lit 176 :: nat_lit 177 :: nat_lit 179 :: nat_lit 180 :: nat_lit 181 :: nat_lit 182 :: nat_lit 184 :: nat_lit 185 :: nat_lit 187 :: nat_lit 188 :: nat_lit 189 :: nat_lit 191 :: nat_lit 192 :: nat_lit 194 :: nat_lit 195 :: nat_lit 196 :: nat_lit 198 :: nat_lit 199 :: nat_lit 201 :: nat_lit 202 :: nat_lit 203 :: nat_lit 205 :: nat_lit 206 :: nat_lit 208 :: nat_lit 209 :: nat_lit 210 :: nat_lit 212 :: nat_lit 213 :: nat_lit 215 :: nat_lit 216 :: nat_lit 217 :: nat_lit 219 :: nat_lit 220 :: nat_lit 222 :: nat_lit 223 :: nat_lit 224 :: nat_lit 226 :: nat_lit 227 :: nat_lit 229 :: nat_lit 230 :: nat_lit 231 :: nat_lit 233 :: nat_lit 234 :: nat_lit 236 :: nat_lit 237 :: nat_lit 238 :: nat_lit 240 :: nat_lit 241 :: nat_lit 243 :: nat_lit 244 :: nat_lit 245 :: nat_lit 247 :: nat_lit 248 :: nat_lit 250 :: nat_lit 251 :: nat_lit 252 :: nat_lit 254 :: nat_lit 255 :: nat_lit 257 :: nat_lit 258 :: nat_lit 259 :: nat_lit 261 :: nat_lit 262 :: nat_lit 264 :: nat_lit 265 :: nat_lit 266 :: nat_lit 268 :: nat_lit 269 :: nat_lit 271 :: nat_lit 272 :: nat_lit 273 :: nat_lit 274 :: nat_lit 276 :: nat_lit 277 :: nat_lit 279 :: nat_lit 280 :: nat_lit 281 :: nat_lit 282 :: nat_lit 284 :: nat_lit 285 :: nat_lit 287 :: nat_lit 288 :: nat_lit 289 :: nat_lit 290 :: nat_lit 292 :: nat_lit 293 :: nat_lit 295 :: nat_lit 296 :: nat_lit 297 :: nat_lit 298 :: nat_lit 300 :: nat_lit 301 :: nat_lit 303 :: nat_lit 304 :: nat_lit 305 :: nat_lit 307 :: nat_lit 308 :: nat_lit 310 :: nat_lit 311 :: nat_lit 312 :: nat_lit 314 :: nat_lit 315 :: nat_lit 317 :: nat_lit 318 :: nat_lit 319 :: nat_lit 320 :: nat_lit 322 :: nat_lit 323 :: nat_lit 325 :: nat_lit 326 :: nat_lit 327 :: nat_lit 328 :: nat_lit 330 :: nat_lit 331 :: nat_lit 333 :: nat_lit 334 :: nat_lit 335 :: nat_lit 337 :: nat_lit 338 :: nat_lit 340 :: nat_lit 341 :: nat_lit 342 :: nat_lit 344 :: nat_lit 345 :: nat_lit 347 :: nat_lit 348 :: nat_lit 349 :: nat_lit 351 :: nat_lit 352 :: nat_lit 354 :: nat_lit 355 :: nat_lit 356 :: nat_lit 358 :: nat_lit 359 :: nat_lit 361 :: nat_lit 362 :: nat_lit 363 :: nat_lit 365 :: nat_lit 366 :: nat_lit 368 :: nat_lit 369 :: nat_lit 370 :: nat_lit 371 :: nat_lit 372 :: nat_lit 375 :: nat_lit 382 :: nat_lit 383 :: nat_lit 385 :: nat_lit 386 :: nat_lit 388 :: nat_lit 389 :: nat_lit 390 :: nat_lit 392 :: nat_lit 393 :: nat_lit 395 :: nat_lit 396 :: nat_lit 397 :: nat_lit 399 :: nat_lit 400 :: nat_lit 402 :: nat_lit 403 :: nat_lit 404 :: nat_lit 406 :: nat_lit 407 :: nat_lit 409 :: nat_lit 410 :: nat_lit 411 :: nat_lit 413 :: nat_lit 414 :: nat_lit 416 :: nat_lit 417 :: nat_lit 418 :: nat_lit 420 :: nat_lit 421 :: nat_lit 423 :: nat_lit 424 :: nat_lit 425 :: nat_lit 426 :: nat_lit 428 :: nat_lit 429 :: nat_lit 431 :: nat_lit 432 :: nat_lit 433 :: nat_lit 434 :: nat_lit 436 :: nat_lit 437 :: nat_lit 439 :: nat_lit 440 :: nat_lit 441 :: nat_lit 442 :: nat_lit 444 :: nat_lit 445 :: nat_lit 447 :: nat_lit 448 :: nat_lit 449 :: nat_lit 450 :: nat_lit 452 :: nat_lit 453 :: nat_lit 455 :: nat_lit 456 :: nat_lit 457 :: nat_lit 458 :: nat_lit 460 :: nat_lit 461 :: nat_lit 463 :: nat_lit 464 :: nat_lit 465 :: nat_lit 467 :: nat_lit 468 :: nat_lit 470 :: nat_lit 471 :: nat_lit 472 :: nat_lit 474 :: nat_lit 475 :: nat_lit 477 :: nat_lit 478 :: nat_lit 479 :: nat_lit 481 :: nat_lit 482 :: nat_lit 484 :: nat_lit 485 :: nat_lit 486 :: nat_lit 488 :: nat_lit 489 :: nat_lit 491 :: nat_lit 492 :: nat_lit 493 :: nat_lit 495 :: nat_lit 496 :: nat_lit 498 :: nat_lit 499 :: nat_lit 500 :: nat_lit 502 :: nat_lit 503 :: nat_lit 505 :: nat_lit 506 :: nat_lit 507 :: nat_lit 509 :: nat_lit 510 :: nat_lit 512 :: nat_lit 513 :: nat_lit 514 :: nat_lit 516 :: nat_lit 517 :: nat_lit 519 :: nat_lit 520 :: nat_lit 521 :: nat_lit 523 :: nat_lit 524 :: nat_lit 526 :: nat_lit 527 :: nat_lit 528 :: nat_lit 530 :: nat_lit 531 :: nat_lit 533 :: nat_lit 534 :: nat_lit 535 :: nat_lit 537 :: nat_lit 538 :: nat_lit 540 :: nat_lit 541 :: nat_lit 542 :: nat_lit 543 :: nat_lit 545 :: nat_lit 546 :: nat_lit 548 :: nat_lit 549 :: nat_lit 550 :: nat_lit 551 :: nat_lit 553 :: nat_lit 554 :: nat_lit 556 :: nat_lit 557 :: nat_lit 558 :: nat_lit 559 :: nat_lit 561 :: nat_lit 562 :: nat_lit 564 :: nat_lit 565 :: nat_lit 566 :: nat_lit 567 :: nat_lit 569 :: nat_lit 570 :: nat_lit 572 :: nat_lit 573 :: nat_lit 574 :: nat_lit 575 :: nat_lit 577 :: nat_lit 578 :: nat_lit 580 :: nat_lit 581 :: nat_lit 582 :: nat_lit 584 :: nat_lit 585 :: nat_lit 587 :: nat_lit 588 :: nat_lit 589 :: nat_lit 591 :: nat_lit 592 :: nat_lit 594 :: nat_lit 595 :: nat_lit 596 :: nat_lit 598 :: nat_lit 599 :: nat_lit 601 :: nat_lit 602 :: nat_lit 603 :: nat_lit 605 :: nat_lit 606 :: nat_lit 608 :: nat_lit 609 :: nat_lit 610 :: nat_lit 612 :: nat_lit 613 :: nat_lit 615 :: nat_lit 616 :: nat_lit 617 :: nat_lit 618 :: nat_lit 619 :: nat_lit 622 :: nat_lit 624 :: nat_lit 625 :: nat_lit 627 :: nat_lit 628 :: nat_lit 629 :: nat_lit 631 :: nat_lit 632 :: nat_lit 634 :: nat_lit 635 :: nat_lit 636 :: nat_lit 638 :: nat_lit 639 :: nat_lit 641 :: nat_lit 642 :: nat_lit 643 :: nat_lit 645 :: nat_lit 646 :: nat_lit 648 :: nat_lit 649 :: nat_lit 650 :: nat_lit 652 :: nat_lit 653 :: nat_lit 655 :: nat_lit 656 :: nat_lit 657 :: nat_lit 659 :: nat_lit 660 :: nat_lit 662 :: nat_lit 663 :: nat_lit 671 :: nat_lit 672 :: nat_lit 674 :: nat_lit 675 :: nat_lit 677 :: nat_lit 678 :: nat_lit 679 :: nat_lit 681 :: nat_lit 682 :: nat_lit 684 :: nat_lit 685 :: nat_lit 686 :: nat_lit 687 :: nat_lit 689 :: nat_lit 690 :: nat_lit 692 :: nat_lit 693 :: nat_lit 694 :: nat_lit 695 :: nat_lit 697 :: nat_lit 698 :: nat_lit 700 :: nat_lit 701 :: nat_lit 702 :: nat_lit 704 :: nat_lit 705 :: nat_lit 707 :: nat_lit 708 :: nat_lit 709 :: nat_lit 711 :: nat_lit 712 :: nat_lit 714 :: nat_lit 715 :: nat_lit 716 :: nat_lit 718 :: nat_lit 719 :: nat_lit 721 :: nat_lit 722 :: nat_lit 723 :: nat_lit 725 :: nat_lit 726 :: nat_lit 728 :: nat_lit 729 :: nat_lit 730 :: nat_lit 731 :: nat_lit 733 :: nat_lit 734 :: nat_lit 736 :: nat_lit 737 :: nat_lit 738 :: nat_lit 740 :: nat_lit 741 :: nat_lit 743 :: nat_lit 744 :: nat_lit 745 :: nat_lit 747 :: nat_lit 748 :: nat_lit 750 :: nat_lit 751 :: nat_lit 752 :: nat_lit 753 :: nat_lit 754 :: nat_lit 755 :: nat_lit 756 :: nat_lit 759 :: nat_lit 760 :: nat_lit 762 :: nat_lit 763 :: nat_lit 765 :: nat_lit 766 :: nat_lit 767 :: nat_lit 769 :: nat_lit 770 :: nat_lit 772 :: nat_lit 773 :: nat_lit 774 :: nat_lit 775 :: nat_lit 777 :: nat_lit 778 :: nat_lit 780 :: nat_lit 781 :: nat_lit 782 :: nat_lit 784 :: nat_lit 785 :: nat_lit 787 :: nat_lit 788 :: nat_lit 789 :: nat_lit 792 :: nat_lit 793 :: nat_lit 794 :: nat_lit 797 :: nat_lit 798 :: nat_lit 799 :: nat_lit 801 :: nat_lit 802 :: nat_lit 804 :: nat_lit 805 :: nat_lit 806 :: nat_lit 809 :: nat_lit 810 :: []
noncomputable abbrev LOs : List Str := [Str.ofString "_deduplicate", Str.ofString "_twin_re_1", Str.ofString "UnsupportedOperation", Str.ofString "IOBase", Str.ofString "BufferedIOBase", Str.ofString "TextIOBase", Str.ofString "BytesIO", Str.ofString "StringIO", Str.ofString "join_path", Str.ofString "shlex", Str.ofString "split", Str.ofString "join_shlex", Str.ofString "_find_unsafe"]
theorem asOk (P : Params) : as = (hd.heap_39 P).map (·.1) := by kernel_rfl
noncomputable abbrev hook : Hook := kHook hd.heap_39 as asOk
noncomputable abbrev q : Program := hd.view_39
noncomputable abbrev Xt (s : Shared) : Bool := xlAt q [] s && recOk (RowW.records PySem.Challenge.rw_ij0137_01.row.toRowW) s
theorem a0 (w : World) (os : OsState) : (staticsOk (importedModules pg.main.body) (h0 w.params) (h2 w.params) && namesBound pg (h2 w.params) && gensDone (⟨h2 w.params, #[], {}, 1323, os⟩ : Shared) && laidKept (h0 w.params) (h2 w.params)) = true := by kernel_rfl
theorem a1 (w : World) (os : OsState) : seen ((recsOf q).map (·.name)) (ownsOf q) [] { (⟨h2 w.params, #[], {}, 1323, os⟩ : Shared) with gens := #[] } = expectedOf q := by kernel_rfl
theorem a2 (w : World) (os : OsState) : (⟨h2 w.params, #[], {}, 1323, os⟩ : Shared).heap.bltView = bltViewBooted := by kernel_rfl
theorem a3 (w : World) (os : OsState) : ((⟨h2 w.params, #[], {}, 1323, os⟩ : Shared).heap.keysOk (looseW q LOs) ((recsOf q).map (·.name)) ((litsOf q).map (·.1)) ((clssOf q (looseW q LOs)).map (·.name)) && (⟨h2 w.params, #[], {}, 1323, os⟩ : Shared).heap.accountedOkI (importedModules pg.main.body) && (⟨h2 w.params, #[], {}, 1323, os⟩ : Shared).heap.isNs mainGlobals && (⟨h2 w.params, #[], {}, 1323, os⟩ : Shared).heap.isNs builtinsNs && tablesOk q (⟨h2 w.params, #[], {}, 1323, os⟩ : Shared).heap && Xt (⟨h2 w.params, #[], {}, 1323, os⟩ : Shared) && (if true then (⟨h2 w.params, #[], {}, 1323, os⟩ : Shared).gens.size == 0 else !leftWithCleanup (⟨h2 w.params, #[], {}, 1323, os⟩ : Shared).gens)) = true := by kernel_rfl
theorem a4 (w : World) (os : OsState) : tabsOk q (⟨h2 w.params, #[], {}, 1323, os⟩ : Shared) = true := by kernel_rfl
theorem a5 (w : World) (os : OsState) : pinSeenD q (drecsOf q) (⟨h2 w.params, #[], {}, 1323, os⟩ : Shared) = pinGoodD (drecsOf q) := by kernel_rfl
theorem a6 (w : World) (os : OsState) : plainSeenE q (looseW q LOs) (⟨h2 w.params, #[], {}, 1323, os⟩ : Shared) = plainGoodE q (looseW q LOs) := by kernel_rfl
theorem a7 (w : World) (os : OsState) : plainSeenD q LOs (⟨h2 w.params, #[], {}, 1323, os⟩ : Shared) = plainGoodD q LOs := by kernel_rfl
theorem a8 (w : World) (os : OsState) : wideSeen q (⟨h2 w.params, #[], {}, 1323, os⟩ : Shared) = wideGood q := by kernel_rfl
theorem a9 (w : World) (os : OsState) : clsSeenW q LOs (⟨h2 w.params, #[], {}, 1323, os⟩ : Shared) = clsGoodW q LOs := by kernel_rfl
theorem ay (w : World) (os : OsState) : hook.obs (⟨h2 w.params, #[], {}, 1323, os⟩ : Shared) = hook.val w := by kernel_rfl
theorem sn (w : World) (os : OsState) : openSeen q LOs (importedModules pg.main.body) Xt true (⟨h2 w.params, #[], {}, 1323, os⟩ : Shared) = openGood q LOs :=
  looks_pair (a1 w os) (looks_pair (a2 w os) (looks_pair (a3 w os) (looks_pair (a4 w os) (looks_pair (a5 w os) (looks_pair (a6 w os) (looks_pair (a7 w os) (looks_pair (a8 w os) (a9 w os))))))))
theorem left : LeftO pg q LOs Xt hook.obs hook.val 10446 :=
  LeftO.of_pieces (M := 12 + (1 + (738 + (447 + (1278 + (1578 + (882 + (243 + 2)))))))) op sz run (by decide +kernel) fun w => funext fun os => looks_pair (a0 w os) (looks_pair (sn w os) (ay w os))
theorem b1 : (chainsOk q && opensWell pg && (frees PySem.Challenge.rw_ij0137_01.row.toRowW && PySem.Challenge.rw_ij0137_01.row.within.isEmpty)) = true := by kernel_rfl
theorem b2 : pg.tablesWhole = true := by kernel_rfl
theorem b4 : PySem.Challenge.rw_ij0137_01.row.claim.pre [WData.list []] = true := by kernel_rfl
theorem b5 : (WData.layableAll [WData.list []] && PySem.Challenge.rw_ij0137_01.row.returnsAt [WData.list []]) = true := by kernel_rfl
theorem top {d : DefRec} {kwd : List (Str × Expr)} (e : defOf hd.view_39 PySem.Challenge.rw_ij0137_01.row.name = some (d, kwd)) (hp : PySem.Challenge.rw_ij0137_01.row.prog.theDef PySem.Challenge.rw_ij0137_01.row.name = some (d.params, d.body, d.scope))
    (hk : kwWritten? d.params.kwonlyargs d.params.kw_defaults = some kwd) (call : WalkO hd.view_39 LOs (XL hd.view_39 []) (kHook hd.heap_39 as asOk).says PySem.Challenge.rw_ij0137_01.row.toRowW d kwd fun f vs => PySem.call f vs) : PySem.Challenge.rw_ij0137_01.Holds :=
  holds_law b3 fun said => holds_open (q := hd.view_39) (loose := LOs) (Xt := Xt) (XP := XL hd.view_39 []) (Yf := hook.obs) (Ya := hook.val) (YP := hook.says) (N := 10446) left hook.of hook.keeps (fun s e => xl_of s (Bool.and_eq_true_iff.mp e).1) XL.keeps e hp hk (fun s e => recFacts_of (Bool.and_eq_true_iff.mp e).2) rfl said b1 ⟨rfl, rfl, rfl, rfl, rfl, b2⟩ ⟨_, b4, b5⟩ call
end H
end Mine
set_option maxHeartbeats 200000
namespace Mine
theorem fillitAll (w : World) (h : Heap) (_ : (Mine.hd.heap_39 w.params).In h) (l : OpenLaw) (_ : l = PySem.Challenge.rw_ij0137_01) : True := by
  revert l h w
  k_fill
  intros
  trivial
local macro_rules | `(tactic| walk_at $s:str) => `(tactic| k_extra $s)
local macro_rules | `(tactic| k_room) => `(tactic| ((try simp only [depth_under_make, depth_under_kw, depth_in1, depth_deeper, depth_caller]); (try simp only [recursionLimit]); omega))
local macro_rules | `(tactic| k_units) => `(tactic| ((try simp only [units_in1, units_deeper, Around.mark_units, units_caller]); (have hcL9 := cLine_is); omega))
theorem line_m_3 : True := by
  (k_with "call ref" => (k_here; k_dflt (refine' wpAny_call (code_defM ?zqk2 ?zqk3 ?zqk4 ?zqk5 ?zqk6 ?zqk7 ?zqk8 ?zqk9 ?zqkB ?_ ?zqc2 ?zqc3 ?zqc4 ?zqc5); (case zqk2 => k_asm); (case zqk3 => k_asm); (case zqk4 => k_asm); (case zqk5 => k_asm); (case zqk6 => k_is); (case zqk7 => k_is); (case zqk8 => k_room); (case zqk9 => first | exact BindsTo.of_eq rfl | exact binds_K (by k_in) rfl (by k_is) rfl rfl rfl); (case zqc5 => decide); (case zqkB => exact locs rfl); (case zqc2 => exact rfl); (case zqc3 => exact rfl); (case zqc4 => exact rfl); k_whole; intro _ _ _ _ _ _ _ _; (try dsimp only))))
  trivial
noncomputable abbrev prog : Program := PySem.Challenge.rw_ij0137_01.row.prog
noncomputable abbrev LO : List Str := looseW Mine.hd.view_39 ["_deduplicate", "_twin_re_1", "UnsupportedOperation", "IOBase", "BufferedIOBase", "TextIOBase", "BytesIO", "StringIO", "join_path", "shlex", "split", "join_shlex", "_find_unsafe"]

structure Gd (w : World) (mg mb : Str → Option Value) (h : Heap) : Prop where
  K : (Mine.hd.heap_39 w.params).In h
  T : TopRead Mine.hd.view_39 LO mg mb h
theorem Gd.keeps {w : World} {mg mb : Str → Option Value} {h h' : Heap} (G : Gd w mg mb h) (hk : ∀ b o, h.get? b = some o → h'.get? b = some o) : Gd w mg mb h' := ⟨Frag.In.keeps G.K hk, G.T.keeps hk⟩

abbrev FalseE : Value → Shared → Prop := fun _ _ => False
theorem wp_false {α : Type} {M : Model} {A : Around} {t : Sem α} {Q : α → Shared → Prop} {E : Value → Shared → Prop} {s : Shared} (h : wpAny M A t Q FalseE s) : wpAny M A t Q E s :=
  wpAny_mono h (fun _ _ x => x) fun _ _ x => x.elim

/-- a call of a def of the text's own, from anywhere: all that stands is kept -/
theorem call_pure {w : World} {A : Around} {s : Shared} {mg mb : Str → Option Value} {R : Result → Shared → Prop} {name qual : Str} {params : Arguments} {body : List Stmt} {scope : Scope} {dV kV doc pm cdv ct oc : Value} {an od : Option Addr} {osl : Array (Option Value)} {f : Addr} {args : Args} {binds : List (Str × Value)}
    (G : Gd w mg mb s.heap)
    (ho : (Mine.hd.heap_39 w.params).lookup f = some ⟨oc, od, .func (fnOf name qual params body scope dV kV doc pm an cdv ct), osl⟩) (hcd : codeIn (Mine.hd.heap_39 w.params) cdv qual = true) (hroom : A.depth < recursionLimit)
    (hbind : BindsTo s (fnOf name qual params body scope dV kV doc pm an cdv ct) args binds) (hloc : ∀ y ∈ binds, scope.names.lookup y.1 = some .local)
    (h : ∀ L h₁, L = s.heap.objs.size → Fr s.heap L h₁ (fun y => binds.reverse.lookup y) → Gd w mg mb s.heap →
      wpAny (model prog w) (A.deeper (envOf qual scope L f cdv)) (execs body (envOf qual scope L f cdv))
        (fun fl s' => R (.ok (.ret (match fl with | .ret v => v | _ => .none))) s') FalseE { s with heap := h₁, toks := s.toks + binds.length })
    (hco : scope.isCoroutine = false := by rfl) (hgen : scope.isGenerator = false := by rfl) (hk : scope.kind = .function := by rfl)
    (hcell : ∀ x ∈ scope.names, x.2 ≠ .cell := by decide) : codeAny (model prog w) A (.call (.ref f) args) R s := by
  refine codeAny_call_def (fd := fnOf name qual params body scope dV kV doc pm an cdv ct) (body := body) (binds := binds) hroom (G.K _ _ ho) rfl G.T.nolimit (codeRec_of G.K hcd) rfl hbind hcell hloc (fun h₁ hns hk₁ => ?_) hco hgen hk
  exact wpAny_mono (h _ h₁ rfl ⟨hns, hk₁, Nat.le_refl _⟩ G) (fun _ _ x => x) fun _ _ x => x.elim

/-- a call with a ledger: the callee may change what the ledger names -/
theorem code_defM {w : World} {A : Around} {s : Shared} {mg mb : Str → Option Value} {K : Frag} {p : Program} {loose : List Str} {h₀ : Heap} {L : Addr} {m : Str → Option Value} {news : List (Addr × Obj)} {R : Result → Shared → Prop} {name qual : Str} {params : Arguments} {body : List Stmt} {scope : Scope} {dV kV doc pm cdv ct oc : Value} {an od : Option Addr} {osl : Array (Option Value)} {f : Addr} {args : Args} {binds : List (Str × Value)}
    (F : Fr h₀ L s.heap m) (X₀ : K.In h₀) (N : News h₀ L s.heap news) (T : TopRead p loose mg mb h₀)
    (ho : K.lookup f = some ⟨oc, od, .func (fnOf name qual params body scope dV kV doc pm an cdv ct), osl⟩) (hcd : codeIn K cdv qual = true) (hroom : A.depth < recursionLimit)
    (hbind : BindsTo s (fnOf name qual params body scope dV kV doc pm an cdv ct) args binds) (hloc : ∀ y ∈ binds, scope.names.lookup y.1 = some .local)
    (h : ∀ g L' h₁, Fr h₀ L g m → Fr g L' h₁ (fun y => binds.reverse.lookup y) → News g L' h₁ news → K.In g → TopRead p loose mg mb g →
      wpAny (model prog w) (A.deeper (envOf qual scope L' f cdv)) (execs body (envOf qual scope L' f cdv))
        (fun fl s' => LeaveK h₀ L m g R (match fl with | .ret v => v | _ => .none) s') FalseE { s with heap := h₁, toks := s.toks + binds.length })
    (hco : scope.isCoroutine = false) (hgen : scope.isGenerator = false) (hk : scope.kind = .function)
    (hcell : ∀ x ∈ scope.names, x.2 ≠ .cell) : codeAny (model prog w) A (.call (.ref f) args) R s := by
  have X := X₀.keeps F.keep
  refine codeAny_call_def (fd := fnOf name qual params body scope dV kV doc pm an cdv ct) (body := body) (binds := binds) hroom (X _ _ ho) rfl (T.nolimit.keeps F.keep) (codeRec_of X hcd) rfl hbind hcell hloc (fun h₁ hns hk₁ => ?_) hco hgen hk
  have nm : ∀ b o, h₀.get? b = some o → b ∉ news.map (·.1) := fun b o e q => by
    obtain ⟨p, hp, rfl⟩ := List.mem_map.mp q
    rw [(N p hp).2.2] at e; cases e
  have st : h₀.StaysIn (hideAll s.heap (news.map (·.1))) := fun b o e => hideAll_get _ (F.keep b o e) (nm b o e)
  obtain ⟨oL, es, ep, hL, hLd, hLk, hLf⟩ := F.ns
  have nL : L ∉ news.map (·.1) := fun q => by
    obtain ⟨p, hp, e⟩ := List.mem_map.mp q
    exact (N p hp).2.1 e
  have hLg := hideAll_get (news.map (·.1)) hL nL
  refine wpAny_mono (h _ s.heap.objs.size h₁ ⟨⟨oL, es, ep, hLg, hLd, hLk, hLf⟩, st, F.above⟩ ⟨hns, fun b o e => hk₁ b o (of_hideAll _ e), Nat.le_of_eq (hideAll_size _ _)⟩
    (fun p hp => ⟨hk₁ _ _ (N p hp).1, Nat.ne_of_lt (Heap.lt_size (N p hp).1), hideAll_none _ (List.mem_map_of_mem hp)⟩) (X₀.keeps st) (T.keeps st)) (fun fl s' hl => ?_) fun _ _ y => y.elim
  obtain ⟨L', m', news', F', N', k⟩ := hl
  refine k ⟨⟨oL, es, ep, F'.keep L oL hLg, hLd, hLk, hLf⟩, fun b o e => F'.keep b o (st b o e), F.above⟩ fun p hp => ⟨(N' p hp).1, fun q => ?_, ?_⟩
  · have := (N' p hp).2.2; rw [q, hLg] at this; cases this
  · cases q : h₀.get? p.1 with
    | none => rfl
    | some o => have := (N' p hp).2.2; rw [st _ _ q] at this; cases this

/-- what stands stays, but for the named addresses -/
def KeepsBut (as : List Addr) (s s' : Shared) : Prop := ∃ h' tk, s' = { s with heap := h', toks := tk } ∧ ∀ b o, b ∉ as → s.heap.get? b = some o → h'.get? b = some o


theorem call_led {w : World} {A : Around} {s : Shared} {mg mb : Str → Option Value} {h₀ : Heap} {news : List (Addr × Obj)} {R : Result → Shared → Prop} {name qual : Str} {params : Arguments} {body : List Stmt} {scope : Scope} {dV kV doc pm cdv ct oc : Value} {an od : Option Addr} {osl : Array (Option Value)} {f : Addr} {args : Args} {binds : List (Str × Value)}
    (G₀ : Gd w mg mb h₀) (k₀ : ∀ b o, h₀.get? b = some o → s.heap.get? b = some o) (hn : ∀ p ∈ news, s.heap.get? p.1 = some p.2 ∧ h₀.get? p.1 = none)
    (ho : (Mine.hd.heap_39 w.params).lookup f = some ⟨oc, od, .func (fnOf name qual params body scope dV kV doc pm an cdv ct), osl⟩) (hcd : codeIn (Mine.hd.heap_39 w.params) cdv qual = true) (hroom : A.depth < recursionLimit)
    (hbind : BindsTo s (fnOf name qual params body scope dV kV doc pm an cdv ct) args binds) (hloc : ∀ y ∈ binds, scope.names.lookup y.1 = some .local)
    (h : ∀ g L h₁, (∀ b o, b ∉ news.map (·.1) → s.heap.get? b = some o → g.get? b = some o) → Fr g L h₁ (fun y => binds.reverse.lookup y) → News g L h₁ news → (Mine.hd.heap_39 w.params).In g → TopRead Mine.hd.view_39 LO mg mb g →
      wpAny (model prog w) (A.deeper (envOf qual scope L f cdv)) (execs body (envOf qual scope L f cdv))
        (fun fl s' => R (.ok (.ret (match fl with | .ret v => v | _ => .none))) s') FalseE { s with heap := h₁, toks := s.toks + binds.length })
    (hco : scope.isCoroutine = false := by rfl) (hgen : scope.isGenerator = false := by rfl) (hk : scope.kind = .function := by rfl)
    (hcell : ∀ x ∈ scope.names, x.2 ≠ .cell := by decide) : codeAny (model prog w) A (.call (.ref f) args) R s := by
  have G := G₀.keeps k₀
  refine codeAny_call_def (fd := fnOf name qual params body scope dV kV doc pm an cdv ct) (body := body) (binds := binds) hroom (G.K _ _ ho) rfl G.T.nolimit (codeRec_of G.K hcd) rfl hbind hcell hloc (fun h₁ hns hk₁ => ?_) hco hgen hk
  have nm : ∀ b o, h₀.get? b = some o → b ∉ news.map (·.1) := fun b o e q => by
    obtain ⟨p, hp, rfl⟩ := List.mem_map.mp q
    rw [(hn p hp).2] at e; cases e
  have st : h₀.StaysIn (hideAll s.heap (news.map (·.1))) := fun b o e => hideAll_get _ (k₀ b o e) (nm b o e)
  exact wpAny_mono (h (hideAll s.heap (news.map (·.1))) s.heap.objs.size h₁ (fun b o nb e => hideAll_get _ e nb) ⟨hns, fun b o e => hk₁ b o (of_hideAll _ e), Nat.le_of_eq (hideAll_size _ _)⟩
    (fun p hp => ⟨hk₁ _ _ (hn p hp).1, Nat.ne_of_lt (Heap.lt_size (hn p hp).1), hideAll_none _ (List.mem_map_of_mem hp)⟩) (Frag.In.keeps G₀.K fun b o e => st b o e) (G₀.T.keeps fun b o e => st b o e)) (fun _ _ x => x) fun _ _ x => x.elim

theorem KeepsBut.use {s s' : Shared} {h₀ : Heap} {L d : Addr} {m : Str → Option Value} {o o' : Obj} {news news' : List (Addr × Obj)} (hk : KeepsBut [d] s s') (F : Fr h₀ L s.heap m) (N : News h₀ L s.heap news) (U : Upd d o o' news news') (hd : s'.heap.get? d = some o') :
    ∃ h' tk, s' = { s with heap := h', toks := tk } ∧ Fr h₀ L h' m ∧ News h₀ L h' news' := by
  obtain ⟨h', tk, rfl, hk⟩ := hk
  obtain ⟨pre, post, rfl, rfl, h1, h2⟩ := U.split
  have D := N (d, o) (by simp)
  have hk' : ∀ b x, b ≠ d → s.heap.get? b = some x → h'.get? b = some x := fun b x hb e => hk b x (by simpa using hb) e
  obtain ⟨oL, es, ep, hL, r⟩ := F.ns
  refine ⟨h', tk, rfl, ⟨⟨oL, es, ep, hk' _ _ (Ne.symm D.2.1) hL, r⟩, fun b x e => hk' b x (fun q => ?_) (F.keep b x e), F.above⟩, fun p hp => ?_⟩
  · subst q
    rw [D.2.2] at e
    cases e
  · rcases List.mem_append.mp hp with q | q
    · have P := N p (List.mem_append_left _ q)
      exact ⟨hk' _ _ (h1 p q) P.1, P.2⟩
    · rcases List.mem_cons.mp q with rfl | q
      · exact ⟨hd, D.2⟩
      · have P := N p (List.mem_append_right _ (.tail _ q))
        exact ⟨hk' _ _ (h2 p q) P.1, P.2⟩
theorem Keeps.use {s s' : Shared} {h₀ : Heap} {L : Addr} {m : Str → Option Value} {news : List (Addr × Obj)} (hk : Keeps s s') (F : Fr h₀ L s.heap m) (N : News h₀ L s.heap news) :
    ∃ h' tk, s' = { s with heap := h', toks := tk } ∧ Fr h₀ L h' m ∧ News h₀ L h' news := by
  obtain ⟨h', tk, rfl, hk⟩ := hk
  exact ⟨h', tk, rfl, F.keeps hk, N.grown hk⟩
theorem Keeps.of_fr {s : Shared} {h' : Heap} {L : Addr} {m : Str → Option Value} {tk : Nat} (F : Fr s.heap L h' m) : Keeps s { s with heap := h', toks := tk } := ⟨h', tk, rfl, F.keep⟩
theorem Gd.of {w : World} {mg mb : Str → Option Value} {h₀ h : Heap} {L : Addr} {m : Str → Option Value} (F : Fr h₀ L h m) (X : (Mine.hd.heap_39 w.params).In h₀) (T : TopRead Mine.hd.view_39 LO mg mb h₀) : Gd w mg mb h := ⟨X.keeps F.keep, T.keeps F.keep⟩
theorem keeps_led {s : Shared} {g h' : Heap} {L : Addr} {m : Str → Option Value} {news : List (Addr × Obj)} {tk : Nat} (kg : ∀ b o, b ∉ news.map (·.1) → s.heap.get? b = some o → g.get? b = some o)
    (F : Fr g L h' m) (N : News g L h' news) (hn : ∀ p ∈ news, s.heap.get? p.1 = some p.2) : Keeps s { s with heap := h', toks := tk } := by
  refine ⟨h', tk, rfl, fun b o e => ?_⟩
  by_cases hb : b ∈ news.map (·.1)
  · obtain ⟨p, hp, rfl⟩ := List.mem_map.mp hb
    rw [hn p hp] at e
    cases e
    exact (N p hp).1
  · exact F.keep b o (kg b o hb e)
theorem keepsBut_led {s : Shared} {g h' : Heap} {L x d : Addr} {m : Str → Option Value} {ox o o' : Obj} {tk : Nat} (kg : ∀ b q, b ∉ [(x, ox), (d, o)].map (·.1) → s.heap.get? b = some q → g.get? b = some q)
    (F : Fr g L h' m) (N : News g L h' [(x, ox), (d, o')]) (hx : s.heap.get? x = some ox) : KeepsBut [d] s { s with heap := h', toks := tk } := by
  refine ⟨h', tk, rfl, fun b q nb e => ?_⟩
  by_cases hb : b = x
  · subst hb
    rw [hx] at e
    cases e
    exact (N _ (.head _)).1
  · refine F.keep b q (kg b q ?_ e)
    simp only [List.map_cons, List.map_nil, List.mem_cons, List.mem_nil_iff, or_false] at nb ⊢
    exact fun q => q.elim hb nb
set_option maxHeartbeats 2000000 in
theorem index_ok {w : World} {A : Around} {s : Shared} {mg mb : Str → Option Value} {R : Result → Shared → Prop} {t t2 : Tok} {what : Str} (G : Gd w mg mb s.heap) (hroom : A.depth < 900)
    (h : ∀ t' s', Keeps s s' → R (.ok (.ret (.int 1 t'))) s') : codeAny (model prog w) A (.call (.ref 85) ⟨[.int 1 t, .str what t2], []⟩) R s := by
  refine' call_pure G ?ho ?hcd ?hr ?hb ?hl ?_ ?c1 ?c2 ?c3 ?c4
  case ho => k_dflt k_is
  case hcd => k_dflt k_is
  case hr => k_room
  case hb => exact BindsTo.of_eq rfl
  case hl => exact locs rfl
  case c1 => rfl
  case c2 => rfl
  case c3 => rfl
  case c4 => decide
  intro L h₁ hL F G
  have KX := G.K
  have TT := G.T
  have N : News s.heap L h₁ [] := News.nil
  k_steps
  rename Fr _ _ _ _ => F'
  exact h _ _ (Keeps.of_fr F')
theorem lineC1_1 : True := by
  (k_with "call ref" => (k_here; (with_reducible show wpAny _ _ (call (Value.ref 85) _) _ _ _); (refine wpAny_call (index_ok (mg := ?zqmg) (mb := ?zqmb) ?zqG ?zqr ?_); (case zqG => exact Gd.of (by k_asm) (by k_asm) (by k_asm)); (case zqr => k_room)); intro _ _ zhk'; (obtain ⟨zh', ztk', zhs', zF', zN'⟩ := Keeps.use zhk' (by k_asm) (by k_asm)); subst zhs'; clear zhk'; (try dsimp only); (try k_sweep)))
  trivial

abbrev sioD (e : Nat → Int) (k : Nat → Tok) (nl : Value) (buf : Str) (bt : Tok) (p : Int) (pt : Tok) : Obj :=
  dictOf [⟨e 0, .str "_StringIO__newline" (k 0), nl⟩, ⟨e 1, .str "_StringIO__buf" (k 1), .str buf bt⟩, ⟨e 2, .str "_StringIO__pos" (k 2), .int p pt⟩] 3
set_option maxHeartbeats 2000000 in
theorem read_end {w : World} {A : Around} {s : Shared} {mg mb : Str → Option Value} {h₀ : Heap} {R : Result → Shared → Prop} {t : Tok} {x dx : Addr} {e : Nat → Int} {k : Nat → Tok} {nl : Value} {buf : Str} {bt : Tok} {p : Int} {pt : Tok}
    (G₀ : Gd w mg mb h₀) (k₀ : ∀ b o, h₀.get? b = some o → s.heap.get? b = some o) (hx : s.heap.get? x = some (instObj 619 dx)) (hx0 : h₀.get? x = none) (hd : s.heap.get? dx = some (sioD e k nl buf bt p pt)) (hd0 : h₀.get? dx = none) (hne : x ≠ dx)
    (hroom : A.depth < 890) (hp : (buf.length : Int) ≤ p) (hlen : buf.length < 100000)
    (h : ∀ t' s', Keeps s s' → R (.ok (.ret (.str "" t'))) s') : codeAny (model prog w) A (.call (.ref 565) ⟨[.ref x, .int 1 t], []⟩) R s := by
  have hn : ∀ q ∈ [(x, instObj 619 dx), (dx, sioD e k nl buf bt p pt)], s.heap.get? q.1 = some q.2 ∧ h₀.get? q.1 = none := by
    intro q hq
    simp only [List.mem_cons, List.mem_nil_iff, or_false] at hq
    rcases hq with rfl | rfl
    · exact ⟨hx, hx0⟩
    · exact ⟨hd, hd0⟩
  refine' call_led (news := [(x, instObj 619 dx), (dx, sioD e k nl buf bt p pt)]) G₀ k₀ hn ?ho ?hcd ?hr ?hb ?hl ?_ ?c1 ?c2 ?c3 ?c4
  case ho => k_dflt k_is
  case hcd => k_dflt k_is
  case hr => k_room
  case hb => exact binds_K (G₀.K.keeps k₀) rfl (by k_is) rfl rfl rfl
  case hl => exact locs rfl
  case c1 => rfl
  case c2 => rfl
  case c3 => rfl
  case c4 => decide
  intro g L h₁ kg F N KX TT
  k_steps
  rename Fr g _ _ _ => F'
  rename News g _ _ _ => N'
  exact h _ _ (keeps_led kg F' N' fun q hq => (hn q hq).1)
open Builtin Builtin.Str in
theorem cut_one (c : Nat) : Txt.slice (Str.mk #[c] ++ " ") none (some (-1)) = Str.mk #[c] := by
  have e : (Str.mk #[c] ++ (" " : Str)) = Str.mk #[c, 32] := by
    have : (" " : Str) = Str.mk #[32] := by decide +kernel
    rw [this]; rfl
  rw [e]
  have e2 : strSliceIndices none (some (-1)) 1 2 = [0] := by decide +kernel
  unfold Txt.slice
  simp only [show (Str.mk #[c, 32]).length = 2 from rfl, e2]
  rfl
theorem read_text {buf : Str} {p q : Int} {c : Nat} (h0 : 0 ≤ p) (h1 : p < (buf.length : Int)) (hc : buf.cps[p.toNat]? = some c) (hq : q = p + 1) : Txt.slice (Txt.slice buf (some p) (some q) ++ " ") none (some (-1)) = Str.mk #[c] := by
  subst hq
  have hl : p + 1 ≤ (buf.cps.toList.length : Int) := by
    have : (buf.cps.toList.length : Int) = (buf.length : Int) := by simp [Str.length]
    omega
  have e1 : Txt.slice buf (some p) (some (p + 1)) = Str.mk #[c] := by
    have := StrLaws.sliceText_plain (x := buf) (i := p) (j := p + 1) ⟨h0, by omega, hl⟩
    refine (show Txt.slice buf (some p) (some (p + 1)) = _ from this).trans ?_
    have e2 : (p + 1 - p).toNat = 1 := by omega
    rw [e2]
    have e3 : buf.cps.toList.drop p.toNat = c :: buf.cps.toList.drop (p.toNat + 1) := by
      have hlt : p.toNat < buf.cps.toList.length := by omega
      rw [List.drop_eq_getElem_cons hlt]
      congr 1
      have : buf.cps.toList[p.toNat]? = some c := by rw [Array.getElem?_toList]; exact hc
      rw [List.getElem?_eq_getElem hlt] at this
      exact Option.some.inj this
    rw [e3]
    rfl
  rw [e1]
  exact cut_one c
set_option maxHeartbeats 4000000 in
theorem read_one {w : World} {A : Around} {s : Shared} {mg mb : Str → Option Value} {h₀ : Heap} {R : Result → Shared → Prop} {t : Tok} {x dx : Addr} {e : Nat → Int} {k : Nat → Tok} {nl : Value} {buf : Str} {bt : Tok} {p : Int} {pt : Tok} {c : Nat}
    (G₀ : Gd w mg mb h₀) (k₀ : ∀ b o, h₀.get? b = some o → s.heap.get? b = some o) (hx : s.heap.get? x = some (instObj 619 dx)) (hx0 : h₀.get? x = none) (hd : s.heap.get? dx = some (sioD e k nl buf bt p pt)) (hd0 : h₀.get? dx = none) (hne : x ≠ dx)
    (hroom : A.depth < 890) (hp0 : 0 ≤ p) (hp : p < (buf.length : Int)) (hlen : buf.length < 100000) (hc : buf.cps[p.toNat]? = some c)
    (h : ∀ t' pt' s', KeepsBut [dx] s s' → s'.heap.get? dx = some (sioD e k nl buf bt (p + 1) pt') → R (.ok (.ret (.str (Str.mk #[c]) t'))) s') : codeAny (model prog w) A (.call (.ref 565) ⟨[.ref x, .int 1 t], []⟩) R s := by
  have hn : ∀ q ∈ [(x, instObj 619 dx), (dx, sioD e k nl buf bt p pt)], s.heap.get? q.1 = some q.2 ∧ h₀.get? q.1 = none := by
    intro q hq
    simp only [List.mem_cons, List.mem_nil_iff, or_false] at hq
    rcases hq with rfl | rfl
    · exact ⟨hx, hx0⟩
    · exact ⟨hd, hd0⟩
  refine' call_led (news := [(x, instObj 619 dx), (dx, sioD e k nl buf bt p pt)]) G₀ k₀ hn ?ho ?hcd ?hr ?hb ?hl ?_ ?c1 ?c2 ?c3 ?c4
  case ho => k_dflt k_is
  case hcd => k_dflt k_is
  case hr => k_room
  case hb => exact binds_K (G₀.K.keeps k₀) rfl (by k_is) rfl rfl rfl
  case hl => exact locs rfl
  case c1 => rfl
  case c2 => rfl
  case c3 => rfl
  case c4 => decide
  intro g L h₁ kg F N KX TT
  have hne2 := neN hne
  k_steps
  all_goals (
    rename Fr g _ _ _ => F'
    rename News g _ _ _ => N'
    dsimp only
    rw [read_text hp0 hp hc (by omega)]
    (try rw [show (buf.length : Int) = p + 1 by omega] at N')
    exact h _ _ _ (keepsBut_led kg F' N' hx) (N' _ (.tail _ (.head _))).1)
theorem noBool_deque : typeLookup (.type "collections.deque") "__bool__" = pure none := by rw [typeLookup_type, builtinLookup_eq_fast]; kernel_rfl
theorem slot_deque_len : Slot "collections.deque" "__len__" "collections.deque.__len__" :=
  .of (owner := "collections.deque") (n := "__len__") (by rw [typeLookup_type, builtinLookup_eq_fast]; kernel_rfl) (by decide +kernel) (by decide +kernel) (by decide +kernel)
    (by first | exact .inl (by decide +kernel) | exact .inr (by decide +kernel)) (by rw [isSubtype_type]; kernel_rfl)
theorem entry_deque_len : entryFor table "collections.deque.__len__" = some Builtin.«collections.deque.__len__» := entryFor_of_fast (by kernel_rfl)
theorem args_deque_len (a : Value) : argsOk "collections.deque.__len__" ⟨[a], []⟩ := by unfold argsOk; kernel_rfl
def IsDeque0 (h : Heap) (a : Addr) : Prop := ∃ o x y, h.get? a = some o ∧ o.cls = .type "collections.deque" ∧ o.data = .fields #[x, y]
theorem IsDeque0.keeps {h h' : Heap} {a : Addr} (D : IsDeque0 h a) (hk : ∀ b o, h.get? b = some o → h'.get? b = some o) : IsDeque0 h' a := let ⟨o, x, y, ho, r⟩ := D; ⟨o, x, y, hk _ _ ho, r⟩
section
variable {w : World} {A : Around} {E : Value → Shared → Prop} {s : Shared}
theorem len_deque0 {l : Addr} {Q : Value → Shared → Prop} (hl : IsDeque0 s.heap l)
    (h : Q (.int 0 (s.toks + 1)) { s with toks := s.toks + 1 + 1 }) : wpAny (model prog w) A (Builtin.«len» ⟨[.ref l], []⟩) (fun fin s' => ∃ r, fin = .done (.ret r) ∧ Q r s') E s := by
  obtain ⟨o, x, y, ho, hc, hd⟩ := id hl
  have hT : s.TypeIs (.ref l) "collections.deque" := ⟨o, ho, hc⟩
  unfold Builtin.«len»
  refine wpAny_bind (m := oneArg "len" _) (wpAny_pure ?_)
  refine wpAny_bind (m := callSpecial? (.ref l) (Str.ofString "__len__")) (wpAny_callSpecial?_slot (name := Str.ofString "__len__") hT slot_deque_len
    (wpAny_call_entry slot_deque_len hT entry_deque_len ?_ (args_deque_len _)))
  · show wpAny _ _ (do retInt (← Builtin.Deque.size (.ref l))) _ _ s
    unfold Builtin.Deque.size fieldsOf
    refine wpAny_bind (wpAny_bind (wpAny_bind (wpAny_load ho ?_)))
    rw [hd]
    refine wpAny_pure (wpAny_pure (wpAny_bind (wpAny_mkInt (wpAny_pure ⟨_, rfl, ?_⟩))))
    refine wpAny_bind (wpAny_holding (wpAny_pure ?_))
    refine wpAny_bind (wpAny_letGo ?_)
    show wpAny _ _ (if ((0 : Nat) : Int) < 0 then _ else _) _ _ _
    rw [if_neg (by omega)]
    show wpAny _ _ (if ((0 : Nat) : Int) ≥ 2 ^ 63 then _ else _) _ _ _
    rw [if_neg (by omega)]
    exact wpAny_bind (wpAny_mkInt (wpAny_pure ⟨_, rfl, h⟩))
theorem truthy_deque0 {l : Addr} {Q : Bool → Shared → Prop} (hl : IsDeque0 s.heap l)
    (h : Q false { s with toks := s.toks + 1 + 1 }) : wpAny (model prog w) A (truthy (.ref l)) Q E s := by
  have hT : s.TypeIs (.ref l) "collections.deque" := by obtain ⟨o, x, y, ho, hc, hd⟩ := hl; exact ⟨o, ho, hc⟩
  have key : wpAny (model prog w) A (runValue (.builtin "len" ⟨[.ref l], []⟩)) (fun r s' => r = .int 0 (s.toks + 1) ∧ Q false s') E s := by
    refine wpAny_runValue (codeAny_builtin entry_len ?_)
    rw [Around.under_plainId plain_len _]
    exact wpAny_mono (len_deque0 (Q := fun r s' => r = .int 0 (s.toks + 1) ∧ Q false s') hl ⟨rfl, h⟩)
      (fun fin s' h' => by obtain ⟨r, rfl, hq⟩ := h'; exact hq) fun _ _ e => e
  unfold truthy
  first
    | refine wpAny_bind (wpAny_callSpecial?_none (name := Str.ofString "__bool__") hT noBool_deque ?_)
    | refine wpAny_bind (wpAny_pure (wpAny_bind (wpAny_callSpecial?_none (name := Str.ofString "__bool__") hT noBool_deque ?_)))
  first
    | refine wpAny_bind (wpAny_specialOf (name := Str.ofString "__len__") hT slot_deque_len.lookup ?_)
    | refine wpAny_bind (wpAny_pure (wpAny_bind (wpAny_specialOf (name := Str.ofString "__len__") hT slot_deque_len.lookup ?_)))
  first
    | exact wpAny_bind (wpAny_mono key (fun r s' h' => by obtain ⟨rfl, hq⟩ := h'; exact wpAny_pure hq) fun _ _ e => e)
    | exact wpAny_bind (wpAny_pure (wpAny_bind (wpAny_mono key (fun r s' h' => by obtain ⟨rfl, hq⟩ := h'; exact wpAny_pure hq) fun _ _ e => e)))
end
theorem deque0_base {h₀ h : Heap} {L a : Addr} {m : Str → Option Value} (F : Fr h₀ L h m) (D : IsDeque0 h₀ a) : IsDeque0 h a := D.keeps F.keep
theorem lineD1_1 : True := by
  (k_with "truthy ref" => (k_here; refine truthy_deque0 (deque0_base (by k_asm) (by assumption)) ?_))
  trivial
theorem read_one_K {w : World} {A : Around} {s : Shared} {mg mb : Str → Option Value} {h₀ : Heap} {L : Addr} {m : Str → Option Value} {E : Value → Shared → Prop} {Q : Value → Shared → Prop} {t : Tok} {lex ld x dx : Addr} {o1 o2 : Obj} {e : Nat → Int} {k : Nat → Tok} {nl : Value} {buf : Str} {bt : Tok} {p : Int} {pt : Tok} {c : Nat}
    (F : Fr h₀ L s.heap m) (X : (Mine.hd.heap_39 w.params).In h₀) (T : TopRead Mine.hd.view_39 LO mg mb h₀) (N : News h₀ L s.heap [(lex, o1), (ld, o2), (x, instObj 619 dx), (dx, sioD e k nl buf bt p pt)])
    (hc : buf.cps[p.toNat]? = some c) (hp0 : 0 ≤ p) (hlen : buf.length < 100000) (n1 : lex ≠ dx) (n2 : ld ≠ dx) (n3 : x ≠ dx) (hroom : A.depth < 890)
    (h : ∀ t' pt' h' tk, Fr h₀ L h' m → News h₀ L h' [(lex, o1), (ld, o2), (x, instObj 619 dx), (dx, sioD e k nl buf bt (p + 1) pt')] → Q (.str (Str.mk #[c]) t') { s with heap := h', toks := tk }) :
    wpAny (model prog w) A (call (.ref 565) [.ref x, .int 1 t]) Q E s := by
  have hx := N _ (.tail _ (.tail _ (.head _)))
  have hd := N _ (.tail _ (.tail _ (.tail _ (.head _))))
  have hp : p < (buf.length : Int) := by
    have : p.toNat < buf.cps.size := by
      rcases Nat.lt_or_ge p.toNat buf.cps.size with q | q
      · exact q
      · rw [Array.getElem?_eq_none q] at hc; cases hc
    simp only [Str.length]; omega
  refine wpAny_call (read_one (mg := mg) (mb := mb) ⟨X, T⟩ F.keep hx.1 hx.2.2 hd.1 hd.2.2 n3 hroom hp0 hp hlen hc fun t' pt' s' hk hd' => ?_)
  obtain ⟨h', tk, rfl, F', N'⟩ := hk.use F N (.tail n1 (.tail n2 (.tail n3 (.head fun _ q => nomatch q)))) hd'
  exact h t' pt' h' tk F' N'
theorem read_end_K {w : World} {A : Around} {s : Shared} {mg mb : Str → Option Value} {h₀ : Heap} {L : Addr} {m : Str → Option Value} {E : Value → Shared → Prop} {Q : Value → Shared → Prop} {t : Tok} {lex ld x dx : Addr} {o1 o2 : Obj} {e : Nat → Int} {k : Nat → Tok} {nl : Value} {buf : Str} {bt : Tok} {p : Int} {pt : Tok}
    (F : Fr h₀ L s.heap m) (X : (Mine.hd.heap_39 w.params).In h₀) (T : TopRead Mine.hd.view_39 LO mg mb h₀) (N : News h₀ L s.heap [(lex, o1), (ld, o2), (x, instObj 619 dx), (dx, sioD e k nl buf bt p pt)])
    (hc : buf.cps[p.toNat]? = none) (hp0 : 0 ≤ p) (hlen : buf.length < 100000) (n3 : x ≠ dx) (hroom : A.depth < 890)
    (h : ∀ t' h' tk, Fr h₀ L h' m → News h₀ L h' [(lex, o1), (ld, o2), (x, instObj 619 dx), (dx, sioD e k nl buf bt p pt)] → Q (.str "" t') { s with heap := h', toks := tk }) :
    wpAny (model prog w) A (call (.ref 565) [.ref x, .int 1 t]) Q E s := by
  have hx := N _ (.tail _ (.tail _ (.head _)))
  have hd := N _ (.tail _ (.tail _ (.tail _ (.head _))))
  have hp : (buf.length : Int) ≤ p := by
    have := Array.getElem?_eq_none_iff.mp hc
    simp only [Str.length]; omega
  refine wpAny_call (read_end (mg := mg) (mb := mb) ⟨X, T⟩ F.keep hx.1 hx.2.2 hd.1 hd.2.2 n3 hroom hp hlen fun t' s' hk => ?_)
  obtain ⟨h', tk, rfl, F', N'⟩ := Keeps.use hk F N
  exact h t' h' tk F' N'
theorem lineC2_1 : True := by
  (k_with "call ref" => (k_here; (with_reducible show wpAny _ _ (call (Value.ref 565) _) _ _ _); first | ((refine' read_one_K ?zqF ?zqX ?zqT ?zqN ?zqc ?zqp ?zql ?zqn1 ?zqn2 ?zqn3 ?zqr ?_); (case zqF => k_asm); (case zqX => k_asm); (case zqT => k_asm); (case zqN => k_asm); (case zqc => assumption); (case zqp => assumption); (case zql => assumption); (case zqn1 => assumption); (case zqn2 => assumption); (case zqn3 => assumption); (case zqr => k_room); intro zt' _ zh' ztk' zF' zN'; (try k_sweep)) | ((refine' read_end_K ?zqF ?zqX ?zqT ?zqN ?zqc ?zqp ?zql ?zqn3 ?zqr ?_); (case zqF => k_asm); (case zqX => k_asm); (case zqT => k_asm); (case zqN => k_asm); (case zqc => assumption); (case zqp => assumption); (case zql => assumption); (case zqn3 => assumption); (case zqr => k_room); intro zt' zh' ztk' zF' zN'; (try k_sweep))))
  trivial

abbrev lexD (e : Nat → Int) (k u : Nat → Tok) (sio pb fs : Addr) (wc : Str) (st tk : Value) : Obj := dictOf [
  ⟨e 0, .str "instream" (k 0), .ref sio⟩, ⟨e 1, .str "infile" (k 1), .none⟩, ⟨e 2, .str "posix" (k 2), .bool true⟩, ⟨e 3, .str "eof" (k 3), .none⟩, ⟨e 4, .str "commenters" (k 4), .str "" (u 4)⟩,
  ⟨e 5, .str "wordchars" (k 5), .str wc (u 5)⟩, ⟨e 6, .str "whitespace" (k 6), .str " \t\r\n" (u 6)⟩, ⟨e 7, .str "whitespace_split" (k 7), .bool true⟩, ⟨e 8, .str "quotes" (k 8), .str "'\"" (u 8)⟩, ⟨e 9, .str "escape" (k 9), .str "\\" (u 9)⟩,
  ⟨e 10, .str "escapedquotes" (k 10), .str "\"" (u 10)⟩, ⟨e 11, .str "state" (k 11), st⟩, ⟨e 12, .str "pushback" (k 12), .ref pb⟩, ⟨e 13, .str "lineno" (k 13), .int 1 (u 13)⟩, ⟨e 14, .str "debug" (k 14), .int 0 (u 14)⟩,
  ⟨e 15, .str "token" (k 15), tk⟩, ⟨e 16, .str "filestack" (k 16), .ref fs⟩, ⟨e 17, .str "source" (k 17), .none⟩, ⟨e 18, .str "_punctuation_chars" (k 18), .str "" (u 18)⟩] 19

theorem lineC2_2 : True := by
  (k_with "getAttr ref" => (k_here; (with_reducible show wpAny _ _ (getAttr (Value.ref _) (PySem.Str.ofString "punctuation_chars") _) _ _ _); k_dflt ((refine' get_prop ?zqk1 ?zqk2 ?zqk3 ?zqk4 ?zqk5 ?zqk6 ?zqk7 ?zqk8 ?zqk9 ?_; (case zqk1 => k_asm); (case zqk2 => k_asm); (case zqk3 => k_inst); (case zqk4 => k_is); (case zqk5 => k_is); (case zqk6 => k_is); (case zqk7 => k_is); (case zqk8 => k_is); (case zqk9 => k_is); k_whole); (refine' code_defM ?zqk2 ?zqk3 ?zqk4 ?zqk5 ?zqk6 ?zqk7 ?zqk8 ?zqk9 ?zqkB ?_ ?zqc2 ?zqc3 ?zqc4 ?zqc5; (case zqk2 => k_asm); (case zqk3 => k_asm); (case zqk4 => k_asm); (case zqk5 => k_asm); (case zqk6 => k_is); (case zqk7 => k_is); (case zqk8 => k_room); (case zqk9 => first | exact BindsTo.of_eq rfl | exact binds_K (by k_in) rfl (by k_is) rfl rfl rfl); (case zqc5 => decide); (case zqkB => exact locs rfl); (case zqc2 => exact rfl); (case zqc3 => exact rfl); (case zqc4 => exact rfl); k_whole; intro _ _ _ _ _ _ _ _; (try dsimp only)))))
  trivial

theorem lineC2_3 : True := by
  (k_with "eval Name" => (k_here; (with_reducible show wpAny _ _ (eval (Expr.Name _ _) (envOf _ _ _ _ _)) _ _ _); k_dflt (refine' PyProof.Rows.ld ?zqk1 ?zqk2 ?_; (case zqk1 => k_asm); (case zqk2 => first | exact rfl | assumption); k_whole)))
  trivial

theorem in_str_b {w : World} {A : Around} {E : Value → Shared → Prop} {s : Shared} {x y : Str} {t u : Tok} {Q : Value → Shared → Prop} (b : Bool) (hb : (!(Builtin.Str.occurrences x y 0 x.length 1).isEmpty) = b) (h : Q (.bool b) s) :
    wpAny (model prog w) A (compareOp .In (.str y u) (.str x t)) Q E s := PyProof.Rows.in_str (by rw [hb]; exact h)
theorem lineC2_4 : True := by
  (k_with "compareOp In str str" => (k_here; first | (refine in_str_b false (by decide +kernel) ?_) | (refine in_str_b true (by decide +kernel) ?_) | (refine in_str_b _ (by with_reducible assumption) ?_)))
  trivial

abbrev led4 (lex ld sio sd : Addr) (o2 o4 : Obj) : List (Addr × Obj) := [(lex, instObj 754 ld), (ld, o2), (sio, instObj 619 sd), (sd, o4)]

set_option maxHeartbeats 4000000 in
theorem turn_pre {w : World} {A : Around} {s : Shared} {mg mb : Str → Option Value} {g : Heap} {L : Addr} {m : Str → Option Value} {Q : Flow → Shared → Prop} {lex ld sio sd pb fs : Addr} {e e' : Nat → Int} {k k' u : Nat → Tok} {nl vst vtk : Value} {buf wc : Str} {bt : Tok} {p : Int} {pt : Tok} {c : Nat}
    {name qual : Str} {params : Arguments} {st1 st2 b1 b2 b3 : Stmt} {rest body tl : List Stmt} {test : Expr} {pos : Pos} {scope : Scope} {dV kV doc pm cdv ct oc : Value} {an od : Option Addr} {osl : Array (Option Value)}
    (ho : (Mine.hd.heap_39 w.params).lookup 722 = some ⟨oc, od, .func (fnOf name qual params (st1 :: st2 :: .While test (b1 :: b2 :: b3 :: tl) [] pos :: rest) scope dV kV doc pm an cdv ct), osl⟩)
    (F : Fr g L s.heap m) (KX : (Mine.hd.heap_39 w.params).In g) (TT : TopRead Mine.hd.view_39 LO mg mb g) (N : News g L s.heap (led4 lex ld sio sd (lexD e k u sio pb fs wc vst vtk) (sioD e' k' nl buf bt p pt)))
    (hself : m "self" = some (.ref lex))
    (hp0 : 0 ≤ p) (hlen : buf.length < 100000) (n1 : lex ≠ sd) (n2 : ld ≠ sd) (n3 : sio ≠ sd) (n4 : lex ≠ ld) (n5 : sio ≠ ld) (hroom : A.depth < 880)
    (hc : buf.cps[p.toNat]? = some c) (hnl : (Str.mk #[c] == Str.ofString "\n") = false)
    (h : ∀ h' tk t' pt', Fr g L h' (fun y => if y = "nextchar" then some (.str (Str.mk #[c]) t') else m y) → News g L h' (led4 lex ld sio sd (lexD e k u sio pb fs wc vst vtk) (sioD e' k' nl buf bt (p + 1) pt')) →
      wpAny (model prog w) A (execs body (envOf qual scope L 722 cdv)) Q FalseE { s with heap := h', toks := tk }) :
    wpAny (model prog w) A (execs (b1 :: b2 :: b3 :: body) (envOf qual scope L 722 cdv)) Q FalseE s := by
  have ee := ho.symm.trans (by k_dflt k_is)
  cases ee
  clear ho
  have n1' := neN n1
  have n2' := neN n2
  have n3' := neN n3
  have n4' := neN n4
  have n5' := neN n5
  k_steps
  rename Fr g _ _ _ => F'
  rename News g _ _ _ => N'
  exact h _ _ _ _ F' N'
set_option maxHeartbeats 4000000 in
theorem turn_pre_end {w : World} {A : Around} {s : Shared} {mg mb : Str → Option Value} {g : Heap} {L : Addr} {m : Str → Option Value} {Q : Flow → Shared → Prop} {lex ld sio sd pb fs : Addr} {e e' : Nat → Int} {k k' u : Nat → Tok} {nl vst vtk : Value} {buf wc : Str} {bt : Tok} {p : Int} {pt : Tok}
    {name qual : Str} {params : Arguments} {st1 st2 b1 b2 b3 : Stmt} {rest body tl : List Stmt} {test : Expr} {pos : Pos} {scope : Scope} {dV kV doc pm cdv ct oc : Value} {an od : Option Addr} {osl : Array (Option Value)}
    (ho : (Mine.hd.heap_39 w.params).lookup 722 = some ⟨oc, od, .func (fnOf name qual params (st1 :: st2 :: .While test (b1 :: b2 :: b3 :: tl) [] pos :: rest) scope dV kV doc pm an cdv ct), osl⟩)
    (F : Fr g L s.heap m) (KX : (Mine.hd.heap_39 w.params).In g) (TT : TopRead Mine.hd.view_39 LO mg mb g) (N : News g L s.heap (led4 lex ld sio sd (lexD e k u sio pb fs wc vst vtk) (sioD e' k' nl buf bt p pt)))
    (hself : m "self" = some (.ref lex))
    (hp0 : 0 ≤ p) (hlen : buf.length < 100000) (n1 : lex ≠ sd) (n2 : ld ≠ sd) (n3 : sio ≠ sd) (n4 : lex ≠ ld) (n5 : sio ≠ ld) (hroom : A.depth < 880)
    (hc : buf.cps[p.toNat]? = none)
    (h : ∀ h' tk t', Fr g L h' (fun y => if y = "nextchar" then some (.str (Str.ofString "") t') else m y) → News g L h' (led4 lex ld sio sd (lexD e k u sio pb fs wc vst vtk) (sioD e' k' nl buf bt p pt)) →
      wpAny (model prog w) A (execs body (envOf qual scope L 722 cdv)) Q FalseE { s with heap := h', toks := tk }) :
    wpAny (model prog w) A (execs (b1 :: b2 :: b3 :: body) (envOf qual scope L 722 cdv)) Q FalseE s := by
  have ee := ho.symm.trans (by k_dflt k_is)
  cases ee
  clear ho
  have n1' := neN n1
  have n2' := neN n2
  have n3' := neN n3
  have n4' := neN n4
  have n5' := neN n5
  k_steps
  rename Fr g _ _ _ => F'
  rename News g _ _ _ => N'
  exact h _ _ _ F' N'
theorem truthy_one {w : World} {A : Around} {E : Value → Shared → Prop} {s : Shared} {c : Nat} {t : Tok} {Q : Bool → Shared → Prop} (h : ∀ k, Q true { s with toks := k }) : wpAny (model prog w) A (PySem.truthy (.str (Str.mk #[c]) t)) Q E s :=
  KXt.truthy_pos (K := 1) (Nat.le_refl 1) (Nat.le_refl 1) (by decide) h
theorem lineC3_1 : True := by
  (k_with "truthy str" => (k_here; (with_reducible refine truthy_one ?_); intro _))
  trivial
set_option maxHeartbeats 4000000 in
theorem turn_sp_end {w : World} {A : Around} {s : Shared} {mg mb : Str → Option Value} {g : Heap} {L : Addr} {m : Str → Option Value} {Q : Flow → Shared → Prop} {lex ld sio sd pb fs : Addr} {e : Nat → Int} {k u : Nat → Tok} {o4 : Obj} {wc : Str} {t0 t1 t2 : Tok}
    {name qual : Str} {params : Arguments} {st1 st2 b1 b2 b3 : Stmt} {rest tl : List Stmt} {test : Expr} {pos : Pos} {scope : Scope} {dV kV doc pm cdv ct oc : Value} {an od : Option Addr} {osl : Array (Option Value)}
    (ho : (Mine.hd.heap_39 w.params).lookup 722 = some ⟨oc, od, .func (fnOf name qual params (st1 :: st2 :: .While test (b1 :: b2 :: b3 :: tl) [] pos :: rest) scope dV kV doc pm an cdv ct), osl⟩)
    (F : Fr g L s.heap m) (KX : (Mine.hd.heap_39 w.params).In g) (TT : TopRead Mine.hd.view_39 LO mg mb g) (N : News g L s.heap (led4 lex ld sio sd (lexD e k u sio pb fs wc (.str (Str.ofString " ") t1) (.str (Str.ofString "") t2)) o4))
    (hself : m "self" = some (.ref lex)) (hq : m "quoted" = some (.bool false)) (hn : m "nextchar" = some (.str (Str.ofString "") t0))
    (n1 : lex ≠ sd) (n2 : ld ≠ sd) (n4 : lex ≠ ld) (n5 : sio ≠ ld) (hroom : A.depth < 880)
    (h : ∀ h' tn m', Fr g L h' m' → m' "self" = some (.ref lex) → m' "quoted" = some (.bool false) → News g L h' (led4 lex ld sio sd (lexD e k u sio pb fs wc (.none) (.str (Str.ofString "") t2)) o4) → Q .brk { s with heap := h', toks := tn }) :
    wpAny (model prog w) A (execs tl (envOf qual scope L 722 cdv)) Q FalseE s := by
  have ee := ho.symm.trans (by k_dflt k_is)
  cases ee
  clear ho
  have n1' := neN n1
  have n2' := neN n2
  have n4' := neN n4
  have n5' := neN n5
  k_steps
  all_goals (
    rename Fr g _ _ _ => F'
    rename News g _ _ _ => N'
    exact h _ _ _ F' (by first | exact rfl | exact hself) (by first | exact rfl | exact hq) (by first | exact N' | exact fun p hp => N' p (List.mem_cons_of_mem _ hp)))

set_option maxHeartbeats 4000000 in
theorem turn_sp_q {w : World} {A : Around} {s : Shared} {mg mb : Str → Option Value} {g : Heap} {L : Addr} {m : Str → Option Value} {Q : Flow → Shared → Prop} {lex ld sio sd pb fs : Addr} {e : Nat → Int} {k u : Nat → Tok} {o4 : Obj} {wc : Str} {t0 t1 t2 : Tok} {c : Nat}
    {name qual : Str} {params : Arguments} {st1 st2 b1 b2 b3 : Stmt} {rest tl : List Stmt} {test : Expr} {pos : Pos} {scope : Scope} {dV kV doc pm cdv ct oc : Value} {an od : Option Addr} {osl : Array (Option Value)}
    (ho : (Mine.hd.heap_39 w.params).lookup 722 = some ⟨oc, od, .func (fnOf name qual params (st1 :: st2 :: .While test (b1 :: b2 :: b3 :: tl) [] pos :: rest) scope dV kV doc pm an cdv ct), osl⟩)
    (F : Fr g L s.heap m) (KX : (Mine.hd.heap_39 w.params).In g) (TT : TopRead Mine.hd.view_39 LO mg mb g) (N : News g L s.heap (led4 lex ld sio sd (lexD e k u sio pb fs wc (.str (Str.ofString " ") t1) (.str (Str.ofString "") t2)) o4))
    (hself : m "self" = some (.ref lex)) (hq : m "quoted" = some (.bool false)) (hn : m "nextchar" = some (.str (Str.mk #[c]) t0))
    (n1 : lex ≠ sd) (n2 : ld ≠ sd) (n4 : lex ≠ ld) (n5 : sio ≠ ld) (hroom : A.depth < 880) (hwq : (!(Builtin.Str.occurrences wc (Str.mk #[c]) 0 wc.length 1).isEmpty) = false) (hws : (!(Builtin.Str.occurrences (Str.ofString " \t\r\n") (Str.mk #[c]) 0 (Str.ofString " \t\r\n").length 1).isEmpty) = false) (hem : (!(Builtin.Str.occurrences (Str.ofString "") (Str.mk #[c]) 0 (Str.ofString "").length 1).isEmpty) = false) (hes : (!(Builtin.Str.occurrences (Str.ofString "\\") (Str.mk #[c]) 0 (Str.ofString "\\").length 1).isEmpty) = false) (hqu : (!(Builtin.Str.occurrences (Str.ofString "'\"") (Str.mk #[c]) 0 (Str.ofString "'\"").length 1).isEmpty) = true)
    (h : ∀ h' tn m' t1', Fr g L h' m' → m' "self" = some (.ref lex) → m' "quoted" = some (.bool false) → News g L h' (led4 lex ld sio sd (lexD e k u sio pb fs wc (.str (Str.mk #[c]) t1') (.str (Str.ofString "") t2)) o4) → Q .next { s with heap := h', toks := tn }) :
    wpAny (model prog w) A (execs tl (envOf qual scope L 722 cdv)) Q FalseE s := by
  have ee := ho.symm.trans (by k_dflt k_is)
  cases ee
  clear ho
  have n1' := neN n1
  have n2' := neN n2
  have n4' := neN n4
  have n5' := neN n5
  k_steps
  all_goals (
    rename Fr g _ _ _ => F'
    rename News g _ _ _ => N'
    exact h _ _ _ _ F' (by first | exact rfl | exact hself) (by first | exact rfl | exact hq) (by first | exact N' | exact fun p hp => N' p (List.mem_cons_of_mem _ hp)))

set_option maxHeartbeats 4000000 in
theorem turn_sp_a {w : World} {A : Around} {s : Shared} {mg mb : Str → Option Value} {g : Heap} {L : Addr} {m : Str → Option Value} {Q : Flow → Shared → Prop} {lex ld sio sd pb fs : Addr} {e : Nat → Int} {k u : Nat → Tok} {o4 : Obj} {wc : Str} {t0 t1 t2 : Tok}
    {name qual : Str} {params : Arguments} {st1 st2 b1 b2 b3 : Stmt} {rest tl : List Stmt} {test : Expr} {pos : Pos} {scope : Scope} {dV kV doc pm cdv ct oc : Value} {an od : Option Addr} {osl : Array (Option Value)}
    (ho : (Mine.hd.heap_39 w.params).lookup 722 = some ⟨oc, od, .func (fnOf name qual params (st1 :: st2 :: .While test (b1 :: b2 :: b3 :: tl) [] pos :: rest) scope dV kV doc pm an cdv ct), osl⟩)
    (F : Fr g L s.heap m) (KX : (Mine.hd.heap_39 w.params).In g) (TT : TopRead Mine.hd.view_39 LO mg mb g) (N : News g L s.heap (led4 lex ld sio sd (lexD e k u sio pb fs wc (.str (Str.ofString " ") t1) (.str (Str.ofString "") t2)) o4))
    (hself : m "self" = some (.ref lex)) (hq : m "quoted" = some (.bool false)) (hn : m "nextchar" = some (.str (Str.mk #[97]) t0))
    (n1 : lex ≠ sd) (n2 : ld ≠ sd) (n4 : lex ≠ ld) (n5 : sio ≠ ld) (hroom : A.depth < 880) (hwa : (!(Builtin.Str.occurrences wc (Str.mk #[97]) 0 wc.length 1).isEmpty) = true)
    (h : ∀ h' tn m' t1' t2', Fr g L h' m' → m' "self" = some (.ref lex) → m' "quoted" = some (.bool false) → News g L h' (led4 lex ld sio sd (lexD e k u sio pb fs wc (.str (Str.ofString "a") t1') (.str (Str.mk #[97]) t2')) o4) → Q .next { s with heap := h', toks := tn }) :
    wpAny (model prog w) A (execs tl (envOf qual scope L 722 cdv)) Q FalseE s := by
  have ee := ho.symm.trans (by k_dflt k_is)
  cases ee
  clear ho
  have n1' := neN n1
  have n2' := neN n2
  have n4' := neN n4
  have n5' := neN n5
  k_steps
  all_goals (
    rename Fr g _ _ _ => F'
    rename News g _ _ _ => N'
    exact h _ _ _ _ _ F' (by first | exact rfl | exact hself) (by first | exact rfl | exact hq) (by first | exact N' | exact fun p hp => N' p (List.mem_cons_of_mem _ hp)))

set_option maxHeartbeats 4000000 in
theorem turn_q_close {w : World} {A : Around} {s : Shared} {mg mb : Str → Option Value} {g : Heap} {L : Addr} {m : Str → Option Value} {Q : Flow → Shared → Prop} {lex ld sio sd pb fs : Addr} {e : Nat → Int} {k u : Nat → Tok} {o4 : Obj} {wc tk : Str} {t0 t1 t2 : Tok} {q : Bool} {d : Nat}
    {name qual : Str} {params : Arguments} {st1 st2 b1 b2 b3 : Stmt} {rest tl : List Stmt} {test : Expr} {pos : Pos} {scope : Scope} {dV kV doc pm cdv ct oc : Value} {an od : Option Addr} {osl : Array (Option Value)}
    (ho : (Mine.hd.heap_39 w.params).lookup 722 = some ⟨oc, od, .func (fnOf name qual params (st1 :: st2 :: .While test (b1 :: b2 :: b3 :: tl) [] pos :: rest) scope dV kV doc pm an cdv ct), osl⟩)
    (F : Fr g L s.heap m) (KX : (Mine.hd.heap_39 w.params).In g) (TT : TopRead Mine.hd.view_39 LO mg mb g) (N : News g L s.heap (led4 lex ld sio sd (lexD e k u sio pb fs wc (.str (Str.mk #[d]) t1) (.str (tk) t2)) o4))
    (hself : m "self" = some (.ref lex)) (hq : m "quoted" = some (.bool q)) (hn : m "nextchar" = some (.str (Str.mk #[d]) t0))
    (n1 : lex ≠ sd) (n2 : ld ≠ sd) (n4 : lex ≠ ld) (n5 : sio ≠ ld) (hroom : A.depth < 880) (hsp : (Str.mk #[d] == Str.ofString " ") = false) (hqu : (!(Builtin.Str.occurrences (Str.ofString "'\"") (Str.mk #[d]) 0 (Str.ofString "'\"").length 1).isEmpty) = true) (hdd : (Str.mk #[d] == Str.mk #[d]) = true)
    (h : ∀ h' tn m' t1', Fr g L h' m' → m' "self" = some (.ref lex) → m' "quoted" = some (.bool true) → News g L h' (led4 lex ld sio sd (lexD e k u sio pb fs wc (.str (Str.ofString "a") t1') (.str tk t2)) o4) → Q .next { s with heap := h', toks := tn }) :
    wpAny (model prog w) A (execs tl (envOf qual scope L 722 cdv)) Q FalseE s := by
  have ee := ho.symm.trans (by k_dflt k_is)
  cases ee
  clear ho
  have n1' := neN n1
  have n2' := neN n2
  have n4' := neN n4
  have n5' := neN n5
  k_steps
  all_goals (
    rename Fr g _ _ _ => F'
    rename News g _ _ _ => N'
    exact h _ _ _ _ F' (by first | exact rfl | exact hself) (by first | exact rfl | exact hq) (by first | exact N' | exact fun p hp => N' p (List.mem_cons_of_mem _ hp)))

set_option maxHeartbeats 4000000 in
theorem turn_q_in {w : World} {A : Around} {s : Shared} {mg mb : Str → Option Value} {g : Heap} {L : Addr} {m : Str → Option Value} {Q : Flow → Shared → Prop} {lex ld sio sd pb fs : Addr} {e : Nat → Int} {k u : Nat → Tok} {o4 : Obj} {wc tk : Str} {t0 t1 t2 : Tok} {q : Bool} {d : Nat} {c : Nat}
    {name qual : Str} {params : Arguments} {st1 st2 b1 b2 b3 : Stmt} {rest tl : List Stmt} {test : Expr} {pos : Pos} {scope : Scope} {dV kV doc pm cdv ct oc : Value} {an od : Option Addr} {osl : Array (Option Value)}
    (ho : (Mine.hd.heap_39 w.params).lookup 722 = some ⟨oc, od, .func (fnOf name qual params (st1 :: st2 :: .While test (b1 :: b2 :: b3 :: tl) [] pos :: rest) scope dV kV doc pm an cdv ct), osl⟩)
    (F : Fr g L s.heap m) (KX : (Mine.hd.heap_39 w.params).In g) (TT : TopRead Mine.hd.view_39 LO mg mb g) (N : News g L s.heap (led4 lex ld sio sd (lexD e k u sio pb fs wc (.str (Str.mk #[d]) t1) (.str (tk) t2)) o4))
    (hself : m "self" = some (.ref lex)) (hq : m "quoted" = some (.bool q)) (hn : m "nextchar" = some (.str (Str.mk #[c]) t0))
    (n1 : lex ≠ sd) (n2 : ld ≠ sd) (n4 : lex ≠ ld) (n5 : sio ≠ ld) (hroom : A.depth < 880) (htk : tk.length < 100000) (hsp : (Str.mk #[d] == Str.ofString " ") = false) (hqu : (!(Builtin.Str.occurrences (Str.ofString "'\"") (Str.mk #[d]) 0 (Str.ofString "'\"").length 1).isEmpty) = true) (hcd : (Str.mk #[c] == Str.mk #[d]) = false) (hes : (!(Builtin.Str.occurrences (Str.ofString "\\") (Str.mk #[c]) 0 (Str.ofString "\\").length 1).isEmpty) = false)
    (h : ∀ h' tn m' t2', Fr g L h' m' → m' "self" = some (.ref lex) → m' "quoted" = some (.bool true) → News g L h' (led4 lex ld sio sd (lexD e k u sio pb fs wc (.str (Str.mk #[d]) t1) (.str (tk ++ Str.mk #[c]) t2')) o4) → Q .next { s with heap := h', toks := tn }) :
    wpAny (model prog w) A (execs tl (envOf qual scope L 722 cdv)) Q FalseE s := by
  have ee := ho.symm.trans (by k_dflt k_is)
  cases ee
  clear ho
  have n1' := neN n1
  have n2' := neN n2
  have n4' := neN n4
  have n5' := neN n5
  k_steps
  all_goals (
    rename Fr g _ _ _ => F'
    rename News g _ _ _ => N'
    exact h _ _ _ _ F' (by first | exact rfl | exact hself) (by first | exact rfl | exact hq) (by first | exact N' | exact fun p hp => N' p (List.mem_cons_of_mem _ hp)))

set_option maxHeartbeats 4000000 in
theorem turn_a_end {w : World} {A : Around} {s : Shared} {mg mb : Str → Option Value} {g : Heap} {L : Addr} {m : Str → Option Value} {Q : Flow → Shared → Prop} {lex ld sio sd pb fs : Addr} {e : Nat → Int} {k u : Nat → Tok} {o4 : Obj} {wc tk : Str} {t0 t1 t2 : Tok} {q : Bool}
    {name qual : Str} {params : Arguments} {st1 st2 b1 b2 b3 : Stmt} {rest tl : List Stmt} {test : Expr} {pos : Pos} {scope : Scope} {dV kV doc pm cdv ct oc : Value} {an od : Option Addr} {osl : Array (Option Value)}
    (ho : (Mine.hd.heap_39 w.params).lookup 722 = some ⟨oc, od, .func (fnOf name qual params (st1 :: st2 :: .While test (b1 :: b2 :: b3 :: tl) [] pos :: rest) scope dV kV doc pm an cdv ct), osl⟩)
    (F : Fr g L s.heap m) (KX : (Mine.hd.heap_39 w.params).In g) (TT : TopRead Mine.hd.view_39 LO mg mb g) (N : News g L s.heap (led4 lex ld sio sd (lexD e k u sio pb fs wc (.str (Str.ofString "a") t1) (.str (tk) t2)) o4))
    (hself : m "self" = some (.ref lex)) (hq : m "quoted" = some (.bool q)) (hn : m "nextchar" = some (.str (Str.ofString "") t0))
    (n1 : lex ≠ sd) (n2 : ld ≠ sd) (n4 : lex ≠ ld) (n5 : sio ≠ ld) (hroom : A.depth < 880)
    (h : ∀ h' tn m', Fr g L h' m' → m' "self" = some (.ref lex) → m' "quoted" = some (.bool q) → News g L h' (led4 lex ld sio sd (lexD e k u sio pb fs wc (.none) (.str tk t2)) o4) → Q .brk { s with heap := h', toks := tn }) :
    wpAny (model prog w) A (execs tl (envOf qual scope L 722 cdv)) Q FalseE s := by
  have ee := ho.symm.trans (by k_dflt k_is)
  cases ee
  clear ho
  have n1' := neN n1
  have n2' := neN n2
  have n4' := neN n4
  have n5' := neN n5
  k_steps
  all_goals (
    rename Fr g _ _ _ => F'
    rename News g _ _ _ => N'
    exact h _ _ _ F' (by first | exact rfl | exact hself) (by first | exact rfl | exact hq) (by first | exact N' | exact fun p hp => N' p (List.mem_cons_of_mem _ hp)))

set_option maxHeartbeats 4000000 in
theorem turn_a_sp_t {w : World} {A : Around} {s : Shared} {mg mb : Str → Option Value} {g : Heap} {L : Addr} {m : Str → Option Value} {Q : Flow → Shared → Prop} {lex ld sio sd pb fs : Addr} {e : Nat → Int} {k u : Nat → Tok} {o4 : Obj} {wc tk : Str} {t0 t1 t2 : Tok}
    {name qual : Str} {params : Arguments} {st1 st2 b1 b2 b3 : Stmt} {rest tl : List Stmt} {test : Expr} {pos : Pos} {scope : Scope} {dV kV doc pm cdv ct oc : Value} {an od : Option Addr} {osl : Array (Option Value)}
    (ho : (Mine.hd.heap_39 w.params).lookup 722 = some ⟨oc, od, .func (fnOf name qual params (st1 :: st2 :: .While test (b1 :: b2 :: b3 :: tl) [] pos :: rest) scope dV kV doc pm an cdv ct), osl⟩)
    (F : Fr g L s.heap m) (KX : (Mine.hd.heap_39 w.params).In g) (TT : TopRead Mine.hd.view_39 LO mg mb g) (N : News g L s.heap (led4 lex ld sio sd (lexD e k u sio pb fs wc (.str (Str.ofString "a") t1) (.str (tk) t2)) o4))
    (hself : m "self" = some (.ref lex)) (hq : m "quoted" = some (.bool true)) (hn : m "nextchar" = some (.str (Str.mk #[32]) t0))
    (n1 : lex ≠ sd) (n2 : ld ≠ sd) (n4 : lex ≠ ld) (n5 : sio ≠ ld) (hroom : A.depth < 880) (htk : tk.length < 100000)
    (h : ∀ h' tn m' t1', Fr g L h' m' → m' "self" = some (.ref lex) → m' "quoted" = some (.bool true) → News g L h' (led4 lex ld sio sd (lexD e k u sio pb fs wc (.str (Str.ofString " ") t1') (.str tk t2)) o4) → Q .brk { s with heap := h', toks := tn }) :
    wpAny (model prog w) A (execs tl (envOf qual scope L 722 cdv)) Q FalseE s := by
  have ee := ho.symm.trans (by k_dflt k_is)
  cases ee
  clear ho
  have n1' := neN n1
  have n2' := neN n2
  have n4' := neN n4
  have n5' := neN n5
  k_steps
  all_goals (
    rename Fr g _ _ _ => F'
    rename News g _ _ _ => N'
    exact h _ _ _ _ F' (by first | exact rfl | exact hself) (by first | exact rfl | exact hq) (by first | exact N' | exact fun p hp => N' p (List.mem_cons_of_mem _ hp)))

set_option maxHeartbeats 4000000 in
theorem turn_a_sp_f {w : World} {A : Around} {s : Shared} {mg mb : Str → Option Value} {g : Heap} {L : Addr} {m : Str → Option Value} {Q : Flow → Shared → Prop} {lex ld sio sd pb fs : Addr} {e : Nat → Int} {k u : Nat → Tok} {o4 : Obj} {wc : Str} {t0 t1 t2 : Tok}
    {name qual : Str} {params : Arguments} {st1 st2 b1 b2 b3 : Stmt} {rest tl : List Stmt} {test : Expr} {pos : Pos} {scope : Scope} {dV kV doc pm cdv ct oc : Value} {an od : Option Addr} {osl : Array (Option Value)}
    (ho : (Mine.hd.heap_39 w.params).lookup 722 = some ⟨oc, od, .func (fnOf name qual params (st1 :: st2 :: .While test (b1 :: b2 :: b3 :: tl) [] pos :: rest) scope dV kV doc pm an cdv ct), osl⟩)
    (F : Fr g L s.heap m) (KX : (Mine.hd.heap_39 w.params).In g) (TT : TopRead Mine.hd.view_39 LO mg mb g) (N : News g L s.heap (led4 lex ld sio sd (lexD e k u sio pb fs wc (.str (Str.ofString "a") t1) (.str (Str.mk #[97]) t2)) o4))
    (hself : m "self" = some (.ref lex)) (hq : m "quoted" = some (.bool false)) (hn : m "nextchar" = some (.str (Str.mk #[32]) t0))
    (n1 : lex ≠ sd) (n2 : ld ≠ sd) (n4 : lex ≠ ld) (n5 : sio ≠ ld) (hroom : A.depth < 880)
    (h : ∀ h' tn m' t1', Fr g L h' m' → m' "self" = some (.ref lex) → m' "quoted" = some (.bool false) → News g L h' (led4 lex ld sio sd (lexD e k u sio pb fs wc (.str (Str.ofString " ") t1') (.str (Str.mk #[97]) t2)) o4) → Q .brk { s with heap := h', toks := tn }) :
    wpAny (model prog w) A (execs tl (envOf qual scope L 722 cdv)) Q FalseE s := by
  have ee := ho.symm.trans (by k_dflt k_is)
  cases ee
  clear ho
  have n1' := neN n1
  have n2' := neN n2
  have n4' := neN n4
  have n5' := neN n5
  k_steps
  all_goals (
    rename Fr g _ _ _ => F'
    rename News g _ _ _ => N'
    exact h _ _ _ _ F' (by first | exact rfl | exact hself) (by first | exact rfl | exact hq) (by first | exact N' | exact fun p hp => N' p (List.mem_cons_of_mem _ hp)))

set_option maxHeartbeats 4000000 in
theorem turn_a_q {w : World} {A : Around} {s : Shared} {mg mb : Str → Option Value} {g : Heap} {L : Addr} {m : Str → Option Value} {Q : Flow → Shared → Prop} {lex ld sio sd pb fs : Addr} {e : Nat → Int} {k u : Nat → Tok} {o4 : Obj} {wc tk : Str} {t0 t1 t2 : Tok} {q : Bool} {c : Nat}
    {name qual : Str} {params : Arguments} {st1 st2 b1 b2 b3 : Stmt} {rest tl : List Stmt} {test : Expr} {pos : Pos} {scope : Scope} {dV kV doc pm cdv ct oc : Value} {an od : Option Addr} {osl : Array (Option Value)}
    (ho : (Mine.hd.heap_39 w.params).lookup 722 = some ⟨oc, od, .func (fnOf name qual params (st1 :: st2 :: .While test (b1 :: b2 :: b3 :: tl) [] pos :: rest) scope dV kV doc pm an cdv ct), osl⟩)
    (F : Fr g L s.heap m) (KX : (Mine.hd.heap_39 w.params).In g) (TT : TopRead Mine.hd.view_39 LO mg mb g) (N : News g L s.heap (led4 lex ld sio sd (lexD e k u sio pb fs wc (.str (Str.ofString "a") t1) (.str (tk) t2)) o4))
    (hself : m "self" = some (.ref lex)) (hq : m "quoted" = some (.bool q)) (hn : m "nextchar" = some (.str (Str.mk #[c]) t0))
    (n1 : lex ≠ sd) (n2 : ld ≠ sd) (n4 : lex ≠ ld) (n5 : sio ≠ ld) (hroom : A.depth < 880) (hws : (!(Builtin.Str.occurrences (Str.ofString " \t\r\n") (Str.mk #[c]) 0 (Str.ofString " \t\r\n").length 1).isEmpty) = false) (hem : (!(Builtin.Str.occurrences (Str.ofString "") (Str.mk #[c]) 0 (Str.ofString "").length 1).isEmpty) = false) (hqu : (!(Builtin.Str.occurrences (Str.ofString "'\"") (Str.mk #[c]) 0 (Str.ofString "'\"").length 1).isEmpty) = true)
    (h : ∀ h' tn m' t1', Fr g L h' m' → m' "self" = some (.ref lex) → m' "quoted" = some (.bool q) → News g L h' (led4 lex ld sio sd (lexD e k u sio pb fs wc (.str (Str.mk #[c]) t1') (.str tk t2)) o4) → Q .next { s with heap := h', toks := tn }) :
    wpAny (model prog w) A (execs tl (envOf qual scope L 722 cdv)) Q FalseE s := by
  have ee := ho.symm.trans (by k_dflt k_is)
  cases ee
  clear ho
  have n1' := neN n1
  have n2' := neN n2
  have n4' := neN n4
  have n5' := neN n5
  k_steps
  all_goals (
    rename Fr g _ _ _ => F'
    rename News g _ _ _ => N'
    exact h _ _ _ _ F' (by first | exact rfl | exact hself) (by first | exact rfl | exact hq) (by first | exact N' | exact fun p hp => N' p (List.mem_cons_of_mem _ hp)))
theorem test_true {w : World} {A : Around} {s : Shared} {L : Addr} {Q : Bool → Shared → Prop}
    {name qual : Str} {params : Arguments} {st1 st2 : Stmt} {rest body : List Stmt} {test : Expr} {pos : Pos} {scope : Scope} {dV kV doc pm cdv ct oc : Value} {an od : Option Addr} {osl : Array (Option Value)}
    (ho : (Mine.hd.heap_39 w.params).lookup 722 = some ⟨oc, od, .func (fnOf name qual params (st1 :: st2 :: .While test body [] pos :: rest) scope dV kV doc pm an cdv ct), osl⟩)
    (h : Q true s) : wpAny (model prog w) A (PySem.isTrue test (envOf qual scope L 722 cdv) (eval test (envOf qual scope L 722 cdv))) Q FalseE s := by
  have ee := ho.symm.trans (by k_dflt k_is)
  cases ee
  k_steps
  exact h

abbrev sSP : Str := Str.ofString " "
abbrev sA : Str := Str.ofString "a"
abbrev sE : Str := Str.ofString ""
abbrev sQ : Str := Str.mk #[39]
abbrev sD : Str := Str.mk #[34]
/-- the loop of read_token upon the signs that lie ahead: state, token, quoted; at the end: state (none or a blank), token, quoted, how many signs were taken -/
inductive Go : Str → Str → Bool → List Nat → Option Str → Str → Bool → Nat → Prop
  | sp_end : Go sSP sE false [] none sE false 0
  | sp_q {cs f t q n} : Go sQ sE false cs f t q n → Go sSP sE false (39 :: cs) f t q (n + 1)
  | sp_d {cs f t q n} : Go sD sE false cs f t q n → Go sSP sE false (34 :: cs) f t q (n + 1)
  | sp_a {cs f t q n} : Go sA (Str.mk #[97]) false cs f t q n → Go sSP sE false (97 :: cs) f t q (n + 1)
  | q_close {tk b cs f t q n} : Go sA tk true cs f t q n → Go sQ tk b (39 :: cs) f t q (n + 1)
  | q_a {tk b cs f t q n} : tk.length < 100000 → Go sQ (tk ++ Str.mk #[97]) true cs f t q n → Go sQ tk b (97 :: cs) f t q (n + 1)
  | q_sp {tk b cs f t q n} : tk.length < 100000 → Go sQ (tk ++ Str.mk #[32]) true cs f t q n → Go sQ tk b (32 :: cs) f t q (n + 1)
  | q_d {tk b cs f t q n} : tk.length < 100000 → Go sQ (tk ++ Str.mk #[34]) true cs f t q n → Go sQ tk b (34 :: cs) f t q (n + 1)
  | d_close {tk b cs f t q n} : Go sA tk true cs f t q n → Go sD tk b (34 :: cs) f t q (n + 1)
  | d_q {tk b cs f t q n} : tk.length < 100000 → Go sD (tk ++ Str.mk #[39]) true cs f t q n → Go sD tk b (39 :: cs) f t q (n + 1)
  | a_end {tk b} : Go sA tk b [] none tk b 0
  | a_sp_t {tk cs} : tk.length < 100000 → Go sA tk true (32 :: cs) (some sSP) tk true 1
  | a_sp_f {cs} : Go sA (Str.mk #[97]) false (32 :: cs) (some sSP) (Str.mk #[97]) false 1
  | a_q {tk b cs f t q n} : Go sQ tk b cs f t q n → Go sA tk b (39 :: cs) f t q (n + 1)
  | a_d {tk b cs f t q n} : Go sD tk b cs f t q n → Go sA tk b (34 :: cs) f t q (n + 1)

def stOf (f : Option Str) (t : Tok) : Value := match f with
  | none => .none
  | some x => .str x t

theorem drop_head {α : Type} {l : List α} {i : Nat} {c : α} {cs : List α} (h : l.drop i = c :: cs) : l[i]? = some c ∧ l.drop (i + 1) = cs := by
  have e : (l.drop i)[0]? = some c := by rw [h]; rfl
  refine ⟨by simpa using e, ?_⟩
  have : (l.drop i).drop 1 = cs := by rw [h]; rfl
  rw [List.drop_drop] at this
  exact this
theorem drop_nil {α : Type} {l : List α} {i : Nat} (h : l.drop i = []) : l[i]? = none := by
  rw [List.getElem?_eq_none_iff]
  exact List.drop_eq_nil_iff.mp h

section
variable {w : World} {A : Around} {mg mb : Str → Option Value} {g : Heap} {L lex ld sio sd pb fs : Addr} {e e' : Nat → Int} {k k' u : Nat → Tok} {nl : Value} {buf wc : Str} {bt : Tok} {Q : Flow → Shared → Prop}
    {name qual : Str} {params : Arguments} {st1 st2 b1 b2 b3 : Stmt} {rest tl : List Stmt} {test : Expr} {pos : Pos} {scope : Scope} {dV kV doc pm cdv ct oc : Value} {an od : Option Addr} {osl : Array (Option Value)}
theorem loop_ok
    (ho : (Mine.hd.heap_39 w.params).lookup 722 = some ⟨oc, od, .func (fnOf name qual params (st1 :: st2 :: .While test (b1 :: b2 :: b3 :: tl) [] pos :: rest) scope dV kV doc pm an cdv ct), osl⟩)
    (KX : (Mine.hd.heap_39 w.params).In g) (TT : TopRead Mine.hd.view_39 LO mg mb g)
    (hlen : buf.length < 100000) (n1 : lex ≠ sd) (n2 : ld ≠ sd) (n3 : sio ≠ sd) (n4 : lex ≠ ld) (n5 : sio ≠ ld) (hroom : A.depth < 880)
    (hwa : (!(Builtin.Str.occurrences wc (Str.mk #[97]) 0 wc.length 1).isEmpty) = true) (hwq : (!(Builtin.Str.occurrences wc (Str.mk #[39]) 0 wc.length 1).isEmpty) = false) (hwd : (!(Builtin.Str.occurrences wc (Str.mk #[34]) 0 wc.length 1).isEmpty) = false)
    {st tk : Str} {q : Bool} {cs : List Nat} {f : Option Str} {t : Str} {q' : Bool} {n : Nat} (H : Go st tk q cs f t q' n) :
    ∀ {s : Shared} {m : Str → Option Value} {p : Int} {pt t1 t2 : Tok}, Fr g L s.heap m → News g L s.heap (led4 lex ld sio sd (lexD e k u sio pb fs wc (.str st t1) (.str tk t2)) (sioD e' k' nl buf bt p pt)) →
      m "self" = some (.ref lex) → m "quoted" = some (.bool q) → 0 ≤ p → buf.cps.toList.drop p.toNat = cs →
      (∀ h' tn m' t1' t2' pt', Fr g L h' m' → m' "self" = some (.ref lex) → m' "quoted" = some (.bool q') → News g L h' (led4 lex ld sio sd (lexD e k u sio pb fs wc (stOf f t1') (.str t t2')) (sioD e' k' nl buf bt (p + n) pt')) → Q .next { s with heap := h', toks := tn }) →
      WhlRest prog w A FalseE (envOf qual scope L 722 cdv) test (b1 :: b2 :: b3 :: tl) [] Q 1 s := by
  have one : ∀ {s : Shared} {m : Str → Option Value} {p : Int} {pt : Tok} {vst vtk : Value} {c : Nat} {cs : List Nat}, Fr g L s.heap m → News g L s.heap (led4 lex ld sio sd (lexD e k u sio pb fs wc vst vtk) (sioD e' k' nl buf bt p pt)) →
      m "self" = some (.ref lex) → 0 ≤ p → buf.cps.toList.drop p.toNat = c :: cs → (Str.mk #[c] == Str.ofString "\n") = false →
      (∀ h' tn t' pt', Fr g L h' (fun y => if y = "nextchar" then some (.str (Str.mk #[c]) t') else m y) → News g L h' (led4 lex ld sio sd (lexD e k u sio pb fs wc vst vtk) (sioD e' k' nl buf bt (p + 1) pt')) →
        wpAny (model prog w) A (execs tl (envOf qual scope L 722 cdv)) (WhlPost prog w A FalseE (envOf qual scope L 722 cdv) test (b1 :: b2 :: b3 :: tl) [] Q 0) FalseE { s with heap := h', toks := tn }) →
      WhlRest prog w A FalseE (envOf qual scope L 722 cdv) test (b1 :: b2 :: b3 :: tl) [] Q 1 s := by
    intro s m p pt vst vtk c cs F N hs hp hcs hnl h
    refine whl_turn .never (test_true ho (WhlIf.yes rfl ?_))
    exact turn_pre ho F KX TT N hs hp hlen n1 n2 n3 n4 n5 hroom (by rw [← Array.getElem?_toList]; exact (drop_head hcs).1) hnl h
  have stop : ∀ {s : Shared} {m : Str → Option Value} {p : Int} {pt : Tok} {vst vtk : Value}, Fr g L s.heap m → News g L s.heap (led4 lex ld sio sd (lexD e k u sio pb fs wc vst vtk) (sioD e' k' nl buf bt p pt)) →
      m "self" = some (.ref lex) → 0 ≤ p → buf.cps.toList.drop p.toNat = [] →
      (∀ h' tn t', Fr g L h' (fun y => if y = "nextchar" then some (.str (Str.ofString "") t') else m y) → News g L h' (led4 lex ld sio sd (lexD e k u sio pb fs wc vst vtk) (sioD e' k' nl buf bt p pt)) →
        wpAny (model prog w) A (execs tl (envOf qual scope L 722 cdv)) (WhlPost prog w A FalseE (envOf qual scope L 722 cdv) test (b1 :: b2 :: b3 :: tl) [] Q 0) FalseE { s with heap := h', toks := tn }) →
      WhlRest prog w A FalseE (envOf qual scope L 722 cdv) test (b1 :: b2 :: b3 :: tl) [] Q 1 s := by
    intro s m p pt vst vtk F N hs hp hcs h
    refine whl_turn .never (test_true ho (WhlIf.yes rfl ?_))
    exact turn_pre_end ho F KX TT N hs hp hlen n1 n2 n3 n4 n5 hroom (by rw [← Array.getElem?_toList]; exact drop_nil hcs) h
  have nx : ∀ {p : Int} {c : Nat} {cs : List Nat}, 0 ≤ p → buf.cps.toList.drop p.toNat = c :: cs → buf.cps.toList.drop (p + 1).toNat = cs := by
    intro p c cs hp hcs
    have e : (p + 1).toNat = p.toNat + 1 := by omega
    rw [e]; exact (drop_head hcs).2
  have sums : ∀ (p : Int) (n : Nat), p + ((n + 1 : Nat) : Int) = p + 1 + (n : Int) := by intro p n; omega
  induction H with
  | sp_end =>
    intro s m p pt t1 t2 F N hs hq hp hcs h
    refine stop F N hs hp hcs fun h' tn t' F' N' => ?_
    refine turn_sp_end ho F' KX TT N' hs hq rfl n1 n2 n4 n5 hroom fun h'' tn' m' F'' hs'' hq'' N'' => ?_
    exact h h'' tn' m' 0 t2 pt F'' hs'' hq'' (by rw [show p + ((0 : Nat) : Int) = p by omega]; exact N'')
  | sp_q _ ih =>
    intro s m p pt t1 t2 F N hs hq hp hcs h
    refine one F N hs hp hcs (by decide +kernel) fun h' tn t' pt' F' N' => ?_
    refine turn_sp_q ho F' KX TT N' hs hq rfl n1 n2 n4 n5 hroom hwq (by decide +kernel) (by decide +kernel) (by decide +kernel) (by decide +kernel) fun h'' tn' m' t1' F'' hs'' hq'' N'' => ?_
    refine ih (s := { s with heap := h'', toks := tn' }) F'' N'' hs'' hq'' (by omega) (nx hp hcs) fun h3 tn3 m3 a b c F3 hs3 hq3 N3 => ?_
    exact h h3 tn3 m3 a b c F3 hs3 hq3 (by rw [sums]; exact N3)
  | sp_d _ ih =>
    intro s m p pt t1 t2 F N hs hq hp hcs h
    refine one F N hs hp hcs (by decide +kernel) fun h' tn t' pt' F' N' => ?_
    refine turn_sp_q ho F' KX TT N' hs hq rfl n1 n2 n4 n5 hroom hwd (by decide +kernel) (by decide +kernel) (by decide +kernel) (by decide +kernel) fun h'' tn' m' t1' F'' hs'' hq'' N'' => ?_
    refine ih (s := { s with heap := h'', toks := tn' }) F'' N'' hs'' hq'' (by omega) (nx hp hcs) fun h3 tn3 m3 a b c F3 hs3 hq3 N3 => ?_
    exact h h3 tn3 m3 a b c F3 hs3 hq3 (by rw [sums]; exact N3)
  | sp_a _ ih =>
    intro s m p pt t1 t2 F N hs hq hp hcs h
    refine one F N hs hp hcs (by decide +kernel) fun h' tn t' pt' F' N' => ?_
    refine turn_sp_a ho F' KX TT N' hs hq rfl n1 n2 n4 n5 hroom hwa fun h'' tn' m' t1' t2' F'' hs'' hq'' N'' => ?_
    refine ih (s := { s with heap := h'', toks := tn' }) F'' N'' hs'' hq'' (by omega) (nx hp hcs) fun h3 tn3 m3 a b c F3 hs3 hq3 N3 => ?_
    exact h h3 tn3 m3 a b c F3 hs3 hq3 (by rw [sums]; exact N3)
  | q_close _ ih =>
    intro s m p pt t1 t2 F N hs hq hp hcs h
    refine one F N hs hp hcs (by decide +kernel) fun h' tn t' pt' F' N' => ?_
    refine turn_q_close ho F' KX TT N' hs hq rfl n1 n2 n4 n5 hroom (by decide +kernel) (by decide +kernel) (by decide +kernel) fun h'' tn' m' t1' F'' hs'' hq'' N'' => ?_
    refine ih (s := { s with heap := h'', toks := tn' }) F'' N'' hs'' hq'' (by omega) (nx hp hcs) fun h3 tn3 m3 a b c F3 hs3 hq3 N3 => ?_
    exact h h3 tn3 m3 a b c F3 hs3 hq3 (by rw [sums]; exact N3)
  | q_a hl _ ih =>
    intro s m p pt t1 t2 F N hs hq hp hcs h
    refine one F N hs hp hcs (by decide +kernel) fun h' tn t' pt' F' N' => ?_
    refine turn_q_in ho F' KX TT N' hs hq rfl n1 n2 n4 n5 hroom hl (by decide +kernel) (by decide +kernel) (by decide +kernel) (by decide +kernel) fun h'' tn' m' t2' F'' hs'' hq'' N'' => ?_
    refine ih (s := { s with heap := h'', toks := tn' }) F'' N'' hs'' hq'' (by omega) (nx hp hcs) fun h3 tn3 m3 a b c F3 hs3 hq3 N3 => ?_
    exact h h3 tn3 m3 a b c F3 hs3 hq3 (by rw [sums]; exact N3)
  | q_sp hl _ ih =>
    intro s m p pt t1 t2 F N hs hq hp hcs h
    refine one F N hs hp hcs (by decide +kernel) fun h' tn t' pt' F' N' => ?_
    refine turn_q_in ho F' KX TT N' hs hq rfl n1 n2 n4 n5 hroom hl (by decide +kernel) (by decide +kernel) (by decide +kernel) (by decide +kernel) fun h'' tn' m' t2' F'' hs'' hq'' N'' => ?_
    refine ih (s := { s with heap := h'', toks := tn' }) F'' N'' hs'' hq'' (by omega) (nx hp hcs) fun h3 tn3 m3 a b c F3 hs3 hq3 N3 => ?_
    exact h h3 tn3 m3 a b c F3 hs3 hq3 (by rw [sums]; exact N3)
  | q_d hl _ ih =>
    intro s m p pt t1 t2 F N hs hq hp hcs h
    refine one F N hs hp hcs (by decide +kernel) fun h' tn t' pt' F' N' => ?_
    refine turn_q_in ho F' KX TT N' hs hq rfl n1 n2 n4 n5 hroom hl (by decide +kernel) (by decide +kernel) (by decide +kernel) (by decide +kernel) fun h'' tn' m' t2' F'' hs'' hq'' N'' => ?_
    refine ih (s := { s with heap := h'', toks := tn' }) F'' N'' hs'' hq'' (by omega) (nx hp hcs) fun h3 tn3 m3 a b c F3 hs3 hq3 N3 => ?_
    exact h h3 tn3 m3 a b c F3 hs3 hq3 (by rw [sums]; exact N3)
  | d_close _ ih =>
    intro s m p pt t1 t2 F N hs hq hp hcs h
    refine one F N hs hp hcs (by decide +kernel) fun h' tn t' pt' F' N' => ?_
    refine turn_q_close ho F' KX TT N' hs hq rfl n1 n2 n4 n5 hroom (by decide +kernel) (by decide +kernel) (by decide +kernel) fun h'' tn' m' t1' F'' hs'' hq'' N'' => ?_
    refine ih (s := { s with heap := h'', toks := tn' }) F'' N'' hs'' hq'' (by omega) (nx hp hcs) fun h3 tn3 m3 a b c F3 hs3 hq3 N3 => ?_
    exact h h3 tn3 m3 a b c F3 hs3 hq3 (by rw [sums]; exact N3)
  | d_q hl _ ih =>
    intro s m p pt t1 t2 F N hs hq hp hcs h
    refine one F N hs hp hcs (by decide +kernel) fun h' tn t' pt' F' N' => ?_
    refine turn_q_in ho F' KX TT N' hs hq rfl n1 n2 n4 n5 hroom hl (by decide +kernel) (by decide +kernel) (by decide +kernel) (by decide +kernel) fun h'' tn' m' t2' F'' hs'' hq'' N'' => ?_
    refine ih (s := { s with heap := h'', toks := tn' }) F'' N'' hs'' hq'' (by omega) (nx hp hcs) fun h3 tn3 m3 a b c F3 hs3 hq3 N3 => ?_
    exact h h3 tn3 m3 a b c F3 hs3 hq3 (by rw [sums]; exact N3)
  | a_end =>
    intro s m p pt t1 t2 F N hs hq hp hcs h
    refine stop F N hs hp hcs fun h' tn t' F' N' => ?_
    refine turn_a_end ho F' KX TT N' hs hq rfl n1 n2 n4 n5 hroom fun h'' tn' m' F'' hs'' hq'' N'' => ?_
    exact h h'' tn' m' 0 t2 pt F'' hs'' hq'' (by rw [show p + ((0 : Nat) : Int) = p by omega]; exact N'')
  | a_sp_t hl =>
    intro s m p pt t1 t2 F N hs hq hp hcs h
    refine one F N hs hp hcs (by decide +kernel) fun h' tn t' pt' F' N' => ?_
    refine turn_a_sp_t ho F' KX TT N' hs hq rfl n1 n2 n4 n5 hroom hl fun h'' tn' m' t1' F'' hs'' hq'' N'' => ?_
    exact h h'' tn' m' t1' t2 pt' F'' hs'' hq'' N''
  | a_sp_f =>
    intro s m p pt t1 t2 F N hs hq hp hcs h
    refine one F N hs hp hcs (by decide +kernel) fun h' tn t' pt' F' N' => ?_
    refine turn_a_sp_f ho F' KX TT N' hs hq rfl n1 n2 n4 n5 hroom fun h'' tn' m' t1' F'' hs'' hq'' N'' => ?_
    exact h h'' tn' m' t1' t2 pt' F'' hs'' hq'' N''
  | a_q _ ih =>
    intro s m p pt t1 t2 F N hs hq hp hcs h
    refine one F N hs hp hcs (by decide +kernel) fun h' tn t' pt' F' N' => ?_
    refine turn_a_q ho F' KX TT N' hs hq rfl n1 n2 n4 n5 hroom (by decide +kernel) (by decide +kernel) (by decide +kernel) fun h'' tn' m' t1' F'' hs'' hq'' N'' => ?_
    refine ih (s := { s with heap := h'', toks := tn' }) F'' N'' hs'' hq'' (by omega) (nx hp hcs) fun h3 tn3 m3 a b c F3 hs3 hq3 N3 => ?_
    exact h h3 tn3 m3 a b c F3 hs3 hq3 (by rw [sums]; exact N3)
  | a_d _ ih =>
    intro s m p pt t1 t2 F N hs hq hp hcs h
    refine one F N hs hp hcs (by decide +kernel) fun h' tn t' pt' F' N' => ?_
    refine turn_a_q ho F' KX TT N' hs hq rfl n1 n2 n4 n5 hroom (by decide +kernel) (by decide +kernel) (by decide +kernel) fun h'' tn' m' t1' F'' hs'' hq'' N'' => ?_
    refine ih (s := { s with heap := h'', toks := tn' }) F'' N'' hs'' hq'' (by omega) (nx hp hcs) fun h3 tn3 m3 a b c F3 hs3 hq3 N3 => ?_
    exact h h3 tn3 m3 a b c F3 hs3 hq3 (by rw [sums]; exact N3)
end
theorem ite_no {Q : Value → Shared → Prop} {s : Shared} {b : Bool} {x y : Value} (hb : b = false) (h : Q (if b = true then x else y) s) : Q y s := by subst hb; exact h
theorem ite_yes {Q : Value → Shared → Prop} {s : Shared} {b : Bool} {x y : Value} (hb : b = true) (h : Q (if b = true then x else y) s) : Q x s := by subst hb; exact h
theorem lineC5_1 : True := by
  (k_with "exec While Constant cons nil" => (k_here; k_dflt (refine' whl_start 1 (loop_ok ?zqho ?zqKX ?zqTT ?zql ?zqn1 ?zqn2 ?zqn3 ?zqn4 ?zqn5 ?zqr ?zqwa ?zqwq ?zqwd ?zqH ?zqF ?zqN ?zqhs ?zqhq ?zqhp ?zqhcs ?_); (case zqF => k_asm); (case zqN => k_asm); (case zqKX => k_asm); (case zqTT => k_asm); (case zqH => assumption); (case zql => assumption); (case zqn1 => assumption); (case zqn2 => assumption); (case zqn3 => assumption); (case zqn4 => assumption); (case zqn5 => assumption); (case zqr => k_room); (case zqwa => assumption); (case zqwq => assumption); (case zqwd => assumption); (case zqhs => exact rfl); (case zqhq => exact rfl); (case zqhp => assumption); (case zqhcs => assumption); (case zqho => k_is)); intro _ _ _ _ _ _ _ _ _ _; (try dsimp only); (try k_sweep)))
  trivial
set_option maxHeartbeats 4000000 in
theorem read_token_K {w : World} {A : Around} {s : Shared} {mg mb : Str → Option Value} {h₀ : Heap} {L : Addr} {m : Str → Option Value} {E : Value → Shared → Prop} {Q : Value → Shared → Prop} {lex ld sio sd pb fs : Addr} {e e' : Nat → Int} {k k' u : Nat → Tok} {nl : Value} {buf wc : Str} {bt : Tok} {p : Int} {pt t1 t2 : Tok}
    {cs : List Nat} {f : Option Str} {t : Str} {q' : Bool} {n : Nat} (H : Go sSP sE false cs f t q' n)
    (F : Fr h₀ L s.heap m) (X : (Mine.hd.heap_39 w.params).In h₀) (T : TopRead Mine.hd.view_39 LO mg mb h₀) (N : News h₀ L s.heap (led4 lex ld sio sd (lexD e k u sio pb fs wc (.str sSP t1) (.str sE t2)) (sioD e' k' nl buf bt p pt)))
    (hp0 : 0 ≤ p) (hcs : buf.cps.toList.drop p.toNat = cs) (hlen : buf.length < 100000) (n1 : lex ≠ sd) (n2 : ld ≠ sd) (n3 : sio ≠ sd) (n4 : lex ≠ ld) (n5 : sio ≠ ld) (hroom : A.depth < 870)
    (hwa : (!(Builtin.Str.occurrences wc (Str.mk #[97]) 0 wc.length 1).isEmpty) = true) (hwq : (!(Builtin.Str.occurrences wc (Str.mk #[39]) 0 wc.length 1).isEmpty) = false) (hwd : (!(Builtin.Str.occurrences wc (Str.mk #[34]) 0 wc.length 1).isEmpty) = false)
    (h : ∀ h' tk tr t1' t2' pt', Fr h₀ L h' m → News h₀ L h' (led4 lex ld sio sd (lexD e k u sio pb fs wc (stOf f t1') (.str sE t2')) (sioD e' k' nl buf bt (p + n) pt')) → Q (if (!q' && (t == sE)) = true then .none else .str t tr) { s with heap := h', toks := tk }) :
    wpAny (model prog w) A (call (.ref 722) [.ref lex]) Q E s := by
  have n1' := neN n1
  have n2' := neN n2
  have n4' := neN n4
  have n5' := neN n5
  k_dflt (refine' wpAny_call (code_defM ?k2 ?k3 ?k4 ?k5 ?k6 ?k7 ?k8 ?k9 ?kB ?_ ?c2 ?c3 ?c4 ?c5))
  case k2 => exact F
  case k3 => exact X
  case k4 => exact N
  case k5 => exact T
  case k6 => k_dflt k_is
  case k7 => k_dflt k_is
  case k8 => k_room
  case k9 => exact BindsTo.of_eq rfl
  case kB => exact locs rfl
  case c2 => exact rfl
  case c3 => exact rfl
  case c4 => exact rfl
  case c5 => decide
  intro g' L' h' FG' F' N' X' T'
  (try dsimp only)
  k_steps
  all_goals (
    rename Fr h₀ _ _ _ => Fz
    rename News h₀ _ _ _ => Nz)
  · rename q' = true => hh
    exact ite_no (by rw [hh]; rfl) (h _ _ _ _ _ _ Fz Nz)
  · rename q' = false => hh
    rename (t == _) = true => hh2
    exact ite_yes (by rw [hh, hh2]; rfl) (h _ _ 0 _ _ _ Fz Nz)
  · rename q' = false => hh
    rename (t == _) = false => hh2
    exact ite_no (by rw [hh, hh2]; rfl) (h _ _ _ _ _ _ Fz Nz)
section
variable {w : World} {A : Around} {s : Shared} {mg mb : Str → Option Value} {h₀ : Heap} {L : Addr} {m : Str → Option Value} {E : Value → Shared → Prop} {Q : Value → Shared → Prop} {lex ld sio sd pb fs : Addr} {e e' : Nat → Int} {k k' u : Nat → Tok} {nl : Value} {buf wc : Str} {bt : Tok} {p : Int} {pt t1 t2 : Tok}
    {cs : List Nat} {f : Option Str} {t : Str} {q' : Bool} {n : Nat}
theorem read_token_none (H : Go sSP sE false cs f sE false n)
    (F : Fr h₀ L s.heap m) (X : (Mine.hd.heap_39 w.params).In h₀) (T : TopRead Mine.hd.view_39 LO mg mb h₀) (N : News h₀ L s.heap (led4 lex ld sio sd (lexD e k u sio pb fs wc (.str sSP t1) (.str sE t2)) (sioD e' k' nl buf bt p pt)))
    (hp0 : 0 ≤ p) (hcs : buf.cps.toList.drop p.toNat = cs) (hlen : buf.length < 100000) (n1 : lex ≠ sd) (n2 : ld ≠ sd) (n3 : sio ≠ sd) (n4 : lex ≠ ld) (n5 : sio ≠ ld) (hroom : A.depth < 870)
    (hwa : (!(Builtin.Str.occurrences wc (Str.mk #[97]) 0 wc.length 1).isEmpty) = true) (hwq : (!(Builtin.Str.occurrences wc (Str.mk #[39]) 0 wc.length 1).isEmpty) = false) (hwd : (!(Builtin.Str.occurrences wc (Str.mk #[34]) 0 wc.length 1).isEmpty) = false)
    (h : ∀ h' tk t1' t2' pt', Fr h₀ L h' m → News h₀ L h' (led4 lex ld sio sd (lexD e k u sio pb fs wc (stOf f t1') (.str sE t2')) (sioD e' k' nl buf bt (p + n) pt')) → Q .none { s with heap := h', toks := tk }) :
    wpAny (model prog w) A (call (.ref 722) [.ref lex]) Q E s :=
  read_token_K H F X T N hp0 hcs hlen n1 n2 n3 n4 n5 hroom hwa hwq hwd fun h' tk tr t1' t2' pt' F' N' => by
    rw [if_pos (show (!false && (sE == sE)) = true by decide +kernel)]
    exact h h' tk t1' t2' pt' F' N'
theorem read_token_str (H : Go sSP sE false cs f t q' n) (hne : (!q' && (t == sE)) = false)
    (F : Fr h₀ L s.heap m) (X : (Mine.hd.heap_39 w.params).In h₀) (T : TopRead Mine.hd.view_39 LO mg mb h₀) (N : News h₀ L s.heap (led4 lex ld sio sd (lexD e k u sio pb fs wc (.str sSP t1) (.str sE t2)) (sioD e' k' nl buf bt p pt)))
    (hp0 : 0 ≤ p) (hcs : buf.cps.toList.drop p.toNat = cs) (hlen : buf.length < 100000) (n1 : lex ≠ sd) (n2 : ld ≠ sd) (n3 : sio ≠ sd) (n4 : lex ≠ ld) (n5 : sio ≠ ld) (hroom : A.depth < 870)
    (hwa : (!(Builtin.Str.occurrences wc (Str.mk #[97]) 0 wc.length 1).isEmpty) = true) (hwq : (!(Builtin.Str.occurrences wc (Str.mk #[39]) 0 wc.length 1).isEmpty) = false) (hwd : (!(Builtin.Str.occurrences wc (Str.mk #[34]) 0 wc.length 1).isEmpty) = false)
    (h : ∀ h' tk tr t1' t2' pt', Fr h₀ L h' m → News h₀ L h' (led4 lex ld sio sd (lexD e k u sio pb fs wc (stOf f t1') (.str sE t2')) (sioD e' k' nl buf bt (p + n) pt')) → Q (.str t tr) { s with heap := h', toks := tk }) :
    wpAny (model prog w) A (call (.ref 722) [.ref lex]) Q E s :=
  read_token_K H F X T N hp0 hcs hlen n1 n2 n3 n4 n5 hroom hwa hwq hwd fun h' tk tr t1' t2' pt' F' N' => by
    rw [if_neg (by rw [hne]; exact Bool.false_ne_true)]
    exact h h' tk tr t1' t2' pt' F' N'
end
theorem lineC6_1 : True := by
  (k_with "call ref" => (k_here; (with_reducible show wpAny _ _ (call (Value.ref 722) _) _ _ _); k_dflt first | ((refine' read_token_none ?zqH ?zqF ?zqX ?zqT ?zqN ?zqp ?zqcs ?zql ?zqn1 ?zqn2 ?zqn3 ?zqn4 ?zqn5 ?zqr ?zqwa ?zqwq ?zqwd ?_); (case zqH => assumption); (case zqF => k_asm); (case zqX => k_asm); (case zqT => k_asm); (case zqN => k_asm); (case zqp => assumption); (case zqcs => assumption); (case zql => assumption); (case zqn1 => assumption); (case zqn2 => assumption); (case zqn3 => assumption); (case zqn4 => assumption); (case zqn5 => assumption); (case zqr => k_room); (case zqwa => assumption); (case zqwq => assumption); (case zqwd => assumption); intro zh' ztk' zt1' zt2' zpt' zF' zN'; (try k_sweep)) | ((refine' read_token_str ?zqH ?zqne ?zqF ?zqX ?zqT ?zqN ?zqp ?zqcs ?zql ?zqn1 ?zqn2 ?zqn3 ?zqn4 ?zqn5 ?zqr ?zqwa ?zqwq ?zqwd ?_); (case zqH => assumption); (case zqne => assumption); (case zqF => k_asm); (case zqX => k_asm); (case zqT => k_asm); (case zqN => k_asm); (case zqp => assumption); (case zqcs => assumption); (case zql => assumption); (case zqn1 => assumption); (case zqn2 => assumption); (case zqn3 => assumption); (case zqn4 => assumption); (case zqn5 => assumption); (case zqr => k_room); (case zqwa => assumption); (case zqwq => assumption); (case zqwd => assumption); intro zh' ztk' _ zt1' zt2' zpt' zF' zN'; (try k_sweep))))
  trivial
set_option maxHeartbeats 4000000 in
theorem get_token_none {w : World} {A : Around} {s : Shared} {mg mb : Str → Option Value} {h₀ : Heap} {L : Addr} {m : Str → Option Value} {E : Value → Shared → Prop} {Q : Value → Shared → Prop} {lex ld sio sd pb fs : Addr} {e e' : Nat → Int} {k k' u : Nat → Tok} {nl : Value} {buf wc : Str} {bt : Tok} {p : Int} {pt t1 t2 : Tok}
    {cs : List Nat} {f : Option Str} {n : Nat} (H : Go sSP sE false cs f sE false n) (hpb : IsDeque0 h₀ pb) (hfs : IsDeque0 h₀ fs)
    (F : Fr h₀ L s.heap m) (X : (Mine.hd.heap_39 w.params).In h₀) (T : TopRead Mine.hd.view_39 LO mg mb h₀) (N : News h₀ L s.heap (led4 lex ld sio sd (lexD e k u sio pb fs wc (.str sSP t1) (.str sE t2)) (sioD e' k' nl buf bt p pt)))
    (hp0 : 0 ≤ p) (hcs : buf.cps.toList.drop p.toNat = cs) (hlen : buf.length < 100000) (n1 : lex ≠ sd) (n2 : ld ≠ sd) (n3 : sio ≠ sd) (n4 : lex ≠ ld) (n5 : sio ≠ ld) (hroom : A.depth < 860)
    (hwa : (!(Builtin.Str.occurrences wc (Str.mk #[97]) 0 wc.length 1).isEmpty) = true) (hwq : (!(Builtin.Str.occurrences wc (Str.mk #[39]) 0 wc.length 1).isEmpty) = false) (hwd : (!(Builtin.Str.occurrences wc (Str.mk #[34]) 0 wc.length 1).isEmpty) = false)
    (h : ∀ h' tk t1' t2' pt', Fr h₀ L h' m → News h₀ L h' (led4 lex ld sio sd (lexD e k u sio pb fs wc (stOf f t1') (.str sE t2')) (sioD e' k' nl buf bt (p + n) pt')) → Q .none { s with heap := h', toks := tk }) :
    wpAny (model prog w) A (call (.ref 715) [.ref lex]) Q E s := by
  have n1' := neN n1
  have n2' := neN n2
  have n4' := neN n4
  have n5' := neN n5
  k_dflt (refine' wpAny_call (code_defM ?k2 ?k3 ?k4 ?k5 ?k6 ?k7 ?k8 ?k9 ?kB ?_ ?c2 ?c3 ?c4 ?c5))
  case k2 => exact F
  case k3 => exact X
  case k4 => exact N
  case k5 => exact T
  case k6 => k_dflt k_is
  case k7 => k_dflt k_is
  case k8 => k_room
  case k9 => exact BindsTo.of_eq rfl
  case kB => exact locs rfl
  case c2 => exact rfl
  case c3 => exact rfl
  case c4 => exact rfl
  case c5 => decide
  intro g' L' h' FG' F' N' X' T'
  have hpb' := hpb.keeps FG'.keep
  have hfs' := hfs.keeps FG'.keep
  (try dsimp only)
  k_steps
  rename Fr h₀ _ _ _ => Fz
  rename News h₀ _ _ _ => Nz
  exact h _ _ _ _ _ Fz Nz
set_option maxHeartbeats 4000000 in
theorem get_token_str {w : World} {A : Around} {s : Shared} {mg mb : Str → Option Value} {h₀ : Heap} {L : Addr} {m : Str → Option Value} {E : Value → Shared → Prop} {Q : Value → Shared → Prop} {lex ld sio sd pb fs : Addr} {e e' : Nat → Int} {k k' u : Nat → Tok} {nl : Value} {buf wc : Str} {bt : Tok} {p : Int} {pt t1 t2 : Tok}
    {cs : List Nat} {f : Option Str} {t : Str} {q' : Bool} {n : Nat} (H : Go sSP sE false cs f t q' n) (hne : (!q' && (t == sE)) = false) (hpb : IsDeque0 h₀ pb) (hfs : IsDeque0 h₀ fs)
    (F : Fr h₀ L s.heap m) (X : (Mine.hd.heap_39 w.params).In h₀) (T : TopRead Mine.hd.view_39 LO mg mb h₀) (N : News h₀ L s.heap (led4 lex ld sio sd (lexD e k u sio pb fs wc (.str sSP t1) (.str sE t2)) (sioD e' k' nl buf bt p pt)))
    (hp0 : 0 ≤ p) (hcs : buf.cps.toList.drop p.toNat = cs) (hlen : buf.length < 100000) (n1 : lex ≠ sd) (n2 : ld ≠ sd) (n3 : sio ≠ sd) (n4 : lex ≠ ld) (n5 : sio ≠ ld) (hroom : A.depth < 860)
    (hwa : (!(Builtin.Str.occurrences wc (Str.mk #[97]) 0 wc.length 1).isEmpty) = true) (hwq : (!(Builtin.Str.occurrences wc (Str.mk #[39]) 0 wc.length 1).isEmpty) = false) (hwd : (!(Builtin.Str.occurrences wc (Str.mk #[34]) 0 wc.length 1).isEmpty) = false)
    (h : ∀ h' tk tr t1' t2' pt', Fr h₀ L h' m → News h₀ L h' (led4 lex ld sio sd (lexD e k u sio pb fs wc (stOf f t1') (.str sE t2')) (sioD e' k' nl buf bt (p + n) pt')) → Q (.str t tr) { s with heap := h', toks := tk }) :
    wpAny (model prog w) A (call (.ref 715) [.ref lex]) Q E s := by
  have n1' := neN n1
  have n2' := neN n2
  have n4' := neN n4
  have n5' := neN n5
  k_dflt (refine' wpAny_call (code_defM ?k2 ?k3 ?k4 ?k5 ?k6 ?k7 ?k8 ?k9 ?kB ?_ ?c2 ?c3 ?c4 ?c5))
  case k2 => exact F
  case k3 => exact X
  case k4 => exact N
  case k5 => exact T
  case k6 => k_dflt k_is
  case k7 => k_dflt k_is
  case k8 => k_room
  case k9 => exact BindsTo.of_eq rfl
  case kB => exact locs rfl
  case c2 => exact rfl
  case c3 => exact rfl
  case c4 => exact rfl
  case c5 => decide
  intro g' L' h' FG' F' N' X' T'
  have hpb' := hpb.keeps FG'.keep
  have hfs' := hfs.keeps FG'.keep
  (try dsimp only)
  k_steps
  rename Fr h₀ _ _ _ => Fz
  rename News h₀ _ _ _ => Nz
  exact h _ _ _ _ _ _ Fz Nz
set_option maxHeartbeats 4000000 in
theorem turn_none {w : World} {A : Around} {s : Shared} {mg mb : Str → Option Value} {g : Heap} {L : Addr} {m : Str → Option Value} {Q : Flow → Shared → Prop} {lex ld sio sd pb fs : Addr} {e : Nat → Int} {k u : Nat → Tok} {o4 : Obj} {wc : Str} {t0 t2 : Tok}
    {name qual : Str} {params : Arguments} {st1 st2 b1 b2 b3 : Stmt} {rest tl : List Stmt} {test : Expr} {pos : Pos} {scope : Scope} {dV kV doc pm cdv ct oc : Value} {an od : Option Addr} {osl : Array (Option Value)}
    (ho : (Mine.hd.heap_39 w.params).lookup 722 = some ⟨oc, od, .func (fnOf name qual params (st1 :: st2 :: .While test (b1 :: b2 :: b3 :: tl) [] pos :: rest) scope dV kV doc pm an cdv ct), osl⟩)
    (F : Fr g L s.heap m) (KX : (Mine.hd.heap_39 w.params).In g) (TT : TopRead Mine.hd.view_39 LO mg mb g) (N : News g L s.heap (led4 lex ld sio sd (lexD e k u sio pb fs wc (.none) (.str (Str.ofString "") t2)) o4))
    (hself : m "self" = some (.ref lex)) (hq : m "quoted" = some (.bool false)) (hn : m "nextchar" = some (.str (Str.ofString "") t0))
    (n1 : lex ≠ sd) (n2 : ld ≠ sd) (n4 : lex ≠ ld) (n5 : sio ≠ ld) (hroom : A.depth < 880)
    (h : ∀ h' tn m' t2', Fr g L h' m' → m' "self" = some (.ref lex) → m' "quoted" = some (.bool false) → News g L h' (led4 lex ld sio sd (lexD e k u sio pb fs wc (.none) (.str (Str.ofString "") t2')) o4) → Q .brk { s with heap := h', toks := tn }) :
    wpAny (model prog w) A (execs tl (envOf qual scope L 722 cdv)) Q FalseE s := by
  have ee := ho.symm.trans (by k_dflt k_is)
  cases ee
  clear ho
  have n1' := neN n1
  have n2' := neN n2
  have n4' := neN n4
  have n5' := neN n5
  k_steps
  all_goals (
    rename Fr g _ _ _ => F'
    rename News g _ _ _ => N'
    exact h _ _ _ _ F' (by first | exact rfl | exact hself) (by first | exact rfl | exact hq) (by first | exact N' | exact fun p hp => N' p (List.mem_cons_of_mem _ hp)))
section
variable {w : World} {A : Around} {mg mb : Str → Option Value} {g : Heap} {L lex ld sio sd pb fs : Addr} {e e' : Nat → Int} {k k' u : Nat → Tok} {nl : Value} {buf wc : Str} {bt : Tok} {Q : Flow → Shared → Prop}
    {name qual : Str} {params : Arguments} {st1 st2 b1 b2 b3 : Stmt} {rest tl : List Stmt} {test : Expr} {pos : Pos} {scope : Scope} {dV kV doc pm cdv ct oc : Value} {an od : Option Addr} {osl : Array (Option Value)}
theorem loop_none
    (ho : (Mine.hd.heap_39 w.params).lookup 722 = some ⟨oc, od, .func (fnOf name qual params (st1 :: st2 :: .While test (b1 :: b2 :: b3 :: tl) [] pos :: rest) scope dV kV doc pm an cdv ct), osl⟩)
    (KX : (Mine.hd.heap_39 w.params).In g) (TT : TopRead Mine.hd.view_39 LO mg mb g)
    (hlen : buf.length < 100000) (n1 : lex ≠ sd) (n2 : ld ≠ sd) (n3 : sio ≠ sd) (n4 : lex ≠ ld) (n5 : sio ≠ ld) (hroom : A.depth < 880)
    {s : Shared} {m : Str → Option Value} {p : Int} {pt t2 : Tok} (F : Fr g L s.heap m) (N : News g L s.heap (led4 lex ld sio sd (lexD e k u sio pb fs wc (.none) (.str sE t2)) (sioD e' k' nl buf bt p pt)))
    (hs : m "self" = some (.ref lex)) (hq : m "quoted" = some (.bool false)) (hp : 0 ≤ p) (hcs : buf.cps.toList.drop p.toNat = [])
    (h : ∀ h' tn m' t2', Fr g L h' m' → m' "self" = some (.ref lex) → m' "quoted" = some (.bool false) → News g L h' (led4 lex ld sio sd (lexD e k u sio pb fs wc (.none) (.str sE t2')) (sioD e' k' nl buf bt p pt)) → Q .next { s with heap := h', toks := tn }) :
      WhlRest prog w A FalseE (envOf qual scope L 722 cdv) test (b1 :: b2 :: b3 :: tl) [] Q 1 s := by
  refine whl_turn .never (test_true ho (WhlIf.yes rfl ?_))
  refine turn_pre_end ho F KX TT N hs hp hlen n1 n2 n3 n4 n5 hroom (by rw [← Array.getElem?_toList]; exact drop_nil hcs) fun h' tn t' F' N' => ?_
  refine turn_none ho F' KX TT N' hs hq rfl n1 n2 n4 n5 hroom fun h'' tn' m' t2' F'' hs'' hq'' N'' => ?_
  exact h h'' tn' m' t2' F'' hs'' hq'' N''
end
theorem lineC7_1 : True := by
  (k_with "exec While Constant cons nil" => (k_here; k_dflt (refine' whl_start 1 (loop_none ?zqho ?zqKX ?zqTT ?zql ?zqn1 ?zqn2 ?zqn3 ?zqn4 ?zqn5 ?zqr ?zqF ?zqN ?zqhs ?zqhq ?zqhp ?zqhcs ?_); (case zqF => k_asm); (case zqN => k_asm); (case zqKX => k_asm); (case zqTT => k_asm); (case zql => assumption); (case zqn1 => assumption); (case zqn2 => assumption); (case zqn3 => assumption); (case zqn4 => assumption); (case zqn5 => assumption); (case zqr => k_room); (case zqhs => exact rfl); (case zqhq => exact rfl); (case zqhp => assumption); (case zqhcs => assumption); (case zqho => k_is)); intro _ _ _ _ _ _ _ _; (try dsimp only); (try k_sweep)))
  trivial
set_option maxHeartbeats 4000000 in
theorem read_token_eof {w : World} {A : Around} {s : Shared} {mg mb : Str → Option Value} {h₀ : Heap} {L : Addr} {m : Str → Option Value} {E : Value → Shared → Prop} {Q : Value → Shared → Prop} {lex ld sio sd pb fs : Addr} {e e' : Nat → Int} {k k' u : Nat → Tok} {nl : Value} {buf wc : Str} {bt : Tok} {p : Int} {pt t2 : Tok}
    (F : Fr h₀ L s.heap m) (X : (Mine.hd.heap_39 w.params).In h₀) (T : TopRead Mine.hd.view_39 LO mg mb h₀) (N : News h₀ L s.heap (led4 lex ld sio sd (lexD e k u sio pb fs wc (.none) (.str sE t2)) (sioD e' k' nl buf bt p pt)))
    (hp0 : 0 ≤ p) (hcs : buf.cps.toList.drop p.toNat = []) (hlen : buf.length < 100000) (n1 : lex ≠ sd) (n2 : ld ≠ sd) (n3 : sio ≠ sd) (n4 : lex ≠ ld) (n5 : sio ≠ ld) (hroom : A.depth < 870)
    (h : ∀ h' tk t2', Fr h₀ L h' m → News h₀ L h' (led4 lex ld sio sd (lexD e k u sio pb fs wc (.none) (.str sE t2')) (sioD e' k' nl buf bt p pt)) → Q .none { s with heap := h', toks := tk }) :
    wpAny (model prog w) A (call (.ref 722) [.ref lex]) Q E s := by
  have n1' := neN n1
  have n2' := neN n2
  have n4' := neN n4
  have n5' := neN n5
  k_dflt (refine' wpAny_call (code_defM ?k2 ?k3 ?k4 ?k5 ?k6 ?k7 ?k8 ?k9 ?kB ?_ ?c2 ?c3 ?c4 ?c5))
  case k2 => exact F
  case k3 => exact X
  case k4 => exact N
  case k5 => exact T
  case k6 => k_dflt k_is
  case k7 => k_dflt k_is
  case k8 => k_room
  case k9 => exact BindsTo.of_eq rfl
  case kB => exact locs rfl
  case c2 => exact rfl
  case c3 => exact rfl
  case c4 => exact rfl
  case c5 => decide
  intro g' L' h' FG' F' N' X' T'
  (try dsimp only)
  k_steps
  rename Fr h₀ _ _ _ => Fz
  rename News h₀ _ _ _ => Nz
  exact h _ _ _ Fz Nz
theorem lineC7_2 : True := by
  (k_with "call ref" => (k_here; (with_reducible show wpAny _ _ (call (Value.ref 722) _) _ _ _); k_dflt ((refine' read_token_eof ?zqF ?zqX ?zqT ?zqN ?zqp ?zqcs ?zql ?zqn1 ?zqn2 ?zqn3 ?zqn4 ?zqn5 ?zqr ?_); (case zqF => k_asm); (case zqX => k_asm); (case zqT => k_asm); (case zqN => k_asm); (case zqp => assumption); (case zqcs => assumption); (case zql => assumption); (case zqn1 => assumption); (case zqn2 => assumption); (case zqn3 => assumption); (case zqn4 => assumption); (case zqn5 => assumption); (case zqr => k_room); intro _ _ _ _ _; (try k_sweep))))
  trivial
set_option maxHeartbeats 4000000 in
theorem get_token_eof {w : World} {A : Around} {s : Shared} {mg mb : Str → Option Value} {h₀ : Heap} {L : Addr} {m : Str → Option Value} {E : Value → Shared → Prop} {Q : Value → Shared → Prop} {lex ld sio sd pb fs : Addr} {e e' : Nat → Int} {k k' u : Nat → Tok} {nl : Value} {buf wc : Str} {bt : Tok} {p : Int} {pt t2 : Tok}
    (hpb : IsDeque0 h₀ pb) (hfs : IsDeque0 h₀ fs)
    (F : Fr h₀ L s.heap m) (X : (Mine.hd.heap_39 w.params).In h₀) (T : TopRead Mine.hd.view_39 LO mg mb h₀) (N : News h₀ L s.heap (led4 lex ld sio sd (lexD e k u sio pb fs wc (.none) (.str sE t2)) (sioD e' k' nl buf bt p pt)))
    (hp0 : 0 ≤ p) (hcs : buf.cps.toList.drop p.toNat = []) (hlen : buf.length < 100000) (n1 : lex ≠ sd) (n2 : ld ≠ sd) (n3 : sio ≠ sd) (n4 : lex ≠ ld) (n5 : sio ≠ ld) (hroom : A.depth < 860)
    (h : ∀ h' tk t2', Fr h₀ L h' m → News h₀ L h' (led4 lex ld sio sd (lexD e k u sio pb fs wc (.none) (.str sE t2')) (sioD e' k' nl buf bt p pt)) → Q .none { s with heap := h', toks := tk }) :
    wpAny (model prog w) A (call (.ref 715) [.ref lex]) Q E s := by
  have n1' := neN n1
  have n2' := neN n2
  have n4' := neN n4
  have n5' := neN n5
  k_dflt (refine' wpAny_call (code_defM ?k2 ?k3 ?k4 ?k5 ?k6 ?k7 ?k8 ?k9 ?kB ?_ ?c2 ?c3 ?c4 ?c5))
  case k2 => exact F
  case k3 => exact X
  case k4 => exact N
  case k5 => exact T
  case k6 => k_dflt k_is
  case k7 => k_dflt k_is
  case k8 => k_room
  case k9 => exact BindsTo.of_eq rfl
  case kB => exact locs rfl
  case c2 => exact rfl
  case c3 => exact rfl
  case c4 => exact rfl
  case c5 => decide
  intro g' L' h' FG' F' N' X' T'
  have hpb' := hpb.keeps FG'.keep
  have hfs' := hfs.keeps FG'.keep
  (try dsimp only)
  k_steps
  rename Fr h₀ _ _ _ => Fz
  rename News h₀ _ _ _ => Nz
  exact h _ _ _ Fz Nz
/-- what stands stays, but for the named addresses ds; the frames fs may change their slots -/
def KeepsX (fs ds : List Addr) (s s' : Shared) : Prop := ∃ h' tk, s' = { s with heap := h', toks := tk } ∧ (∀ b o, b ∉ fs → b ∉ ds → s.heap.get? b = some o → h'.get? b = some o) ∧
  ∀ b o, b ∈ fs → b ∉ ds → s.heap.get? b = some o → (∀ vs, o.data ≠ .fields vs) → ∃ sl, h'.get? b = some { o with slots := sl }
theorem KeepsX.of_but {fs ds : List Addr} {s s' : Shared} (h : KeepsBut ds s s') : KeepsX fs ds s s' := by
  obtain ⟨h', tk, rfl, hk⟩ := h
  exact ⟨h', tk, rfl, fun b o _ nb e => hk b o nb e, fun b o _ nb e _ => ⟨o.slots, hk b o nb e⟩⟩
theorem KeepsX.trans {fs ds : List Addr} {s s' s'' : Shared} (h : KeepsX fs ds s s') (k : KeepsX fs ds s' s'') : KeepsX fs ds s s'' := by
  obtain ⟨h', tk, rfl, a, b⟩ := h
  obtain ⟨h'', tk', rfl, c, d⟩ := k
  refine ⟨h'', tk', rfl, fun x o n1 n2 e => c x o n1 n2 (a x o n1 n2 e), fun x o n1 n2 e hd => ?_⟩
  obtain ⟨sl, e'⟩ := b x o n1 n2 e hd
  obtain ⟨sl', e''⟩ := d x _ n1 n2 e' hd
  exact ⟨sl', e''⟩

structure LexP where
  lex : Addr
  ld : Addr
  sio : Addr
  sd : Addr
  pb : Addr
  fs : Addr
  e : Nat → Int
  e' : Nat → Int
  k : Nat → Tok
  k' : Nat → Tok
  u : Nat → Tok
  nl : Value
  wc : Str
  buf : Str
  bt : Tok
abbrev LexP.as (X : LexP) : List Addr := [X.lex, X.ld, X.sio, X.sd]
structure LexOk (X : LexP) (h₀ : Heap) : Prop where
  len : X.buf.length < 100000
  n1 : X.lex ≠ X.sd
  n2 : X.ld ≠ X.sd
  n3 : X.sio ≠ X.sd
  n4 : X.lex ≠ X.ld
  n5 : X.sio ≠ X.ld
  dp : X.pb ∉ X.as
  df : X.fs ∉ X.as
  wa : (!(Builtin.Str.occurrences X.wc (Str.mk #[97]) 0 X.wc.length 1).isEmpty) = true
  wq : (!(Builtin.Str.occurrences X.wc (Str.mk #[39]) 0 X.wc.length 1).isEmpty) = false
  wd : (!(Builtin.Str.occurrences X.wc (Str.mk #[34]) 0 X.wc.length 1).isEmpty) = false
  new : ∀ a ∈ X.as, h₀.get? a = none
abbrev LexP.led (X : LexP) (st : Value) (t2 : Tok) (p : Int) (pt : Tok) : List (Addr × Obj) := led4 X.lex X.ld X.sio X.sd (lexD X.e X.k X.u X.sio X.pb X.fs X.wc st (.str sE t2)) (sioD X.e' X.k' X.nl X.buf X.bt p pt)
def LexAt (X : LexP) (h : Heap) (st : Value) (p : Int) : Prop := ∃ t2 pt, (∀ q ∈ X.led st t2 p pt, h.get? q.1 = some q.2) ∧ IsDeque0 h X.pb ∧ IsDeque0 h X.fs

theorem led_out {X : LexP} {s : Shared} {g h' : Heap} {L : Addr} {m : Str → Option Value} {st st' : Value} {t2 t2' : Tok} {p p' : Int} {pt pt' : Tok} {tk : Nat}
    (dp : X.pb ∉ X.as) (df : X.fs ∉ X.as)
    (hl : ∀ q ∈ X.led st t2 p pt, s.heap.get? q.1 = some q.2) (hpb : IsDeque0 s.heap X.pb) (hfs : IsDeque0 s.heap X.fs)
    (kg : ∀ b o, b ∉ (X.led st t2 p pt).map (·.1) → s.heap.get? b = some o → g.get? b = some o) (F : Fr g L h' m) (N : News g L h' (X.led st' t2' p' pt')) :
    KeepsBut [X.ld, X.sd] s { s with heap := h', toks := tk } ∧ LexAt X h' st' p' := by
  have hk : ∀ b o, b ∉ X.as → s.heap.get? b = some o → h'.get? b = some o := fun b o nb e => F.keep b o (kg b o nb e)
  refine ⟨⟨h', tk, rfl, fun b o nb e => ?_⟩, t2', pt', fun q hq => (N q hq).1, ?_, ?_⟩
  · by_cases hb : b ∈ X.as
    · simp only [LexP.as, List.mem_cons, List.mem_nil_iff, or_false] at hb nb
      rcases hb with rfl | rfl | rfl | rfl
      · rw [hl _ (.head _)] at e; cases e; exact (N _ (.head _)).1
      · exact absurd (Or.inl rfl) nb
      · rw [hl _ (.tail _ (.tail _ (.head _)))] at e; cases e; exact (N _ (.tail _ (.tail _ (.head _)))).1
      · exact absurd (Or.inr rfl) nb
    · exact hk b o hb e
  · obtain ⟨o, x, y, ho, r⟩ := hpb
    exact ⟨o, x, y, hk _ _ dp ho, r⟩
  · obtain ⟨o, x, y, ho, r⟩ := hfs
    exact ⟨o, x, y, hk _ _ df ho, r⟩
theorem deque_g {X : LexP} {h g : Heap} {a : Addr} {st : Value} {t2 : Tok} {p : Int} {pt : Tok} (D : IsDeque0 h a) (d : a ∉ X.as) (kg : ∀ b o, b ∉ (X.led st t2 p pt).map (·.1) → h.get? b = some o → g.get? b = some o) : IsDeque0 g a := by
  obtain ⟨o, x, y, ho, r⟩ := D
  exact ⟨o, x, y, kg _ _ d ho, r⟩
/-- the deques that stand below a frame stand in it -/
theorem lineC8_1 : True := by
  (k_with "call ref" => (k_here; (with_reducible show wpAny _ _ (call (Value.ref 715) _) _ _ _); k_dflt first | ((refine' get_token_none ?zqH ?zqpb ?zqfs ?zqF ?zqX ?zqT ?zqN ?zqp ?zqcs ?zql ?zqn1 ?zqn2 ?zqn3 ?zqn4 ?zqn5 ?zqr ?zqwa ?zqwq ?zqwd ?_); (case zqH => assumption); (case zqF => k_asm); (case zqX => k_asm); (case zqT => k_asm); (case zqN => k_asm); (case zqp => assumption); (case zqcs => assumption); (case zql => assumption); (case zqn1 => assumption); (case zqn2 => assumption); (case zqn3 => assumption); (case zqn4 => assumption); (case zqn5 => assumption); (case zqr => k_room); (case zqwa => assumption); (case zqwq => assumption); (case zqwd => assumption); (case zqpb => assumption); (case zqfs => assumption); intro zh' ztk' zt1' zt2' zpt' zF' zN'; (try k_sweep)) | ((refine' get_token_str ?zqH ?zqne ?zqpb ?zqfs ?zqF ?zqX ?zqT ?zqN ?zqp ?zqcs ?zql ?zqn1 ?zqn2 ?zqn3 ?zqn4 ?zqn5 ?zqr ?zqwa ?zqwq ?zqwd ?_); (case zqH => assumption); (case zqne => assumption); (case zqF => k_asm); (case zqX => k_asm); (case zqT => k_asm); (case zqN => k_asm); (case zqp => assumption); (case zqcs => assumption); (case zql => assumption); (case zqn1 => assumption); (case zqn2 => assumption); (case zqn3 => assumption); (case zqn4 => assumption); (case zqn5 => assumption); (case zqr => k_room); (case zqwa => assumption); (case zqwq => assumption); (case zqwd => assumption); (case zqpb => assumption); (case zqfs => assumption); intro zh' ztk' _ zt1' zt2' zpt' zF' zN'; (try k_sweep)) | ((refine' get_token_eof ?zqpb ?zqfs ?zqF ?zqX ?zqT ?zqN ?zqp ?zqcs ?zql ?zqn1 ?zqn2 ?zqn3 ?zqn4 ?zqn5 ?zqr ?_); (case zqF => k_asm); (case zqX => k_asm); (case zqT => k_asm); (case zqN => k_asm); (case zqp => assumption); (case zqcs => assumption); (case zql => assumption); (case zqn1 => assumption); (case zqn2 => assumption); (case zqn3 => assumption); (case zqn4 => assumption); (case zqn5 => assumption); (case zqr => k_room); (case zqpb => assumption); (case zqfs => assumption); intro zh' ztk' zt2' zF' zN'; (try k_sweep))))
  trivial

set_option maxHeartbeats 4000000 in
theorem next_str {w : World} {A : Around} {s : Shared} {mg mb : Str → Option Value} {h₀ : Heap} {R : Result → Shared → Prop} {X : LexP} {p : Int} {t1 : Tok} {cs : List Nat} {f : Option Str} {t : Str} {q' : Bool} {n : Nat}
    (G₀ : Gd w mg mb h₀) (k₀ : ∀ b o, h₀.get? b = some o → s.heap.get? b = some o) (O : LexOk X h₀) (hA : LexAt X s.heap (.str sSP t1) p)
    (H : Go sSP sE false cs f t q' n) (hne : (!q' && (t == sE)) = false) (hp0 : 0 ≤ p) (hcs : X.buf.cps.toList.drop p.toNat = cs) (hroom : A.depth < 850)
    (h : ∀ s' tr t1', KeepsBut [X.ld, X.sd] s s' → LexAt X s'.heap (stOf f t1') (p + n) → R (.ok (.ret (.str t tr))) s') :
    codeAny (model prog w) A (.call (.ref 751) ⟨[.ref X.lex], []⟩) R s := by
  obtain ⟨t2, pt, hl, hpb, hfs⟩ := hA
  refine' call_led G₀ k₀ (news := X.led (.str sSP t1) t2 p pt) ?hn ?ho ?hcd ?hr ?hb ?hl ?_ ?c1 ?c2 ?c3 ?c4
  case hn => exact fun q hq => ⟨hl q hq, O.new _ (List.mem_map_of_mem hq)⟩
  case ho => k_dflt k_is
  case hcd => k_dflt k_is
  case hr => k_room
  case hb => exact BindsTo.of_eq rfl
  case hl => exact locs rfl
  case c1 => rfl
  case c2 => rfl
  case c3 => rfl
  case c4 => decide
  intro g L h₁ kg F N KX TT
  have hpb' := deque_g hpb O.dp kg
  have hfs' := deque_g hfs O.df kg
  obtain ⟨ll, n1, n2, n3, n4, n5, dp, df, wa, wq, wd, nw⟩ := O
  have n1' := neN n1
  have n2' := neN n2
  have n4' := neN n4
  have n5' := neN n5
  obtain ⟨lex, ld, sio, sd, pb, fs, e, e', k, k', u, nl, wc, buf, bt⟩ := X
  dsimp only [LexP.led] at *
  k_steps
  rename Fr g _ _ _ => F'
  rename News g _ _ _ => N'
  have r := led_out (tk := 0) dp df hl hpb hfs kg F' N'
  refine h _ _ _ ?_ r.2
  exact (led_out dp df hl hpb hfs kg F' N').1
theorem call_ledE {w : World} {A : Around} {s : Shared} {mg mb : Str → Option Value} {h₀ : Heap} {news : List (Addr × Obj)} {R : Result → Shared → Prop} {outer : List Env} {name qual : Str} {params : Arguments} {body : List Stmt} {scope : Scope} {dV kV doc pm cdv ct oc : Value} {an od : Option Addr} {osl : Array (Option Value)} {f : Addr} {args : Args} {binds : List (Str × Value)}
    (G₀ : Gd w mg mb h₀) (k₀ : ∀ b o, h₀.get? b = some o → s.heap.get? b = some o) (hn : ∀ p ∈ news, s.heap.get? p.1 = some p.2 ∧ h₀.get? p.1 = none)
    (hfr : A.frames = some outer) (hff : s.heap.FunFrames h₀ outer) (hfn : ∀ a ∈ outer.filterMap (·.frame), a ∉ news.map (·.1))
    (ho : (Mine.hd.heap_39 w.params).lookup f = some ⟨oc, od, .func (fnOf name qual params body scope dV kV doc pm an cdv ct), osl⟩) (hcd : codeIn (Mine.hd.heap_39 w.params) cdv qual = true) (hroom : A.depth < recursionLimit)
    (hbind : BindsTo s (fnOf name qual params body scope dV kV doc pm an cdv ct) args binds) (hloc : ∀ y ∈ binds, scope.names.lookup y.1 = some .local)
    (h : ∀ g L h₁, (∀ b o, b ∉ news.map (·.1) → s.heap.get? b = some o → g.get? b = some o) → Below A (hideAll g (outer.filterMap (·.frame))) outer g → Fr g L h₁ (fun y => binds.reverse.lookup y) → News g L h₁ news → (Mine.hd.heap_39 w.params).In g → TopRead Mine.hd.view_39 LO mg mb g →
      wpAny (model prog w) (A.deeper (envOf qual scope L f cdv)) (execs body (envOf qual scope L f cdv))
        (fun fl s' => R (.ok (.ret (match fl with | .ret v => v | _ => .none))) s')
        (fun e s' => wpAny (model prog w) (A.deeper (envOf qual scope L f cdv)) (leaving (envOf qual scope L f cdv) e) (fun _ s'' => R (.error e) s'') (fun e' s'' => R (.error e') s'') s') { s with heap := h₁, toks := s.toks + binds.length })
    (hco : scope.isCoroutine = false := by rfl) (hgen : scope.isGenerator = false := by rfl) (hk : scope.kind = .function := by rfl)
    (hcell : ∀ x ∈ scope.names, x.2 ≠ .cell := by decide) : codeAny (model prog w) A (.call (.ref f) args) R s := by
  have G := G₀.keeps k₀
  refine codeAny_call_def (fd := fnOf name qual params body scope dV kV doc pm an cdv ct) (body := body) (binds := binds) hroom (G.K _ _ ho) rfl G.T.nolimit (codeRec_of G.K hcd) rfl hbind hcell hloc (fun h₁ hns hk₁ => ?_) hco hgen hk
  have nm : ∀ b o, h₀.get? b = some o → b ∉ news.map (·.1) := fun b o e q => by
    obtain ⟨p, hp, rfl⟩ := List.mem_map.mp q
    rw [(hn p hp).2] at e; cases e
  have st : h₀.StaysIn (hideAll s.heap (news.map (·.1))) := fun b o e => hideAll_get _ (k₀ b o e) (nm b o e)
  have KB : Below A (hideAll (hideAll s.heap (news.map (·.1))) (outer.filterMap (·.frame))) outer (hideAll s.heap (news.map (·.1))) := by
    refine ⟨hfr, fun b o e => of_hideAll _ e, ?_⟩
    have gen : ∀ l : List Env, s.heap.FunFrames h₀ l → (∀ a ∈ l.filterMap (·.frame), a ∉ news.map (·.1)) → (∀ a ∈ l.filterMap (·.frame), a ∈ outer.filterMap (·.frame)) → (hideAll s.heap (news.map (·.1))).FunFrames (hideAll (hideAll s.heap (news.map (·.1))) (outer.filterMap (·.frame))) l := by
      intro l
      induction l with
      | nil => exact fun _ _ _ => trivial
      | cons env rest ih =>
        intro hl hno hin
        obtain ⟨hk, ⟨L, o, hf, _, ho, hd⟩, hr⟩ := hl
        have mem : L ∈ (env :: rest).filterMap (·.frame) := List.mem_filterMap.mpr ⟨env, .head _, hf⟩
        have sub : ∀ a ∈ rest.filterMap (·.frame), a ∈ (env :: rest).filterMap (·.frame) := fun a ha => by
          obtain ⟨x, hx, hxf⟩ := List.mem_filterMap.mp ha
          exact List.mem_filterMap.mpr ⟨x, .tail _ hx, hxf⟩
        exact ⟨hk, ⟨L, o, hf, hideAll_none _ (hin L mem), hideAll_get _ ho (hno L mem), hd⟩, ih hr (fun a ha => hno a (sub a ha)) fun a ha => hin a (sub a ha)⟩
    exact gen outer hff hfn fun a ha => ha
  exact h (hideAll s.heap (news.map (·.1))) s.heap.objs.size h₁ (fun b o nb e => hideAll_get _ e nb) KB ⟨hns, fun b o e => hk₁ b o (of_hideAll _ e), Nat.le_of_eq (hideAll_size _ _)⟩
    (fun p hp => ⟨hk₁ _ _ (hn p hp).1, Nat.ne_of_lt (Heap.lt_size (hn p hp).1), hideAll_none _ (List.mem_map_of_mem hp)⟩) (Frag.In.keeps G₀.K fun b o e => st b o e) (G₀.T.keeps fun b o e => st b o e)

theorem raise_out {X : LexP} {s : Shared} {g h' : Heap} {outer : List Env} {e t : Addr} {cls : Value} {vs : List Value} {st st' : Value} {t2 t2' : Tok} {p p' : Int} {pt pt' : Tok} {tk : Nat}
    (hl : ∀ q ∈ X.led st t2 p pt, s.heap.get? q.1 = some q.2) (kg : ∀ b o, b ∉ (X.led st t2 p pt).map (·.1) → s.heap.get? b = some o → g.get? b = some o)
    (hR : RaisedK (hideAll g (outer.filterMap (·.frame))) outer e cls t vs (X.led st' t2' p' pt') h') (U : g.UpToSlots h') :
    KeepsX (outer.filterMap (·.frame)) [X.ld, X.sd] s { s with heap := h', toks := tk } ∧ ∃ ob, h'.get? e = some ob ∧ ob.cls = cls := by
  obtain ⟨⟨B, hB, hN, hfl, _⟩, _⟩ := hR
  have n2 : ∀ b o, b ∈ X.as → b ∉ [X.ld, X.sd] → s.heap.get? b = some o → h'.get? b = some o := fun b o hb nb eq => by
    simp only [LexP.as, List.mem_cons, List.mem_nil_iff, or_false] at hb nb
    rcases hb with rfl | rfl | rfl | rfl
    · rw [hl _ (.head _)] at eq; cases eq; exact hfl.1 _ _ (hN _ (.head _)).1
    · exact absurd (Or.inl rfl) nb
    · rw [hl _ (.tail _ (.tail _ (.head _)))] at eq; cases eq; exact hfl.1 _ _ (hN _ (.tail _ (.tail _ (.head _)))).1
    · exact absurd (Or.inr rfl) nb
  refine ⟨⟨h', tk, rfl, fun b o n1 nb eq => ?_, fun b o n1 nb eq hd => ?_⟩, hfl.there⟩
  · by_cases hb : b ∈ X.as
    · exact n2 b o hb nb eq
    · exact hfl.1 _ _ (hB _ _ (hideAll_get _ (kg b o hb eq) n1))
  · by_cases hb : b ∈ X.as
    · exact ⟨o.slots, n2 b o hb nb eq⟩
    · exact U b o (kg b o hb eq) hd

theorem lineC9_1 : True := by
  (k_with "exec Raise some none" => (k_here; (with_reducible show wpAny _ _ (exec (Stmt.Raise (some (Expr.Name ("StopIteration" : Str) _)) none _) _) _ _ _); (with_reducible rename Fr _ _ _ _ => kF); k_dflt (refine' owsi_raiseC ?zqhh ?zqhx ?_; (case zqhh => first | rfl | assumption); (case zqhx => (refine' name_B kF ?zqk1 ?zqk2 ?zqk3 ?zqk4 ?zqk5 ?_; (case zqk1 => k_asm); (case zqk2 => k_asm); (case zqk3 => k_is); (case zqk4 => boot_by_name); (case zqk5 => decide); exact ⟨rfl, rfl⟩)))))
  trivial

set_option maxHeartbeats 4000000 in
theorem next_none {w : World} {A : Around} {s : Shared} {mg mb : Str → Option Value} {h₀ : Heap} {R : Result → Shared → Prop} {outer : List Env} {X : LexP} {p : Int} {t1 : Tok} {cs : List Nat} {f : Option Str} {n : Nat}
    (G₀ : Gd w mg mb h₀) (k₀ : ∀ b o, h₀.get? b = some o → s.heap.get? b = some o) (O : LexOk X h₀) (hA : LexAt X s.heap (.str sSP t1) p)
    (hfr : A.frames = some outer) (hff : s.heap.FunFrames h₀ outer) (hfn : ∀ a ∈ outer.filterMap (·.frame), a ∉ X.as) (hh : A.handled = none)
    (H : Go sSP sE false cs f sE false n) (hp0 : 0 ≤ p) (hcs : X.buf.cps.toList.drop p.toNat = cs) (hroom : A.depth < 850)
    (h : ∀ s' e, KeepsX (outer.filterMap (·.frame)) [X.ld, X.sd] s s' → (∃ ob, s'.heap.get? e = some ob ∧ ob.cls = .type "StopIteration") → R (.error (.ref e)) s') :
    codeAny (model prog w) A (.call (.ref 751) ⟨[.ref X.lex], []⟩) R s := by
  obtain ⟨t2, pt, hl, hpb, hfs⟩ := hA
  refine' call_ledE G₀ k₀ (news := X.led (.str sSP t1) t2 p pt) ?hn hfr hff hfn ?ho ?hcd ?hr ?hb ?hl ?_ ?c1 ?c2 ?c3 ?c4
  case hn => exact fun q hq => ⟨hl q hq, O.new _ (List.mem_map_of_mem hq)⟩
  case ho => k_dflt k_is
  case hcd => k_dflt k_is
  case hr => k_room
  case hb => exact BindsTo.of_eq rfl
  case hl => exact locs rfl
  case c1 => rfl
  case c2 => rfl
  case c3 => rfl
  case c4 => decide
  intro g L h₁ kg KB F N KX TT
  have hpb' := deque_g hpb O.dp kg
  have hfs' := deque_g hfs O.df kg
  obtain ⟨ll, n1, n2, n3, n4, n5, dp, df, wa, wq, wd, nw⟩ := O
  have n1' := neN n1
  have n2' := neN n2
  have n4' := neN n4
  have n5' := neN n5
  k_steps
  rename RaisedK _ _ _ _ _ _ _ _ => R'
  rename Heap.UpToSlots g _ => U'
  have r := raise_out (tk := 0) hl kg R' U'
  exact h _ _ (raise_out hl kg R' U').1 r.2
set_option maxHeartbeats 4000000 in
theorem next_eof {w : World} {A : Around} {s : Shared} {mg mb : Str → Option Value} {h₀ : Heap} {R : Result → Shared → Prop} {outer : List Env} {X : LexP} {p : Int}
    (G₀ : Gd w mg mb h₀) (k₀ : ∀ b o, h₀.get? b = some o → s.heap.get? b = some o) (O : LexOk X h₀) (hA : LexAt X s.heap .none p)
    (hfr : A.frames = some outer) (hff : s.heap.FunFrames h₀ outer) (hfn : ∀ a ∈ outer.filterMap (·.frame), a ∉ X.as) (hh : A.handled = none)
    (hp0 : 0 ≤ p) (hcs : X.buf.cps.toList.drop p.toNat = []) (hroom : A.depth < 850)
    (h : ∀ s' e, KeepsX (outer.filterMap (·.frame)) [X.ld, X.sd] s s' → (∃ ob, s'.heap.get? e = some ob ∧ ob.cls = .type "StopIteration") → R (.error (.ref e)) s') :
    codeAny (model prog w) A (.call (.ref 751) ⟨[.ref X.lex], []⟩) R s := by
  obtain ⟨t2, pt, hl, hpb, hfs⟩ := hA
  refine' call_ledE G₀ k₀ (news := X.led .none t2 p pt) ?hn hfr hff hfn ?ho ?hcd ?hr ?hb ?hl ?_ ?c1 ?c2 ?c3 ?c4
  case hn => exact fun q hq => ⟨hl q hq, O.new _ (List.mem_map_of_mem hq)⟩
  case ho => k_dflt k_is
  case hcd => k_dflt k_is
  case hr => k_room
  case hb => exact BindsTo.of_eq rfl
  case hl => exact locs rfl
  case c1 => rfl
  case c2 => rfl
  case c3 => rfl
  case c4 => decide
  intro g L h₁ kg KB F N KX TT
  have hpb' := deque_g hpb O.dp kg
  have hfs' := deque_g hfs O.df kg
  obtain ⟨ll, n1, n2, n3, n4, n5, dp, df, wa, wq, wd, nw⟩ := O
  have n1' := neN n1
  have n2' := neN n2
  have n4' := neN n4
  have n5' := neN n5
  k_steps
  rename RaisedK _ _ _ _ _ _ _ _ => R'
  rename Heap.UpToSlots g _ => U'
  have r := raise_out (tk := 0) hl kg R' U'
  exact h _ _ (raise_out hl kg R' U').1 r.2
/-- what lex gives: its state, the signs ahead, the tokens -/
inductive Rd : Option Str → List Nat → List Str → Prop
  | eof : Rd none [] []
  | none {cs f n} : Go sSP sE false cs f sE false n → Rd (some sSP) cs []
  | tok {cs f t q n ts} : Go sSP sE false cs f t q n → (!q && (t == sE)) = false → Rd f (cs.drop n) ts → Rd (some sSP) cs (t :: ts)
def StrAre : List Value → List Str → Prop
  | [], [] => True
  | v :: vs, t :: ts => (∃ k, v = .str t k) ∧ StrAre vs ts
  | _, _ => False
theorem StrAre.length : ∀ {vs : List Value} {ts : List Str}, StrAre vs ts → vs.length = ts.length
  | [], [], _ => rfl
  | _ :: _, _ :: _, h => by simp [StrAre.length h.2]
  | [], _ :: _, h => h.elim
  | _ :: _, [], h => h.elim
abbrev frs (outer : List Env) : List Addr := outer.filterMap (·.frame)
theorem mem_frs {env : Env} {l : List Env} {L : Addr} (h : env ∈ l) (hf : env.frame = some L) : L ∈ frs l := List.mem_filterMap.mpr ⟨env, h, hf⟩
theorem funFrames_keepsX {base : Heap} {fs ds : List Addr} {s s' : Shared} (k : KeepsX fs ds s s') : ∀ {l : List Env}, (∀ a ∈ frs l, a ∉ ds) → s.heap.FunFrames base l → s'.heap.FunFrames base l
  | [], _, _ => trivial
  | env :: rest, nd, ⟨hk, ⟨L, o, hf, hn, ho, hd⟩, hr⟩ => by
    have hL := mem_frs (l := env :: rest) (.head _) hf
    refine ⟨hk, ?_, funFrames_keepsX k (fun a ha => nd a ?_) hr⟩
    · obtain ⟨h', tk, rfl, k1, k2⟩ := k
      by_cases hin : L ∈ fs
      · obtain ⟨sl, e⟩ := k2 L o hin (nd L hL) ho hd
        exact ⟨L, _, hf, hn, e, hd⟩
      · exact ⟨L, o, hf, hn, k1 L o hin (nd L hL) ho, hd⟩
    · obtain ⟨x, hx, hxf⟩ := List.mem_filterMap.mp ha
      exact mem_frs (.tail _ hx) hxf
theorem KeepsX.mono {fs ds ds' : List Addr} {s s' : Shared} (h : ∀ a ∈ ds, a ∈ ds') (k : KeepsX fs ds s s') : KeepsX fs ds' s s' := by
  obtain ⟨h', tk, rfl, k1, k2⟩ := k
  exact ⟨h', tk, rfl, fun b o n1 n2 e => k1 b o n1 (fun q => n2 (h b q)) e, fun b o n1 n2 e hd => k2 b o n1 (fun q => n2 (h b q)) e hd⟩
theorem KeepsX.then_heap {fs ds : List Addr} {s s' : Shared} {h'' : Heap} {tk : Nat} (k : KeepsX fs ds s s') (hk : ∀ b o, b ∉ ds → s'.heap.get? b = some o → h''.get? b = some o) : KeepsX fs ds s { s' with heap := h'', toks := tk } := by
  obtain ⟨h', tk', rfl, k1, k2⟩ := k
  refine ⟨h'', tk, rfl, fun b o n1 n2 e => hk b o n2 (k1 b o n1 n2 e), fun b o n1 n2 e hd => ?_⟩
  obtain ⟨sl, e'⟩ := k2 b o n1 n2 e hd
  exact ⟨sl, hk b _ n2 e'⟩
theorem KeepsX.refl {fs ds : List Addr} (s : Shared) : KeepsX fs ds s s := ⟨s.heap, s.toks, rfl, fun _ _ _ _ e => e, fun _ o _ _ e _ => ⟨o.slots, e⟩⟩
theorem findIn_next {w : World} : findIn (Mine.hd.heap_39 w.params) (.ref 754) "__next__" = some (some (.ref 751)) := by k_dflt k_is
theorem findIn_iter {w : World} : findIn (Mine.hd.heap_39 w.params) (.ref 754) "__iter__" = some (some (.ref 744)) := by k_dflt k_is
theorem findIn_len {w : World} : findIn (Mine.hd.heap_39 w.params) (.ref 754) "__len__" = some none := by k_dflt k_is
theorem findIn_hint {w : World} : findIn (Mine.hd.heap_39 w.params) (.ref 754) "__length_hint__" = some none := by k_dflt k_is
theorem isFn_next {w : World} : isFn (Mine.hd.heap_39 w.params) (.ref 751) = true := by k_dflt k_is
theorem isFn_iter {w : World} : isFn (Mine.hd.heap_39 w.params) (.ref 744) = true := by k_dflt k_is
theorem sub_stop : isSubtype (.type "StopIteration") (.type "StopIteration") = pure true := by first | rfl | (rw [isSubtype_type]; kernel_rfl)

theorem LexAt.inst {X : LexP} {h : Heap} {st : Value} {p : Int} (H : LexAt X h st p) : ∃ od, InstAt h X.lex (instObj 754 X.ld) 754 (some od) := by
  obtain ⟨t2, pt, hl, _⟩ := H
  exact ⟨_, hl _ (.head _), rfl, rfl, hl _ (.tail _ (.head _))⟩
theorem LexAt.step {X : LexP} {h h' : Heap} {st : Value} {p : Int} (H : LexAt X h st p) (k : ∀ b o, b ∈ X.pb :: X.fs :: X.as → h.get? b = some o → h'.get? b = some o) : LexAt X h' st p := by
  obtain ⟨t2, pt, hl, ⟨o, x, y, ho, r⟩, ⟨o2, x2, y2, ho2, r2⟩⟩ := H
  refine ⟨t2, pt, fun q hq => k _ _ (.tail _ (.tail _ (List.mem_map_of_mem (f := (·.1)) hq))) (hl q hq), ⟨o, x, y, k _ _ (.head _) ho, r⟩, ⟨o2, x2, y2, k _ _ (.tail _ (.head _)) ho2, r2⟩⟩

theorem pyNext_own {w : World} {A : Around} {E : Value → Shared → Prop} {s : Shared} {X : LexP} {st : Value} {p : Int} {Q : Option Value → Shared → Prop} (K : (Mine.hd.heap_39 w.params).In s.heap) (H : LexAt X s.heap st p)
    (h : wpAny (model prog w) A (call (.ref 751) [.ref X.lex]) (fun v s' => Q (some v) s') (OwitStop (model prog w) A Q E) s) : wpAny (model prog w) A (pyNext (.ref X.lex)) Q E s := by
  obtain ⟨od, I⟩ := H.inst
  unfold pyNext
  refine wpAny_bind (wpAny_attempt (special_fn (name := "__next__") (args := []) K I findIn_next (beq_iff_eq.mp isFn_next) (wpAny_mono h (fun v s' hq => ?_) (fun e s' he => ?_))))
  · exact wpAny_pure hq
  · refine wpAny_bind (wpAny_mono he (fun b s₂ hb => ?_) fun _ _ z => z)
    cases b with
    | true => exact wpAny_pure hb
    | false => exact wpAny_throw hb

theorem ext_loop {w : World} {A : Around} {mg mb : Str → Option Value} {h₀ : Heap} {outer : List Env} {X : LexP} {S : Addr} {res : Value} {R : Result → Shared → Prop}
    (G₀ : Gd w mg mb h₀) (O : LexOk X h₀) (hfr : A.frames = some outer) (hh : A.handled = none) (hfn : ∀ a ∈ frs outer, a ∉ X.as) (hS₀ : S ∉ X.as) (hS₁ : S ≠ X.pb) (hS₂ : S ≠ X.fs) (hSf : S ∉ frs outer) (hSn : h₀.get? S = none) (hroom : A.depth < 850)
    {f : Option Str} {cs : List Nat} {ts : List Str} (H : Rd f cs ts) :
    ∀ {s : Shared} {acc : Array Value} {c : Nat} {t1 : Tok} {p : Int}, (∀ b o, h₀.get? b = some o → s.heap.get? b = some o) → s.heap.FunFrames h₀ outer → LexAt X s.heap (stOf f t1) p → 0 ≤ p → X.buf.cps.toList.drop p.toNat = cs →
      s.heap.get? S = some (listOf acc c) → acc.size + ts.length ≤ sizeLine →
      (∀ s' vs c', KeepsX (frs outer) [X.ld, X.sd, S] s s' → s'.heap.get? S = some (listOf (acc ++ vs.toArray) c') → StrAre vs ts → R (.ok (.ret res)) s') →
      codeAny (model prog w) A (.builtin "list.extend.loop" ⟨[.ref S, .ref X.lex, res], []⟩) R s := by
  have stopped : ∀ {s : Shared} {acc : Array Value} {c : Nat} {s' : Shared} {e : Addr}, s.heap.get? S = some (listOf acc c) →
      (∀ s' vs c', KeepsX (frs outer) [X.ld, X.sd, S] s s' → s'.heap.get? S = some (listOf (acc ++ vs.toArray) c') → StrAre vs [] → R (.ok (.ret res)) s') →
      KeepsX (frs outer) [X.ld, X.sd] s s' → (∃ ob, s'.heap.get? e = some ob ∧ ob.cls = .type "StopIteration") →
      OwitStop (model prog w) A.in1 (fun r s₂ => wpAny (model prog w) A.in1 (match r with | none => ret res | some x => do Builtin.List.listUpdate (.ref S) (·.push x); again (.builtin "list.extend.loop" ⟨[.ref S, .ref X.lex, res], []⟩))
        (fun fin s' => match fin with | .done f => R (.ok f) s' | .again c' => c'.quiet = true ∧ codeAny (model prog w) A c' R s') (fun e s' => R (.error e) s') s₂) (fun e s' => R (.error e) s') (.ref e) s' := by
    intro s acc c s' e hS hR hk hc
    have hT : s'.TypeIs (.ref e) "StopIteration" := hc
    unfold OwitStop
    refine wpAny_isInstance hT sub_stop ?_
    simp only [if_true]
    obtain ⟨h', tk, rfl, k1, k2⟩ := hk
    have hS' : h'.get? S = some (listOf acc c) := k1 S _ hSf (fun q => hS₀ (by
      rcases List.mem_cons.mp q with r | r
      · exact r ▸ (.tail _ (.head _))
      · rcases List.mem_cons.mp r with r | r
        · exact r ▸ (.tail _ (.tail _ (.tail _ (.head _))))
        · cases r)) hS
    exact wpAny_pure (hR _ [] c (KeepsX.mono (fun a ha => by
      rcases List.mem_cons.mp ha with r | r
      · exact r ▸ .head _
      · exact .tail _ (by rcases List.mem_cons.mp r with r | r
                          · exact r ▸ .head _
                          · cases r)) ⟨h', tk, rfl, k1, k2⟩) (by simpa using hS') trivial)
  induction H with
  | eof =>
    intro s acc c t1 p k₀ hff hA hp hcs hS hsz hR
    refine codeAny_builtin PySem.F.entry_extend_loop ?_
    rw [Around.under_plainId PySem.F.plain_extend_loop _]
    show wpAny _ A.in1 (pyNext (.ref X.lex) >>= _) _ _ s
    refine wpAny_bind (pyNext_own (G₀.keeps k₀).K hA (wpAny_call (next_eof (mg := mg) (mb := mb) G₀ k₀ O hA (outer := outer) hfr hff hfn hh hp hcs (by show A.depth < 850; exact hroom) fun s' e hk hc => ?_)))
    exact stopped hS hR hk hc
  | none H =>
    intro s acc c t1 p k₀ hff hA hp hcs hS hsz hR
    refine codeAny_builtin PySem.F.entry_extend_loop ?_
    rw [Around.under_plainId PySem.F.plain_extend_loop _]
    show wpAny _ A.in1 (pyNext (.ref X.lex) >>= _) _ _ s
    refine wpAny_bind (pyNext_own (G₀.keeps k₀).K hA (wpAny_call (next_none (mg := mg) (mb := mb) G₀ k₀ O hA (outer := outer) hfr hff hfn hh H hp hcs (by show A.depth < 850; exact hroom) fun s' e hk hc => ?_)))
    exact stopped hS hR hk hc
  | @tok cs f t q n ts H hne _ ih =>
    intro s acc c t1 p k₀ hff hA hp hcs hS hsz hR
    refine codeAny_builtin PySem.F.entry_extend_loop ?_
    rw [Around.under_plainId PySem.F.plain_extend_loop _]
    show wpAny _ A.in1 (pyNext (.ref X.lex) >>= _) _ _ s
    refine wpAny_bind (pyNext_own (G₀.keeps k₀).K hA (wpAny_call (next_str (mg := mg) (mb := mb) G₀ k₀ O hA H hne hp hcs (by show A.depth < 850; exact hroom) fun s' tr t1' hk hA' => ?_)))
    have hx : KeepsX (frs outer) [X.ld, X.sd, S] s s' := KeepsX.mono (fun a ha => by
      rcases List.mem_cons.mp ha with r | r
      · exact r ▸ .head _
      · exact .tail _ (by rcases List.mem_cons.mp r with r | r
                          · exact r ▸ .head _
                          · cases r)) (KeepsX.of_but hk)
    have hff' : s'.heap.FunFrames h₀ outer := funFrames_keepsX hx (fun a ha q => by
      rcases List.mem_cons.mp q with r | r
      · exact hfn a ha (r ▸ (.tail _ (.head _)))
      · rcases List.mem_cons.mp r with r | r
        · exact hfn a ha (r ▸ (.tail _ (.tail _ (.tail _ (.head _)))))
        · rcases List.mem_cons.mp r with r | r
          · exact hSf (r ▸ ha)
          · cases r) hff
    obtain ⟨h', tk, rfl, kk⟩ := hk
    have nS : S ∉ [X.ld, X.sd] := fun q => hS₀ (by
      rcases List.mem_cons.mp q with r | r
      · exact r ▸ (.tail _ (.head _))
      · rcases List.mem_cons.mp r with r | r
        · exact r ▸ (.tail _ (.tail _ (.tail _ (.head _))))
        · cases r)
    have hS' : h'.get? S = some (listOf acc c) := kk S _ nS hS
    show wpAny _ A.in1 (updateSeq S (·.push (.str t tr)) >>= _) _ _ _
    refine wpAny_bind ?_
    have sz : acc.size + 1 + ts.length ≤ sizeLine := by simp only [List.length_cons] at hsz; omega
    have oth : ∀ b o, b ≠ S → h'.get? b = some o → (h'.update S (Obj.mapSeq (·.push (.str t tr)))).get? b = some o := fun b o hb e => (Heap.get?_update_other _ _ (Ne.symm hb)).trans e
    have k₀' : ∀ b o, h₀.get? b = some o → h'.get? b = some o := fun b o e => kk b o (fun q => by
      have hb : b ∈ X.as := by
        rcases List.mem_cons.mp q with r | r
        · exact r ▸ (.tail _ (.head _))
        · rcases List.mem_cons.mp r with r | r
          · exact r ▸ (.tail _ (.tail _ (.tail _ (.head _))))
          · cases r
      rw [O.new b hb] at e; cases e) (k₀ b o e)
    refine wpAny_updateSeq hS' rfl (wpAny_pure ⟨plainId_quiet PySem.F.plain_extend_loop _, ih (s := { s with heap := h'.update S (Obj.mapSeq (·.push (.str t tr))), toks := tk }) (acc := acc.push (.str t tr)) (p := p + n)
      (fun b o e => oth b o (fun q => by rw [q, hSn] at e; cases e) (k₀' b o e)) ?_ (hA'.step fun b o hb e => oth b o (fun q => ?_) e) (by omega) (by rw [← hcs, List.drop_drop]; congr 1; omega) (Heap.get?_update_self _ hS' rfl) (by rw [Array.size_push]; exact sz) fun s'' vs c' hm hS'' hv => ?_⟩) (by omega) (by show (acc.push _).size ≤ sizeLine + 1; rw [Array.size_push]; omega)
    · have gen : ∀ l : List Env, (∀ a ∈ frs l, a ≠ S) → h'.FunFrames h₀ l → (h'.update S (Obj.mapSeq (·.push (.str t tr)))).FunFrames h₀ l := by
        intro l
        induction l with
        | nil => exact fun _ _ => trivial
        | cons env rest ih2 =>
          rintro hn ⟨hk, ⟨L, o, hf, hnn, ho, hd⟩, hr⟩
          refine ⟨hk, ⟨L, o, hf, hnn, oth L o (hn L (mem_frs (.head _) hf)) ho, hd⟩, ih2 (fun a ha => ?_) hr⟩
          obtain ⟨x, hx, hxf⟩ := List.mem_filterMap.mp ha
          exact hn a (mem_frs (.tail _ hx) hxf)
      exact gen outer (fun a ha q => hSf (q ▸ ha)) hff'
    · subst q
      rcases List.mem_cons.mp hb with r | r
      · exact hS₁ r
      · rcases List.mem_cons.mp r with r | r
        · exact hS₂ r
        · exact hS₀ r
    · refine hR s'' (.str t tr :: vs) c' ((hx.then_heap fun b o nb e => oth b o (fun q => nb (q ▸ .tail _ (.tail _ (.head _)))) e).trans hm) (by simpa using hS'') ⟨⟨_, rfl⟩, hv⟩
set_option maxHeartbeats 2000000 in
theorem iter_self {w : World} {A : Around} {s : Shared} {mg mb : Str → Option Value} {R : Result → Shared → Prop} {x : Addr} (G : Gd w mg mb s.heap) (hroom : A.depth < 900)
    (h : ∀ s', Keeps s s' → R (.ok (.ret (.ref x))) s') : codeAny (model prog w) A (.call (.ref 744) ⟨[.ref x], []⟩) R s := by
  refine' call_pure G ?ho ?hcd ?hr ?hb ?hl ?_ ?c1 ?c2 ?c3 ?c4
  case ho => k_dflt k_is
  case hcd => k_dflt k_is
  case hr => k_room
  case hb => exact BindsTo.of_eq rfl
  case hl => exact locs rfl
  case c1 => rfl
  case c2 => rfl
  case c3 => rfl
  case c4 => decide
  intro L h₁ hL F G
  have KX := G.K
  have TT := G.T
  have N : News s.heap L h₁ [] := News.nil
  k_steps
  exact h _ (Keeps.of_fr (by assumption))
theorem Keeps.x {fs ds : List Addr} {s s' : Shared} (h : Keeps s s') : KeepsX fs ds s s' := by
  obtain ⟨h', tk, rfl, hk⟩ := h
  exact ⟨h', tk, rfl, fun b o _ _ e => hk b o e, fun b o _ _ e _ => ⟨o.slots, hk b o e⟩⟩
theorem pyIter_own {w : World} {A : Around} {E : Value → Shared → Prop} {s : Shared} {mg mb : Str → Option Value} {X : LexP} {st : Value} {p : Int} {Q : Value → Shared → Prop} (G : Gd w mg mb s.heap) (H : LexAt X s.heap st p) (hroom : A.depth < 900)
    (h : ∀ s', Keeps s s' → Q (.ref X.lex) s') : wpAny (model prog w) A (pyIter (.ref X.lex)) Q E s := by
  obtain ⟨od, I⟩ := H.inst
  have X₀ := G.K
  have fin : wpAny (model prog w) A (call (.ref 744) [.ref X.lex] >>= fun v => pure (some v)) (fun r s' => ∃ v, r = some v ∧ OwitIt (model prog w) A Q E v s') E s := by
    refine wpAny_bind (wpAny_call (iter_self G hroom fun s' hk => wpAny_pure ⟨_, rfl, ?_⟩))
    obtain ⟨h', tk, rfl, kk⟩ := id hk
    obtain ⟨od', I'⟩ := (H.step (h' := h') fun b o _ e => kk b o e).inst
    exact wpAny_bind (I'.type.here ((looks_findIn (X₀.keeps kk) findIn_next).here (h _ hk)))
  have one : ∀ refuse : Sem Value, wpAny (model prog w) A (callSpecialIfBoundUnlessNone? (.ref X.lex) "__iter__" refuse) (fun r s' => ∃ v, r = some v ∧ OwitIt (model prog w) A Q E v s') E s := by
    intro refuse
    simp only [callSpecialIfBoundUnlessNone?, bindSpecialIfBound?]
    refine wpAny_holding (wpAny_bind (wpAny_bind (wpAny_bind (I.type.here ((looks_findIn X₀ findIn_iter).here ?_)))))
    refine wpAny_bind (wpAny_askSetting (wpAny_ite ?_))
    have fin2 : wpAny (model prog w) A (if (Value.ref 744 == Value.none) = true then (refuse >>= fun v => pure (some v)) else (call (.ref 744) [.ref X.lex] >>= fun v => pure (some v))) (fun r s' => ∃ v, r = some v ∧ OwitIt (model prog w) A Q E v s') E s := by
      rw [if_neg (show ¬ ((Value.ref 744 == Value.none) = true) from Bool.false_ne_true)]
      exact fin
    split
    · exact wpAny_bind ((bind_fn X₀ _ (beq_iff_eq.mp isFn_iter)).here (wpAny_pure (by exact fin2)))
    · exact wpAny_tryCatch (wpAny_bind ((bind_fn X₀ _ (beq_iff_eq.mp isFn_iter)).here (wpAny_pure (by exact fin2))))
  unfold pyIter
  refine wpAny_bind (wpAny_bind (I.type.here ((looks_findIn X₀ findIn_iter).here ?_)))
  show wpAny (model prog w) A (callSpecialIfBoundUnlessNone? (.ref X.lex) "__iter__" _ >>= _) Q E s
  refine wpAny_bind (wpAny_mono (one _) (fun r s' hr => ?_) fun _ _ z => z)
  obtain ⟨v, rfl, hv⟩ := hr
  refine wpAny_bind (wpAny_mono hv (fun r s₂ hr => ?_) fun _ _ z => z)
  cases r with
  | none => exact hr.elim
  | some g => exact wpAny_pure hr

theorem funFrames_oth {base h h' : Heap} {S : Addr} (oth : ∀ b o, b ≠ S → h.get? b = some o → h'.get? b = some o) : ∀ {l : List Env}, (∀ a ∈ frs l, a ≠ S) → h.FunFrames base l → h'.FunFrames base l
  | [], _, _ => trivial
  | env :: rest, hn, ⟨hk, ⟨L, o, hf, hnn, ho, hd⟩, hr⟩ => by
    refine ⟨hk, ⟨L, o, hf, hnn, oth L o (hn L (mem_frs (.head _) hf)) ho, hd⟩, funFrames_oth oth (fun a ha => ?_) hr⟩
    obtain ⟨x, hx, hxf⟩ := List.mem_filterMap.mp ha
    exact hn a (mem_frs (.tail _ hx) hxf)

theorem LexAt.lt {X : LexP} {h : Heap} {st : Value} {p : Int} (H : LexAt X h st p) : X.pb < h.objs.size ∧ X.fs < h.objs.size ∧ ∀ a ∈ X.as, a < h.objs.size := by
  obtain ⟨t2, pt, hl, ⟨o, x, y, ho, r⟩, ⟨o2, x2, y2, ho2, r2⟩⟩ := H
  refine ⟨Heap.lt_size ho, Heap.lt_size ho2, fun a ha => ?_⟩
  obtain ⟨q, hq, rfl⟩ : ∃ q ∈ X.led st t2 p pt, q.1 = a := List.mem_map.mp (show a ∈ (X.led st t2 p pt).map (·.1) from ha)
  exact Heap.lt_size (hl q hq)

/-- list(lex) -/
theorem call_list_lex {w : World} {A : Around} {E : Value → Shared → Prop} {s : Shared} {mg mb : Str → Option Value} {h₀ : Heap} {outer : List Env} {X : LexP} {Q : Value → Shared → Prop} {p : Int} {t1 : Tok} {f : Option Str} {cs : List Nat} {ts : List Str}
    (G₀ : Gd w mg mb h₀) (k₀ : ∀ b o, h₀.get? b = some o → s.heap.get? b = some o) (O : LexOk X h₀) (hA : LexAt X s.heap (stOf f t1) p) (H : Rd f cs ts) (hp : 0 ≤ p) (hcs : X.buf.cps.toList.drop p.toNat = cs)
    (hfr : A.frames = some outer) (hff : s.heap.FunFrames h₀ outer) (hh : A.handled = none) (hfn : ∀ a ∈ frs outer, a ∉ X.as) (hroom : A.depth < 850) (hsz : ts.length ≤ sizeLine)
    (h : ∀ s' vs c', KeepsX (frs outer) [X.ld, X.sd] s s' → s'.heap.get? s.heap.objs.size = some (listOf vs.toArray c') → StrAre vs ts → Q (.ref s.heap.objs.size) s') :
    wpAny (model prog w) A (call (.type "list") [.ref X.lex]) Q E s := by
  obtain ⟨hpb, hfs, has⟩ := hA.lt
  have hfl : ∀ l : List Env, s.heap.FunFrames h₀ l → ∀ a ∈ frs l, a < s.heap.objs.size := by
    intro l
    induction l with
    | nil => intro _ a ha; cases ha
    | cons env rest ih =>
      rintro ⟨hk, ⟨L, o, hf, hnn, ho, hd⟩, hr⟩ a ha
      obtain ⟨x, hx, hxf⟩ := List.mem_filterMap.mp ha
      rcases List.mem_cons.mp hx with rfl | hx
      · rw [hf] at hxf; cases hxf; exact Heap.lt_size ho
      · exact ih hr a (mem_frs hx hxf)
  have hfl := hfl outer hff
  refine callType_codes (Q₁ := fun obj s₁ => obj = .ref s.heap.objs.size ∧ s₁ = { s with heap := s.heap.push { cls := .type "list", data := .seq #[] } }) PySem.F.called_list (PySem.F.typeCall_list_1 _) PySem.F.entry_list_init
    (code_list_new _ ⟨rfl, rfl⟩) fun obj s₁ h₁ => ?_
  obtain ⟨rfl, rfl⟩ := h₁
  generalize hSd : s.heap.objs.size = S at *
  have hS₁ : (s.heap.push { cls := .type "list", data := .seq #[] }).get? S = some { cls := .type "list", data := .seq #[] } := hSd ▸ Heap.get?_push_size _ rfl
  have kp : ∀ b o, s.heap.get? b = some o → (s.heap.push { cls := .type "list", data := .seq #[] }).get? b = some o := fun b o e => Heap.get?_push_of_some _ e
  refine ⟨⟨_, hS₁, rfl⟩, PySem.F.args_list_init_2 _ _, ?_⟩
  show wpAny _ A.in1.in1 (do let old ← Builtin.List.listItems (.ref S); Builtin.List.listUpdate (.ref S) (fun _ => #[]); letGo old.toList.reverse; Builtin.List.listExtendWith (.ref S) (.ref X.lex) .none) _ _ _
  refine wpAny_bind ?_
  unfold Builtin.List.listItems
  refine wpAny_bind (wpAny_seqItems hS₁ rfl (wpAny_pure ?_))
  show wpAny _ A.in1.in1 (updateSeq S (fun _ => #[]) >>= fun _ => letGo (#[] : Array Value).toList.reverse >>= fun _ => Builtin.List.listExtendWith (.ref S) (.ref X.lex) .none) _ _ _
  refine wpAny_bind (wpAny_updateSeq hS₁ rfl ?_)
  have hS₂ := Heap.get?_update_self (Obj.mapSeq (fun _ => (#[] : Array Value))) hS₁ rfl
  have kp2 : ∀ b o, s.heap.get? b = some o → ((s.heap.push { cls := .type "list", data := .seq #[] }).update S (Obj.mapSeq (fun _ => (#[] : Array Value)))).get? b = some o := fun b o e =>
    (Heap.get?_update_other _ _ (Nat.ne_of_gt (hSd ▸ Heap.lt_size e))).trans (kp b o e)
  refine wpAny_bind (wpAny_letGo ?_)
  generalize (s.heap.push { cls := .type "list", data := .seq #[] }).update S (Obj.mapSeq (fun _ => (#[] : Array Value))) = hp2 at *
  have hA2 : LexAt X hp2 (stOf f t1) p := hA.step fun b o _ e => kp2 b o e
  have G₂ : Gd w mg mb hp2 := (G₀.keeps k₀).keeps kp2
  obtain ⟨od, I⟩ := hA2.inst
  unfold Builtin.List.listExtendWith
  refine wpAny_bind (I.type.here ?_)
  have h1 : Builtin.List.listSameRef (.ref S) (.ref X.lex) = false := by
    simp [Builtin.List.listSameRef]; exact Nat.ne_of_gt (has X.lex (.head _))
  have h2 : (Value.ref 754 == Value.type "list") = false := by decide
  have h3 : (Value.ref 754 == Value.type "tuple") = false := by decide
  simp only [h1, h2, h3, Bool.or_false, Bool.false_eq_true, if_false]
  refine wpAny_bind (pyIter_own (mg := mg) (mb := mb) G₂ hA2 (by show A.depth < 900; omega) fun s₃ hk₃ => ?_)
  obtain ⟨h₃, tk₃, rfl, kk₃⟩ := hk₃
  have hA3 : LexAt X h₃ (stOf f t1) p := hA2.step fun b o _ e => kk₃ b o e
  have G₃ : Gd w mg mb h₃ := G₂.keeps kk₃
  obtain ⟨od3, I3⟩ := hA3.inst
  refine wpAny_bind (wpAny_holding ?_)
  unfold Builtin.List.listLengthHint
  refine wpAny_bind (wpAny_bind (I3.type.here ((looks_findIn G₃.K findIn_len).here ?_)))
  show wpAny _ _ (specialOf (Value.ref X.lex) (Str.ofString "__length_hint__") >>= _) _ _ _
  refine wpAny_bind (wpAny_bind (I3.type.here ((looks_findIn G₃.K findIn_hint).here ?_)))
  refine wpAny_pure ?_
  show wpAny _ _ (rule "list.extend.makes-room" >>= fun _ => Builtin.List.listTouch (.ref S) >>= fun _ =>
    again (.builtin "list.extend.loop" ⟨[.ref S, .ref X.lex, .none], []⟩)) _ _ _
  refine wpAny_bind (wpAny_rule ?_)
  refine wpAny_bind ?_
  show wpAny _ _ (updateSeq S (·.push .none) >>= fun _ => updateSeq S (·.pop)) _ _ _
  have hS₃ := kk₃ _ _ hS₂
  refine wpAny_bind (wpAny_updateSeq hS₃ rfl ?_)
  have hS₄ := Heap.get?_update_self (Obj.mapSeq (·.push Value.none)) hS₃ rfl
  refine wpAny_updateSeq (hz := by seq_fits) hS₄ rfl ?_
  have hS₅ := Heap.get?_update_self (Obj.mapSeq (·.pop)) hS₄ rfl
  have oth : ∀ b o, b ≠ S → h₃.get? b = some o → ((h₃.update S (Obj.mapSeq (·.push Value.none))).update S (Obj.mapSeq (·.pop))).get? b = some o :=
    fun b o hb e => (Heap.get?_update_other _ _ (Ne.symm hb)).trans ((Heap.get?_update_other _ _ (Ne.symm hb)).trans e)
  have all : ∀ b o, s.heap.get? b = some o → ((h₃.update S (Obj.mapSeq (·.push Value.none))).update S (Obj.mapSeq (·.pop))).get? b = some o := fun b o e => oth b o (Nat.ne_of_lt (hSd ▸ Heap.lt_size e)) (kk₃ b o (kp2 b o e))
  have hne : ∀ a, a < S → S ≠ a := fun a ha => Nat.ne_of_gt ha
  refine wpAny_pure ⟨plainId_quiet PySem.F.plain_extend_loop _, ext_loop (mg := mg) (mb := mb) (A := A.in1) (outer := outer) G₀ O hfr hh hfn (fun q => hne _ (has _ q) rfl) (hne _ hpb) (hne _ hfs) (fun q => hne _ (hfl _ q) rfl) ?_ hroom H
    (fun b o e => all b o (k₀ b o e)) (funFrames_oth (S := S) (fun b o _ e => all b o e) (fun a ha q => hne _ (hfl _ ha) q.symm) hff) (hA.step fun b o _ e => all b o e) hp hcs hS₅ (by show _ + ts.length ≤ _; simpa [Obj.mapSeq] using hsz) fun s' vs c' hm hS' hv => ?_⟩
  · cases e : h₀.get? S with
    | none => rfl
    | some o => exact absurd (hSd ▸ Heap.lt_size (k₀ _ _ e)) (Nat.lt_irrefl _)
  · refine ⟨rfl, h s' vs c' ?_ (by simpa using hS') hv⟩
    obtain ⟨h', tk, rfl, k1, k2⟩ := hm
    refine ⟨h', tk, rfl, fun b o n1 n2 e => ?_, fun b o n1 n2 e hd => ?_⟩
    · have hb : b ∉ [X.ld, X.sd, S] := fun q => by
        rcases List.mem_cons.mp q with r | r
        · exact n2 (r ▸ .head _)
        · rcases List.mem_cons.mp r with r | r
          · exact n2 (r ▸ .tail _ (.head _))
          · rcases List.mem_cons.mp r with r | r
            · exact absurd (hSd ▸ r ▸ Heap.lt_size e) (Nat.lt_irrefl _)
            · cases r
      exact k1 b o n1 hb (all b o e)
    · have hb : b ∉ [X.ld, X.sd, S] := fun q => by
        rcases List.mem_cons.mp q with r | r
        · exact n2 (r ▸ .head _)
        · rcases List.mem_cons.mp r with r | r
          · exact n2 (r ▸ .tail _ (.head _))
          · rcases List.mem_cons.mp r with r | r
            · exact absurd (hSd ▸ r ▸ Heap.lt_size e) (Nat.lt_irrefl _)
            · cases r
      exact k2 b o n1 hb (all b o e) hd
theorem pk_made {w : World} : peek (Mine.hd.heap_39 w.params) ⟨prog, w.params⟩ (Bind.madeBy (.ref 619)) = some none := by kernel_rfl
theorem pk_here {w : World} : peek (Mine.hd.heap_39 w.params) ⟨prog, w.params⟩ (Bind.madeHere "object.__new__" (.ref 619)) = some () := by kernel_rfl
theorem pk_isType {w : World} : peek (Mine.hd.heap_39 w.params) ⟨prog, w.params⟩ (isType (.ref 619)) = some true := by kernel_rfl
theorem pk_type {w : World} : peek (Mine.hd.heap_39 w.params) ⟨prog, w.params⟩ (isInstance (.ref 619) (.type "type")) = some true := by kernel_rfl
theorem pk_mro {w : World} : peek (Mine.hd.heap_39 w.params) ⟨prog, w.params⟩ (mroOf (.ref 619)) = some [.ref 619, .ref 142, .ref 115, .type "object"] := by kernel_rfl
theorem pk_call {w : World} : peek (Mine.hd.heap_39 w.params) ⟨prog, w.params⟩ (specialOf (.ref 619) "__call__") = some (some (.builtin "type.__call__")) := by kernel_rfl
theorem pk_sub {w : World} : peek (Mine.hd.heap_39 w.params) ⟨prog, w.params⟩ (isSubtype (.ref 619) (.ref 619)) = some true := by kernel_rfl
theorem pk_init {w : World} : peek (Mine.hd.heap_39 w.params) ⟨prog, w.params⟩ (typeLookup (.ref 619) "__init__") = some (some (.ref 389)) := by kernel_rfl
theorem pk_bind {w : World} (x : Value) : peek (Mine.hd.heap_39 w.params) ⟨prog, w.params⟩ (bindSpecial (.ref 389) x) = some (.ref 389, [x]) := by kernel_rfl
theorem pk_check {w : World} : peek (Mine.hd.heap_39 w.params) ⟨prog, w.params⟩ (checkBuiltinCall "object.__new__" ⟨[.ref 619], []⟩) = some () := by kernel_rfl
theorem cls619 {w : World} : ∃ oc od cd sl, (Mine.hd.heap_39 w.params).lookup 619 = some ⟨oc, od, .cls cd, sl⟩ ∧ cd.abstract = false ∧ cd.hasDel = false ∧ cd.mro.isEmpty = false := ⟨_, _, _, _, by k_dflt k_is, rfl, rfl, rfl⟩
theorem lkp {w : World} {h : Heap} {α : Type} {t : Sem α} {r : α} (X : (Mine.hd.heap_39 w.params).In h) (e : peek (Mine.hd.heap_39 w.params) ⟨prog, w.params⟩ t = some r) : Looks (model prog w) h t r := Looks.of_peek X e

theorem new_sio {w : World} {A : Around} {R : Result → Shared → Prop} {s : Shared} (X : (Mine.hd.heap_39 w.params).In s.heap)
    (hq : R (.ok (.ret (.ref (s.heap.objs.size + 1)))) { s with heap := (s.heap.push emptyDict).push (instObj 619 s.heap.objs.size) }) :
    codeAny (model prog w) A (.call (.builtin "object.__new__") ⟨[.ref 619], []⟩) R s := by
  obtain ⟨oc, od, cd, sl, hC0, e1, e2, e4⟩ := cls619 (w := w)
  have hC := X _ _ hC0
  have FO := PySem.F.objNew
  refine codeAny_call_builtin_code (Code.quiet_builtin _ FO.quiet) ((lkp X pk_check).here (codeAny_builtin FO.entry ?_))
  unfold Builtin.«object.__new__»
  refine wpAny_bind ((lkp X pk_isType).here ?_)
  simp only [Bool.not_true, Bool.false_eq_true, if_false]
  refine wpAny_bind ((lkp X pk_here).here ?_)
  simp only [List.isEmpty_nil, Bool.not_true, Bool.or_self, Bool.false_eq_true, if_false]
  unfold classData
  first | refine wpAny_bind (wpAny_bind (wpAny_load hC (wpAny_pure ?_))) | refine wpAny_bind (wpAny_bind (wpAny_loadPart hC (wpAny_pure ?_)))
  rw [e1]
  simp only [Bool.false_eq_true, if_false]
  show wpAny _ _ ((alloc emptyDict >>= fun x => pure (some x)) >>= _) _ _ _
  refine wpAny_bind (wpAny_bind (wpAny_alloc (wpAny_pure (wpAny_bind ?_))))
  show wpAny _ _ (newObjAsIs _ _ _) _ _ _
  unfold newObjAsIs classHasDel
  refine wpAny_bind (wpAny_alloc (wpAny_bind (wpAny_bind (wpAny_loadPart (Heap.get?_push_of_some _ (Heap.get?_push_of_some _ hC)) (wpAny_pure ?_)))))
  rw [e2]
  refine wpAny_pure (wpAny_pure ?_)
  show R _ _
  rw [Heap.size_push]
  exact hq

theorem call_pureV {w : World} {A : Around} {s s₁ : Shared} {mg mb : Str → Option Value} {R : Result → Shared → Prop} {name qual : Str} {params : Arguments} {body : List Stmt} {scope : Scope} {dV kV doc pm cdv ct oc : Value} {an od : Option Addr} {osl : Array (Option Value)} {f : Addr} {args : Args} {binds : List (Str × Value)}
    (G : Gd w mg mb s.heap) (hs : Keeps s s₁) (hsz : s.heap.objs.size ≤ s₁.heap.objs.size)
    (ho : (Mine.hd.heap_39 w.params).lookup f = some ⟨oc, od, .func (fnOf name qual params body scope dV kV doc pm an cdv ct), osl⟩) (hcd : codeIn (Mine.hd.heap_39 w.params) cdv qual = true) (hroom : A.depth < recursionLimit)
    (hbind : ∀ (A' : Around) (E : Value → Shared → Prop) (Q : List (Str × Value) → Shared → Prop), Q binds s₁ → wpAny (model prog w) A' (bindArgs (fnOf name qual params body scope dV kV doc pm an cdv ct) args) Q E s) (hloc : ∀ y ∈ binds, scope.names.lookup y.1 = some .local)
    (h : ∀ L h₁, Fr s.heap L h₁ (fun y => binds.reverse.lookup y) → Gd w mg mb s.heap →
      wpAny (model prog w) (A.deeper (envOf qual scope L f cdv)) (execs body (envOf qual scope L f cdv))
        (fun fl s' => R (.ok (.ret (match fl with | .ret v => v | _ => .none))) s') FalseE { s with heap := h₁, toks := s₁.toks + binds.length })
    (hco : scope.isCoroutine = false := by rfl) (hgen : scope.isGenerator = false := by rfl) (hk : scope.kind = .function := by rfl)
    (hcell : ∀ x ∈ scope.names, x.2 ≠ .cell := by decide) : codeAny (model prog w) A (.call (.ref f) args) R s := by
  obtain ⟨h', tk, rfl, kk⟩ := hs
  refine codeAny_call_function (fd := fnOf name qual params body scope dV kV doc pm an cdv ct) (body := body) hroom (G.K _ _ ho) rfl hco hgen rfl (codeRec_of G.K hcd) (hbind _ _ _ ?_)
  refine wpAny_newFunctionEnv hcell hloc (fun h₀ hns₀ hsb₀ => ⟨(G.keeps kk).T.nolimit.fresh _ hsb₀, codeAny_func ?_⟩) hk
  have k2 : ∀ b o, h'.get? b = some o → h₀.get? b = some o := fun b o e => hsb₀.extBut b o (Nat.ne_of_lt (Heap.lt_size e)) (Heap.get?_push_of_some _ e)
  exact wpAny_mono (h h'.objs.size h₀ ⟨hns₀, fun b o e => k2 b o (kk b o e), hsz⟩ G) (fun _ _ x => x) fun _ _ x => x.elim

theorem lineM2_1 : True := by
  (k_with "call builtin:object.__new__" => (k_here; k_dflt (refine wpAny_call (new_sio (Frag.In.keeps (by k_asm) (Fr.keep (by k_asm))) ?_)); (try dsimp only)))
  trivial
set_option maxHeartbeats 4000000 in
theorem new112 {w : World} {A : Around} {s : Shared} {mg mb : Str → Option Value} {R : Result → Shared → Prop} {v : Value} (G : Gd w mg mb s.heap) (hroom : A.depth < 900)
    (h : ∀ s' x dx, Keeps s s' → s'.heap.get? x = some (instObj 619 dx) → s'.heap.get? dx = some emptyDict → s.heap.get? x = none → s.heap.get? dx = none → s.heap.objs.size ≤ dx → dx < x → R (.ok (.ret (.ref x))) s') :
    codeAny (model prog w) A (.call (.ref 112) ⟨[.ref 619, v], []⟩) R s := by
  refine' call_pureV G (s₁ := { s with heap := (s.heap.push { cls := .type "tuple", data := .seq #[v] }).push emptyDict }) (binds := [("cls", .ref 619), ("args", .ref s.heap.objs.size), ("kwargs", .ref (s.heap.objs.size + 1))]) ?hs ?hsz ?ho ?hcd ?hr ?hb ?hl ?_ ?c1 ?c2 ?c3 ?c4
  case hs => exact ⟨_, _, rfl, fun b o e => Heap.get?_push_of_some _ (Heap.get?_push_of_some _ e)⟩
  case hsz => simp only [Heap.size_push]; omega
  case ho => k_dflt k_is
  case hcd => k_dflt k_is
  case hr => k_room
  case hb =>
    intro A' E Q hq
    show wpAny _ _ (newTuple [v] >>= fun t => (alloc emptyDict >>= fun d => pure [(Str.ofString "cls", Value.ref 619), (Str.ofString "args", t), (Str.ofString "kwargs", .ref d)])) _ _ _
    refine wpAny_bind (wpAny_newObj_type (wpAny_bind (wpAny_alloc (wpAny_pure ?_))))
    simp only [Heap.size_push]
    exact hq
  case hl => exact locs rfl
  case c1 => rfl
  case c2 => rfl
  case c3 => rfl
  case c4 => decide
  intro L h₁ F G
  have KX := G.K
  have TT := G.T
  have N : News s.heap L h₁ [] := News.nil
  k_steps
  have nn : ∀ x, h₁.objs.size ≤ x → s.heap.get? x = none := fun x hx => by
    cases e : s.heap.get? x with
    | none => rfl
    | some o => exact absurd (Nat.lt_of_lt_of_le (Heap.lt_size e) (Nat.le_trans F.above (Nat.le_trans (Nat.le_of_lt F.ns.lt) hx))) (Nat.lt_irrefl _)
  exact h _ _ h₁.objs.size ⟨_, _, rfl, fun b o e => Heap.get?_push_of_some _ (Heap.get?_push_of_some _ (F.keep b o e))⟩ (by heap_get) (by heap_get) (nn _ (Nat.le_succ _)) (nn _ (Nat.le_refl _)) (Nat.le_trans F.above (Nat.le_of_lt F.ns.lt)) (Nat.lt_succ_self _)

theorem sio_of {h : Heap} {a : Addr} {h0 h1 h2 : Int} {k0 k1 k2 : Tok} {nl : Value} {buf : Str} {bt : Tok} {p : Int} {pt : Tok}
    (hd : h.get? a = some (dictOf [⟨h0, .str "_StringIO__newline" k0, nl⟩, ⟨h1, .str "_StringIO__buf" k1, .str buf bt⟩, ⟨h2, .str "_StringIO__pos" k2, .int p pt⟩] 3)) : ∃ e k, h.get? a = some (sioD e k nl buf bt p pt) :=
  ⟨fun i => match i with | 0 => h0 | 1 => h1 | _ => h2, fun i => match i with | 0 => k0 | 1 => k1 | _ => k2, hd⟩
set_option maxHeartbeats 4000000 in
theorem init389 {w : World} {A : Around} {s : Shared} {mg mb : Str → Option Value} {R : Result → Shared → Prop} {h₀ : Heap} {x dx : Addr} {txt : Str} {t : Tok}
    (G₀ : Gd w mg mb h₀) (k₀ : ∀ b o, h₀.get? b = some o → s.heap.get? b = some o) (hx : s.heap.get? x = some (instObj 619 dx)) (hx0 : h₀.get? x = none) (hd : s.heap.get? dx = some emptyDict) (hd0 : h₀.get? dx = none) (hne : x ≠ dx) (hroom : A.depth < 890)
    (h : ∀ s' e k nl bt pt, KeepsBut [dx] s s' → s'.heap.get? dx = some (sioD e k nl txt bt 0 pt) → R (.ok (.ret .none)) s') :
    codeAny (model prog w) A (.call (.ref 389) ⟨[.ref x, .str txt t], []⟩) R s := by
  have KXs := (G₀.keeps k₀).K
  have hn : ∀ q ∈ [(x, instObj 619 dx), (dx, dictOf [] 0)], s.heap.get? q.1 = some q.2 ∧ h₀.get? q.1 = none := by
    intro q hq
    simp only [List.mem_cons, List.mem_nil_iff, or_false] at hq
    rcases hq with rfl | rfl
    · exact ⟨hx, hx0⟩
    · exact ⟨hd, hd0⟩
  refine' call_led G₀ k₀ hn ?ho ?hcd ?hr ?hb ?hl ?_ ?c1 ?c2 ?c3 ?c4
  case ho => k_dflt k_is
  case hcd => k_dflt k_is
  case hr => k_room
  case hb => exact binds_K KXs rfl (by k_dflt k_is) rfl rfl rfl
  case hl => exact locs rfl
  case c1 => rfl
  case c2 => rfl
  case c3 => rfl
  case c4 => decide
  intro g L h₁ kg F N KX TT
  have hne2 := neN hne
  k_steps
  rename Fr g _ _ _ => F'
  rename News g _ _ _ => N'
  obtain ⟨e, k, hd'⟩ := sio_of (N' _ (.tail _ (.head _))).1
  exact h _ e k _ _ _ (keepsBut_led kg F' N' hx) hd'

theorem make_sio {w : World} {A : Around} {s : Shared} {mg mb : Str → Option Value} {R : Result → Shared → Prop} {txt : Str} {t : Tok} (G : Gd w mg mb s.heap) (hroom : A.depth < 880)
    (h : ∀ s' x dx e k nl bt pt, Keeps s s' → s'.heap.get? x = some (instObj 619 dx) → s'.heap.get? dx = some (sioD e k nl txt bt 0 pt) → s.heap.get? x = none → s.heap.get? dx = none → s.heap.objs.size ≤ dx → dx < x → R (.ok (.ret (.ref x))) s') :
    codeAny (model prog w) A (.call (.ref 619) ⟨[.str txt t], []⟩) R s := by
  obtain ⟨oc, od, cd, sl, hC0, e1, e2, e4⟩ := cls619 (w := w)
  have X := G.K
  have hC := X _ _ hC0
  refine codeAny_of_tree ?_
  show wpAny _ _ (callAny (.ref 619) _) _ _ _
  refine nd_load hC ?_
  show wpAny _ _ (callAny.viaDunder (.ref 619) _) _ _ _
  unfold callAny.viaDunder
  refine wpAny_bind ((lkp X pk_call).here ?_)
  dsimp only
  rw [tc_bind]
  refine wpAny_bind (wpAny_pure (wpAny_bind (wpAny_pure ?_)))
  refine wpAny_pure (a := Fin.again (.call (.builtin "type.__call__") ⟨[.ref 619, .str txt t], []⟩)) (And.intro rfl ?_)
  refine codeAny_call_builtin_at (Code.quiet_builtin _ (by decide +kernel)) entry_typeCall (check_slot tc_kind tc_split (lkp X pk_type) (tc_args _ _ _) ?_)
  unfold Builtin.«type.__call__»
  show wpAny _ _ (mroOf (.ref 619) >>= _) _ _ _
  refine wpAny_bind ((lkp X pk_mro).here ?_)
  simp only [List.isEmpty_cons, Bool.false_eq_true, if_false]
  refine wpAny_bind (m := Bind.madeBy (.ref 619)) ((lkp X pk_made).here ?_)
  dsimp only
  refine wpAny_bind (cls_bind (mc := .type "type") X (by k_dflt k_is) (by k_dflt k_is) (wpAny_call (sm_get (s := { s with toks := s.toks + 1 }) X (by k_dflt k_is) (handed_on rfl ?_))))
  refine wpAny_bind (wpAny_holding (wpAny_call (new112 (s := { s with toks := s.toks + 1 }) (mg := mg) (mb := mb) G (by k_room) fun s₁ x dx hk hx hd hx0 hd0 hsz hlt => ?_)))
  obtain ⟨h₁, tk₁, rfl, kk⟩ := hk
  have X₁ := Frag.In.keeps X kk
  have hi : Looks (model prog w) h₁ (isInstance (.ref x) (.ref 619)) true := ((Looks.ld hx).andThen .now).andThen (lkp X₁ pk_sub)
  refine wpAny_bind (hi.here ?_)
  simp only [Bool.not_true, Bool.false_eq_true, if_false]
  have hne : x ≠ dx := Nat.ne_of_gt hlt
  have I : InstAt h₁ x (instObj 619 dx) 619 (some emptyDict) := ⟨hx, rfl, rfl, hd⟩
  refine wpAny_bind (wpAny_holding (special_fn (f := 389) (args := [.str txt t]) X₁ I (by k_dflt k_is) (by k_dflt k_is) (wpAny_call (init389 (mg := mg) (mb := mb) (h₀ := s.heap) G kk hx hx0 hd hd0 hne (by k_room) fun s₂ e k nl bt pt hk₂ hd₂ => ?_))))
  obtain ⟨h₂, tk₂, rfl, kk₂⟩ := hk₂
  show wpAny _ _ (ret (.ref x)) _ _ _
  refine wpAny_pure (h _ x dx e k nl bt pt ⟨h₂, tk₂, rfl, fun b o eq => kk₂ b o (fun q => ?_) (kk b o eq)⟩ (kk₂ _ _ (fun q => hne (by simpa using q)) hx) hd₂ hx0 hd0 hsz hlt)
  rw [show b = dx by simpa using q, hd0] at eq
  cases eq
theorem dq_mro : mroOf (.type "collections.deque") = pure [.type "collections.deque", .type "object"] := by rw [mroOf_type]; kernel_rfl
theorem dq_lookup_new : typeLookup (.type "collections.deque") "__new__" = pure (some (.builtin "collections.deque.__new__")) := by rw [typeLookup_type, builtinLookup_eq_fast]; kernel_rfl
theorem dq_slot_init : Slot "collections.deque" "__init__" "collections.deque.__init__" :=
  .of (owner := "collections.deque") (n := "__init__") (by rw [typeLookup_type, builtinLookup_eq_fast]; kernel_rfl) (by decide +kernel) (by decide +kernel) (by decide +kernel)
    (by first | exact .inl (by decide +kernel) | exact .inr (by decide +kernel)) (by rw [isSubtype_type]; kernel_rfl)
theorem dq_sub : isSubtype (.type "collections.deque") (.type "collections.deque") = pure true := by rw [isSubtype_type]; kernel_rfl
theorem dq_called : TypeCalled "collections.deque" "collections.deque.__new__" "collections.deque.__init__" :=
  ⟨by decide +kernel, by decide +kernel, ⟨_, _, dq_mro⟩, madeBy_type dq_mro dq_lookup_new (by decide +kernel), by decide +kernel, dq_sub, dq_slot_init⟩
theorem dq_typeCall : checkTypeCall "collections.deque" ⟨[], []⟩ = pure () := by kernel_rfl
theorem dq_newCall : checkBuiltinCall "collections.deque.__new__" ⟨[.type "collections.deque"], []⟩ = pure () := by kernel_rfl
theorem dq_entry_new : entryFor table "collections.deque.__new__" = some Builtin.«collections.deque.__new__» := entryFor_of_tree (by kernel_rfl)
theorem dq_entry_init : entryFor table "collections.deque.__init__" = some Builtin.«collections.deque.__init__» := entryFor_of_fast (by kernel_rfl)
theorem dq_plain_new : plainId "collections.deque.__new__" = true := by decide +kernel
theorem dq_args (a : Value) : argsOk "collections.deque.__init__" ⟨[a], []⟩ := by unfold argsOk; kernel_rfl
abbrev dqObj : Obj := { cls := .type "collections.deque", data := .fields #[.none, rawInt 0] }
section
variable {w : World} {A : Around} {E : Value → Shared → Prop} {s : Shared}
theorem code_deque_new {Q₁ : Value → Shared → Prop}
    (h : Q₁ (.ref s.heap.objs.size) { s with heap := s.heap.push dqObj }) :
    codeAny (model prog w) A (.call (.builtin "collections.deque.__new__") ⟨[.type "collections.deque"], []⟩) (wants Q₁ E) s := by
  refine codeAny_of_tree ?_
  show wpAny _ A.in1 (do checkBuiltinCall "collections.deque.__new__" ⟨[.type "collections.deque"], []⟩; again (.builtin "collections.deque.__new__" ⟨[.type "collections.deque"], []⟩)) _ _ s
  refine wpAny_bind (wpAny_of_eq dq_newCall (wpAny_pure ⟨plainId_quiet dq_plain_new _, codeAny_builtin dq_entry_new ?_⟩))
  rw [Around.under_plainId dq_plain_new _]
  have hsub : isSubtype (.type "collections.deque") (.type Builtin.Deque.ty) = pure true := dq_sub
  obtain ⟨hp, g, d, tk, os⟩ := s
  unfold Builtin.«collections.deque.__new__» Builtin.Deque.newArgs Builtin.Deque.new
  wp_walk
  exact h
theorem call_deque {Q : Value → Shared → Prop} (h : ∀ h' D, (∀ b o, s.heap.get? b = some o → h'.get? b = some o) → h'.get? D = some dqObj → s.heap.get? D = none → s.heap.objs.size ≤ D → Q (.ref D) { s with heap := h' }) :
    wpAny (model prog w) A (call (.type "collections.deque") []) Q E s := by
  refine callType_codes (Q₁ := fun obj s₁ => obj = .ref s.heap.objs.size ∧ s₁ = { s with heap := s.heap.push dqObj }) dq_called dq_typeCall dq_entry_init (code_deque_new ⟨rfl, rfl⟩) fun obj s₁ h₁ => ?_
  obtain ⟨rfl, rfl⟩ := h₁
  have hS₁ : (s.heap.push dqObj).get? s.heap.objs.size = some dqObj := Heap.get?_push_size _ rfl
  refine ⟨⟨_, hS₁, rfl⟩, dq_args _, ?_⟩
  show wpAny _ _ (setField (.ref s.heap.objs.size) 0 .none >>= fun _ => Builtin.Deque.clear (.ref s.heap.objs.size) >>= fun _ => ret .none) _ _ _
  refine wpAny_bind (wpAny_setField hS₁ rfl (by decide) ?_)
  have hS₂ := Heap.get?_update_self (Obj.mapFields (·.setIfInBounds 0 Value.none)) hS₁ (Obj.isFreed_of_fields (Obj.data_mapFields rfl _))
  refine wpAny_bind ?_
  unfold Builtin.Deque.clear Builtin.Deque.items fieldsOf
  refine wpAny_bind (wpAny_bind (wpAny_bind (wpAny_load hS₂ (wpAny_pure (wpAny_pure ?_)))))
  rw [if_neg (by decide)]
  refine wpAny_pure (wpAny_pure ⟨rfl, h _ _ (fun b o e => (Heap.get?_update_other _ _ (Nat.ne_of_gt (Heap.lt_size e))).trans (Heap.get?_push_of_some _ e)) hS₂ ?_ (Nat.le_refl _)⟩)
  cases e : s.heap.get? s.heap.objs.size with
  | none => rfl
  | some o => exact absurd (Heap.lt_size e) (Nat.lt_irrefl _)
end
section
variable {w : World} {A : Around} {E : Value → Shared → Prop} {s : Shared} {mg mb : Str → Option Value} {h₀ : Heap} {L : Addr} {m : Str → Option Value} {news : List (Addr × Obj)} {Q : Value → Shared → Prop}
theorem News.add {h' : Heap} {D : Addr} {o : Obj} (F : Fr h₀ L s.heap m) (N' : News h₀ L h' news) (hD : h'.get? D = some o) (hlt : s.heap.objs.size ≤ D) : News h₀ L h' ((D, o) :: news) := by
  intro q hq
  rcases List.mem_cons.mp hq with rfl | hq
  · refine ⟨hD, fun e => ?_, ?_⟩
    · have := F.ns.lt
      rw [← show D = L from e] at this
      exact absurd (Nat.lt_of_lt_of_le this hlt) (Nat.lt_irrefl _)
    · cases e : h₀.get? D with
      | none => rfl
      | some o => exact absurd (Nat.lt_of_lt_of_le (Heap.lt_size (F.keep _ _ e)) hlt) (Nat.lt_irrefl _)
  · exact N' q hq
theorem sio_K {txt : Str} {t : Tok} (F : Fr h₀ L s.heap m) (X : (Mine.hd.heap_39 w.params).In h₀) (T : TopRead Mine.hd.view_39 LO mg mb h₀) (N : News h₀ L s.heap news) (hroom : A.depth < 880)
    (h : ∀ x dx e k nl bt pt h' tk, Fr h₀ L h' m → News h₀ L h' ((x, instObj 619 dx) :: (dx, sioD e k nl txt bt 0 pt) :: news) → (∀ p ∈ news, p.1 < dx) → dx < x → Q (.ref x) { s with heap := h', toks := tk }) :
    wpAny (model prog w) A (call (.ref 619) [.str txt t]) Q E s := by
  refine wpAny_call (make_sio (mg := mg) (mb := mb) (Gd.of F X T) hroom fun s' x dx e k nl bt pt hk hx hd hx0 hd0 hsz hlt => ?_)
  obtain ⟨h', tk, rfl, F', N'⟩ := Keeps.use hk F N
  exact h x dx e k nl bt pt h' tk F' (News.add F (News.add F N' hd hsz) hx (Nat.le_trans hsz (Nat.le_of_lt hlt))) (fun p hp => Nat.lt_of_lt_of_le (Heap.lt_size (N p hp).1) hsz) hlt
theorem deque_K (F : Fr h₀ L s.heap m) (N : News h₀ L s.heap news)
    (h : ∀ D h', Fr h₀ L h' m → News h₀ L h' ((D, dqObj) :: news) → (∀ p ∈ news, p.1 < D) → Q (.ref D) { s with heap := h' }) :
    wpAny (model prog w) A (call (.type "collections.deque") []) Q E s :=
  call_deque fun h' D kk hD hD0 hsz => h D h' (F.keeps kk) (News.add F (N.grown kk) hD hsz) fun p hp => Nat.lt_of_lt_of_le (Heap.lt_size (N p hp).1) hsz
end
theorem lineS0_1 : True := by
  (k_with "call type:collections.deque" => (k_here; k_dflt (refine' deque_K ?zqk1 ?zqk2 ?_; (case zqk1 => k_asm); (case zqk2 => k_asm); k_whole); intro _ _ _ _ zl1; (try k_lt zl1); (try k_sweep)))
  trivial
theorem lineS0_2 : True := by
  (k_with "call ref" => (k_here; (with_reducible show wpAny _ _ (call (Value.ref 619) _) _ _ _); k_dflt ((refine' sio_K ?zqk1 ?zqk2 ?zqk3 ?zqk4 ?zqr ?_; (case zqk1 => k_asm); (case zqk2 => k_asm); (case zqk3 => k_asm); (case zqk4 => k_asm); (case zqr => k_room); k_whole); intro _ _ _ _ _ _ _ _ _ _ _ zl1 zl2; (try k_lt zl1); (try k_lt2 zl2); (try k_sweep))))
  trivial
theorem lineS0_3 : True := by
  (k_with "call ref" => (k_here; (with_reducible show wpAny _ _ (call (Value.ref 754) _ _) _ _ _); k_dflt ((refine' call_cls ?zqk1 ?zqk2 ?zqk3 ?zqk4 ?zqk5 ?zqk6 ?_; (case zqk1 => k_asm); (case zqk2 => k_asm); (case zqk3 => k_asm); (case zqk4 => k_is); (case zqk5 => k_is); (case zqk6 => k_is); k_whole; intro _ _ zh' zF' zN' zl1 zl2; (try k_lt zl1); (try k_lt2 zl2); (try k_sweep)); (refine' code_defM ?zqk2 ?zqk3 ?zqk4 ?zqk5 ?zqk6 ?zqk7 ?zqk8 ?zqk9 ?zqkB ?_ ?zqc2 ?zqc3 ?zqc4 ?zqc5; (case zqk2 => k_asm); (case zqk3 => k_asm); (case zqk4 => k_asm); (case zqk5 => k_asm); (case zqk6 => k_is); (case zqk7 => k_is); (case zqk8 => k_room); (case zqk9 => first | exact BindsTo.of_eq rfl | exact binds_K (by k_in) rfl (by k_is) rfl rfl rfl); (case zqc5 => decide); (case zqkB => exact locs rfl); (case zqc2 => exact rfl); (case zqc3 => exact rfl); (case zqc4 => exact rfl); k_whole; intro _ _ zh' _ zF' zN' _ _; (try dsimp only)))))
  trivial
theorem lex_of {h : Heap} {a : Addr} {h0 h1 h2 h3 h4 h5 h6 h7 h8 h9 h10 h11 h12 h13 h14 h15 h16 h17 h18 : Int} {k0 k1 k2 k3 k4 k5 k6 k7 k8 k9 k10 k11 k12 k13 k14 k15 k16 k17 k18 : Tok} {u4 u5 u6 u8 u9 u10 u13 u14 u18 : Tok} {sio pb fs : Addr} {wc : Str} {st tk : Value}
    (hd : h.get? a = some (dictOf [⟨h0, .str "instream" k0, .ref sio⟩, ⟨h1, .str "infile" k1, .none⟩, ⟨h2, .str "posix" k2, .bool true⟩, ⟨h3, .str "eof" k3, .none⟩, ⟨h4, .str "commenters" k4, .str "" u4⟩, ⟨h5, .str "wordchars" k5, .str wc u5⟩, ⟨h6, .str "whitespace" k6, .str " \t\r\n" u6⟩, ⟨h7, .str "whitespace_split" k7, .bool true⟩, ⟨h8, .str "quotes" k8, .str "'\"" u8⟩, ⟨h9, .str "escape" k9, .str "\\" u9⟩, ⟨h10, .str "escapedquotes" k10, .str "\"" u10⟩, ⟨h11, .str "state" k11, st⟩, ⟨h12, .str "pushback" k12, .ref pb⟩, ⟨h13, .str "lineno" k13, .int 1 u13⟩, ⟨h14, .str "debug" k14, .int 0 u14⟩, ⟨h15, .str "token" k15, tk⟩, ⟨h16, .str "filestack" k16, .ref fs⟩, ⟨h17, .str "source" k17, .none⟩, ⟨h18, .str "_punctuation_chars" k18, .str "" u18⟩] 19)) : ∃ e k u, h.get? a = some (lexD e k u sio pb fs wc st tk) :=
  ⟨fun i => match i with | 0 => h0 | 1 => h1 | 2 => h2 | 3 => h3 | 4 => h4 | 5 => h5 | 6 => h6 | 7 => h7 | 8 => h8 | 9 => h9 | 10 => h10 | 11 => h11 | 12 => h12 | 13 => h13 | 14 => h14 | 15 => h15 | 16 => h16 | 17 => h17 | _ => h18, fun i => match i with | 0 => k0 | 1 => k1 | 2 => k2 | 3 => k3 | 4 => k4 | 5 => k5 | 6 => k6 | 7 => k7 | 8 => k8 | 9 => k9 | 10 => k10 | 11 => k11 | 12 => k12 | 13 => k13 | 14 => k14 | 15 => k15 | 16 => k16 | 17 => k17 | _ => k18, fun i => match i with | 4 => u4 | 5 => u5 | 6 => u6 | 8 => u8 | 9 => u9 | 10 => u10 | 13 => u13 | 14 => u14 | _ => u18, hd⟩
theorem split_end {w : World} {A : Around} {s : Shared} {mg mb : Str → Option Value} {R : Result → Shared → Prop} {h₀ h' : Heap} {L : Addr} {m : Str → Option Value} {tk : Nat} {outer : List Env} {txt : Str} {ts : List Str} {name : Str} {scope : Scope} {f : Addr} {cd : Value}
    {lex ld sio sd pb fs : Addr} {e e' : Nat → Int} {k k' u : Nat → Tok} {nl : Value} {wc : Str} {bt : Tok} {t1 t2 pt : Tok}
    (G₀ : Gd w mg mb h₀) (k₀ : ∀ b o, h₀.get? b = some o → s.heap.get? b = some o) (hfr : A.frames = some outer) (hff : s.heap.FunFrames h₀ outer) (hh : A.handled = none) (hroom : A.depth < 800)
    (H : Rd (some sSP) txt.cps.toList ts) (hlen : txt.length < 100000) (hts : ts.length ≤ 1000) (F : Fr s.heap L h' m) (hL : L = s.heap.objs.size)
    (hld : h'.get? ld = some (lexD e k u sio pb fs wc (.str sSP t1) (.str sE t2))) (hfs : h'.get? fs = some dqObj) (hpb : h'.get? pb = some dqObj)
    (hsio : h'.get? sio = some (instObj 619 sd) ∧ sio ≠ L ∧ s.heap.get? sio = none) (hsd : h'.get? sd = some (sioD e' k' nl txt bt 0 pt) ∧ sd ≠ L ∧ s.heap.get? sd = none) (hlex : h'.get? lex = some (instObj 754 ld) ∧ lex ≠ L ∧ s.heap.get? lex = none) (hl2 : ld ≠ L ∧ s.heap.get? ld = none)
    (wa : (!(Builtin.Str.occurrences wc (Str.mk #[97]) 0 wc.length 1).isEmpty) = true) (wq : (!(Builtin.Str.occurrences wc (Str.mk #[39]) 0 wc.length 1).isEmpty) = false) (wd : (!(Builtin.Str.occurrences wc (Str.mk #[34]) 0 wc.length 1).isEmpty) = false)
    (o1 : ld < lex) (oA : lex < sd ∧ ld < sd) (o4 : sd < sio) (oB : sio < pb ∧ sd < pb ∧ lex < pb ∧ ld < pb) (oC : pb < fs ∧ sio < fs ∧ sd < fs ∧ lex < fs ∧ ld < fs)
    (h : ∀ s' D vs c', KeepsX (frs outer) [] s s' → s'.heap.get? D = some (listOf vs.toArray c') → s.heap.objs.size ≤ D → StrAre vs ts → R (.ok (.ret (.ref D))) s')
    (hk : scope.kind = .function := by rfl) :
    wpAny (model prog w) (A.deeper (envOf name scope L f cd)) (call (.type "list") [.ref lex]) (fun v s' => R (.ok (.ret v)) s') FalseE { s with heap := h', toks := tk } := by
  obtain ⟨o2, o3⟩ := oA
  obtain ⟨o8, o9, o6, o7⟩ := oB
  obtain ⟨-, o12, o13, o10, o11⟩ := oC
  have o5 := Nat.lt_trans o3 o4
  have B : Below (A.deeper (envOf name scope L f cd)) h₀ (envOf name scope L f cd :: outer) h' := Below.push (⟨hfr, k₀, hff⟩ : Below A h₀ outer s.heap) F hk
  let X : LexP := ⟨lex, ld, sio, sd, pb, fs, e, e', k, k', u, nl, wc, txt, bt⟩
  have none₀ : ∀ b, s.heap.get? b = none → h₀.get? b = none := fun b e => by
    cases q : h₀.get? b with
    | none => rfl
    | some o => rw [k₀ b o q] at e; cases e
  have asn : ∀ a ∈ X.as, s.heap.get? a = none ∧ a ≠ L := fun a ha => by
    simp only [X, LexP.as, List.mem_cons, List.mem_nil_iff, or_false] at ha
    rcases ha with rfl | rfl | rfl | rfl
    · exact ⟨hlex.2.2, hlex.2.1⟩
    · exact ⟨hl2.2, hl2.1⟩
    · exact ⟨hsio.2.2, hsio.2.1⟩
    · exact ⟨hsd.2.2, hsd.2.1⟩
  have O : LexOk X h₀ := ⟨hlen, Nat.ne_of_lt o2, Nat.ne_of_lt o3, Nat.ne_of_gt o4, Nat.ne_of_gt o1, Nat.ne_of_gt o5,
    fun q => by
      simp only [X, LexP.as, List.mem_cons, List.mem_nil_iff, or_false] at q
      rcases q with r | r | r | r
      · exact Nat.ne_of_gt o6 r
      · exact Nat.ne_of_gt o7 r
      · exact Nat.ne_of_gt o8 r
      · exact Nat.ne_of_gt o9 r,
    fun q => by
      simp only [X, LexP.as, List.mem_cons, List.mem_nil_iff, or_false] at q
      rcases q with r | r | r | r
      · exact Nat.ne_of_gt o10 r
      · exact Nat.ne_of_gt o11 r
      · exact Nat.ne_of_gt o12 r
      · exact Nat.ne_of_gt o13 r, wa, wq, wd, fun a ha => none₀ a (asn a ha).1⟩
  have hA : LexAt X h' (stOf (some sSP) t1) 0 := by
    refine ⟨t2, pt, fun q hq => ?_, ⟨_, _, _, hpb, rfl, rfl⟩, ⟨_, _, _, hfs, rfl, rfl⟩⟩
    simp only [X, LexP.led, List.mem_cons, List.mem_nil_iff, or_false] at hq
    rcases hq with rfl | rfl | rfl | rfl
    · exact hlex.1
    · exact hld
    · exact hsio.1
    · exact hsd.1
  have hfn : ∀ a ∈ frs (envOf name scope L f cd :: outer), a ∉ X.as := fun a ha q => by
    obtain ⟨hn, hnL⟩ := asn a q
    obtain ⟨env, he, hf⟩ := List.mem_filterMap.mp ha
    rcases List.mem_cons.mp he with rfl | he
    · exact hnL (Option.some.inj hf).symm
    · obtain ⟨o, ho, _⟩ := (hff.mem (List.mem_filterMap.mpr ⟨env, he, hf⟩)).2
      rw [hn] at ho; cases ho
  refine call_list_lex (X := X) (mg := mg) (mb := mb) (f := some sSP) (t1 := t1) (p := 0) G₀ B.stays O hA H (Int.le_refl 0) rfl B.stack B.frames hh hfn (by show A.depth + 1 < 850; omega) (by rw [sizeLine_eq]; omega) fun s' vs c' hk' hD hv => ?_
  refine h s' _ vs c' ?_ hD (Nat.le_trans F.above (Nat.le_of_lt F.ns.lt)) hv
  obtain ⟨h'', tk', rfl, k1, k2⟩ := hk'
  have no : ∀ b o, s.heap.get? b = some o → b ≠ L ∧ b ∉ [X.ld, X.sd] := fun b o e => ⟨by rw [hL]; exact Nat.ne_of_lt (Heap.lt_size e), fun q => by
    have hb : b ∈ X.as := by
      rcases List.mem_cons.mp q with r | r
      · exact r ▸ (.tail _ (.head _))
      · rcases List.mem_cons.mp r with r | r
        · exact r ▸ (.tail _ (.tail _ (.tail _ (.head _))))
        · cases r
    rw [(asn b hb).1] at e; cases e⟩
  refine ⟨h'', tk', rfl, fun b o n1 _ e => ?_, fun b o n1 _ e hd => ?_⟩
  · refine k1 b o (fun q => ?_) (no b o e).2 (F.keep b o e)
    obtain ⟨env, he, hf⟩ := List.mem_filterMap.mp q
    rcases List.mem_cons.mp he with rfl | he
    · exact (no b o e).1 (Option.some.inj hf).symm
    · exact n1 (List.mem_filterMap.mpr ⟨env, he, hf⟩)
  · refine k2 b o ?_ (no b o e).2 (F.keep b o e) hd
    obtain ⟨env, he, hf⟩ := List.mem_filterMap.mp n1
    exact List.mem_filterMap.mpr ⟨env, .tail _ he, hf⟩
set_option maxHeartbeats 8000000 in
theorem split_ok {w : World} {A : Around} {s : Shared} {mg mb : Str → Option Value} {R : Result → Shared → Prop} {h₀ : Heap} {outer : List Env} {txt : Str} {t : Tok} {ts : List Str}
    (G₀ : Gd w mg mb h₀) (k₀ : ∀ b o, h₀.get? b = some o → s.heap.get? b = some o) (hfr : A.frames = some outer) (hff : s.heap.FunFrames h₀ outer) (hh : A.handled = none) (hroom : A.depth < 800)
    (H : Rd (some sSP) txt.cps.toList ts) (hlen : txt.length < 100000) (hts : ts.length ≤ 1000)
    (h : ∀ s' D vs c', KeepsX (frs outer) [] s s' → s'.heap.get? D = some (listOf vs.toArray c') → s.heap.objs.size ≤ D → StrAre vs ts → R (.ok (.ret (.ref D))) s') : codeAny (model prog w) A (.call (.ref 766) ⟨[.str txt t], []⟩) R s := by
  have KXs := (G₀.keeps k₀).K
  refine' call_pure (G₀.keeps k₀) ?ho ?hcd ?hr ?hb ?hl ?_ ?c1 ?c2 ?c3 ?c4
  case ho => k_dflt k_is
  case hcd => k_dflt k_is
  case hr => k_room
  case hb => exact binds_K KXs rfl (by k_dflt k_is) rfl rfl rfl
  case hl => exact locs rfl
  case c1 => rfl
  case c2 => rfl
  case c3 => rfl
  case c4 => decide
  intro L h₁ hL F G
  have KX := G.K
  have TT := G.T
  have N : News s.heap L h₁ [] := News.nil
  k_steps
  rename Fr s.heap L _ _ => F'
  rename News s.heap L _ _ => N'
  obtain ⟨e, k, u, hld⟩ := lex_of (N' _ (.tail _ (.tail _ (.tail _ (.tail _ (.tail _ (.head _))))))).1
  have q1 := N' _ (.head _)
  have q2 := N' _ (.tail _ (.head _))
  have q3 := N' _ (.tail _ (.tail _ (.head _)))
  have q4 := N' _ (.tail _ (.tail _ (.tail _ (.head _))))
  have q5 := N' _ (.tail _ (.tail _ (.tail _ (.tail _ (.head _)))))
  have q6 := N' _ (.tail _ (.tail _ (.tail _ (.tail _ (.tail _ (.head _))))))
  exact split_end G₀ k₀ hfr hff hh hroom H hlen hts F' hL hld q1.1 q2.1 q3 q4 q5 q6.2 (by decide +kernel) (by decide +kernel) (by decide +kernel)
    (by assumption) (by assumption) (by assumption) (by assumption) (by assumption) h
abbrev srch (x : Str) (t : Tok) : Sem (Builtin.Re.ReTarget × Option Sre.M) := do
  let tg ← Builtin.Re.reTarget "re.Pattern.search" "search" ⟨[.ref 71, .str x t], []⟩
  let m ← Builtin.Re.reRunToEnd (Sre.forSearch tg.code tg.text tg.groups tg.pos tg.lim false)
  pure (tg, m)
theorem pk_keeper {w : World} : peek (Mine.hd.heap_39 w.params) ⟨prog, w.params⟩ (keeperOf (.ref 774)) = some .machine := by kernel_rfl
theorem pk_774 {w : World} (x : Str) (t : Tok) : peek (Mine.hd.heap_39 w.params) ⟨prog, w.params⟩ (callAny (.ref 774) ⟨[.str x t], []⟩) = some (.again (.builtin "re.Pattern.search" ⟨[.ref 71, .str x t], []⟩)) := by kernel_rfl
theorem srch_a {w : World} (t : Tok) : peek (Mine.hd.heap_39 w.params) ⟨prog, w.params⟩ (Builtin.«re.Pattern.search» ⟨[.ref 71, .str (Str.ofString "a") t], []⟩) = some (.done (.ret .none)) := by kernel_rfl
theorem srch_sp {w : World} (t : Tok) : (peek (Mine.hd.heap_39 w.params) ⟨prog, w.params⟩ (srch (Str.ofString " ") t)).any (fun p => p.2.isSome && p.1.groups == 0) = true := by kernel_rfl
theorem srch_q {w : World} (t : Tok) : (peek (Mine.hd.heap_39 w.params) ⟨prog, w.params⟩ (srch (Str.ofString "'") t)).any (fun p => p.2.isSome && p.1.groups == 0) = true := by kernel_rfl
theorem srch_d {w : World} (t : Tok) : (peek (Mine.hd.heap_39 w.params) ⟨prog, w.params⟩ (srch (Str.ofString "\"") t)).any (fun p => p.2.isSome && p.1.groups == 0) = true := by kernel_rfl
theorem peek_bind {α β : Type} {K : Frag} {S : Setting} {m : Sem α} {f : α → Sem β} {r : β} (e : peek K S (m >>= f) = some r) : ∃ a, peek K S m = some a ∧ peek K S (f a) = some r := by
  change peek K S (m.bind f) = some r at e
  induction m with
  | pure a => exact ⟨a, rfl, e⟩
  | rule _ k ih => exact ih () e
  | point _ k ih => exact ih () e
  | ask k ih => exact ih _ e
  | load a p k ih =>
    simp only [Sem.bind, peek] at e
    split at e
    · rename_i o q
      obtain ⟨b, h1, h2⟩ := ih o e
      exact ⟨b, by simp only [peek, q]; exact h1, h2⟩
    · cases e
  | _ => cases e
section
variable {w : World} {A : Around} {E : Value → Shared → Prop} {s : Shared} {h₀ : Heap} {L : Addr} {m : Str → Option Value} {news : List (Addr × Obj)} {Q : Value → Shared → Prop} {x : Str} {t : Tok}
theorem entry_search : entryFor table "re.Pattern.search" = some Builtin.«re.Pattern.search» := entryFor_of_tree (by kernel_rfl)
theorem quiet_search (a : Args) : (Code.builtin "re.Pattern.search" a).quiet = true := Code.quiet_builtin _ (by decide +kernel)
theorem find_none (F : Fr h₀ L s.heap m) (X : (Mine.hd.heap_39 w.params).In h₀) (hp : peek (Mine.hd.heap_39 w.params) ⟨prog, w.params⟩ (Builtin.«re.Pattern.search» ⟨[.ref 71, .str x t], []⟩) = some (.done (.ret .none)))
    (h : Q .none s) : wpAny (model prog w) A (call (.ref 774) [.str x t]) Q E s := by
  have X₁ := X.keeps F.keep
  refine wpAny_call (codeAny_of_tree ?_)
  show wpAny _ _ (callAny (.ref 774) ⟨[.str x t], []⟩) _ _ _
  refine (lkp X₁ (pk_774 x t)).here ⟨quiet_search _, codeAny_builtin entry_search ?_⟩
  exact (lkp X₁ hp).here h
theorem find_some (F : Fr h₀ L s.heap m) (X : (Mine.hd.heap_39 w.params).In h₀) (N : News h₀ L s.heap news)
    (hp : (peek (Mine.hd.heap_39 w.params) ⟨prog, w.params⟩ (srch x t)).any (fun p => p.2.isSome && p.1.groups == 0) = true)
    (h : ∀ D h', Fr h₀ L h' m → News h₀ L h' news → Q (.ref D) { s with heap := h' }) : wpAny (model prog w) A (call (.ref 774) [.str x t]) Q E s := by
  have X₁ := X.keeps F.keep
  obtain ⟨⟨tg, r⟩, hpk, hb⟩ := any_some hp
  simp only [Bool.and_eq_true, beq_iff_eq] at hb
  obtain ⟨hr, hg⟩ := hb
  obtain ⟨mm, rfl⟩ := Option.isSome_iff_exists.mp hr
  refine wpAny_call (codeAny_of_tree ?_)
  show wpAny _ _ (callAny (.ref 774) ⟨[.str x t], []⟩) _ _ _
  refine (lkp X₁ (pk_774 x t)).here ⟨quiet_search _, codeAny_builtin entry_search ?_⟩
  obtain ⟨tg', h1, hpk⟩ := peek_bind hpk
  obtain ⟨m', h2, hpk⟩ := peek_bind hpk
  cases hpk
  unfold Builtin.«re.Pattern.search»
  refine wpAny_bind ((lkp X₁ h1).here ?_)
  unfold Builtin.Re.reAnswer
  refine wpAny_bind ((lkp X₁ h2).here ?_)
  dsimp only
  unfold Builtin.Re.reNewMatch
  simp only [hg, List.range_zero, List.flatMap_nil, List.any_nil, Bool.false_eq_true, if_false]
  unfold newFields
  refine wpAny_bind (wpAny_bind (wpAny_newObj_type (wpAny_newObj_type (wpAny_pure ?_))))
  exact h _ _ ((F.push _).push _) (News.grown (News.grown N fun b o e => Heap.get?_push_of_some _ e) fun b o e => Heap.get?_push_of_some _ e)
end
theorem callWith_774 {w : World} {A : Around} {E : Value → Shared → Prop} {s : Shared} {h₀ : Heap} {env : Env} {pos : Pos} {Q : Value → Shared → Prop} {e : Expr} {rest : List Expr} (_X : (Mine.hd.heap_39 w.params).In h₀)
    (h : wpAny (model prog w) A (spliced (backTo pos (starEach (e :: rest) env))) (fun vs s₁ => (Mine.hd.heap_39 w.params).In s₁.heap ∧ wpAny (model prog w) A (call (.ref 774) ([] ++ vs)) Q E s₁) E s)
    (he : starEach (e :: rest) env = (false, eval e env) :: starEach rest env := by rfl) (hplain : (backTo pos (starEach rest env)).any (·.1) = false := by rfl) :
    wpAny (model prog w) A (callWith pos (.ref 774) [] (backTo pos (starEach (e :: rest) env)) []) Q E s := by
  rw [he] at h ⊢
  exact callWith_of (P := (Mine.hd.heap_39 w.params).In) (by show ((false || (backTo pos (starEach rest env)).any (·.1)) || false) = false; rw [hplain]; rfl) (fun h X => ⟨.machine, .inr (.inl rfl), lkp X pk_keeper⟩) (evalArgs_plain h)
theorem lineU2_1 : True := by
  (k_with "callWith ref" => (k_here; (with_reducible show wpAny _ _ (callWith _ (Value.ref 774) _ _ _) _ _ _); k_dflt (refine' callWith_774 ?zqk1 ?_; (case zqk1 => k_asm); k_whole)))
  trivial
theorem lineU2_2 : True := by
  (k_with "call ref" => (k_here; (with_reducible show wpAny _ _ (call (Value.ref 774) _) _ _ _); k_dflt first | ((with_reducible show wpAny _ _ (call (Value.ref 774) [Value.str (Str.ofString "a") _]) _ _ _); refine' find_none (x := Str.ofString "a") ?zqF ?zqX (srch_a _) ?_; (case zqF => k_asm); (case zqX => k_asm)) | ((with_reducible show wpAny _ _ (call (Value.ref 774) [Value.str (Str.ofString " ") _]) _ _ _); (refine' find_some (x := Str.ofString " ") ?zqF ?zqX ?zqN (srch_sp _) ?_; (case zqF => k_asm); (case zqX => k_asm); (case zqN => k_asm); k_whole); intro zD' zh' zF' zN'; (try k_sweep)) | ((with_reducible show wpAny _ _ (call (Value.ref 774) [Value.str (Str.ofString "'") _]) _ _ _); (refine' find_some (x := Str.ofString "'") ?zqF ?zqX ?zqN (srch_q _) ?_; (case zqF => k_asm); (case zqX => k_asm); (case zqN => k_asm); k_whole); intro zD' zh' zF' zN'; (try k_sweep)) | ((with_reducible show wpAny _ _ (call (Value.ref 774) [Value.str (Str.ofString "\"") _]) _ _ _); (refine' find_some (x := Str.ofString "\"") ?zqF ?zqX ?zqN (srch_d _) ?_; (case zqF => k_asm); (case zqX => k_asm); (case zqN => k_asm); k_whole); intro zD' zh' zF' zN'; (try k_sweep))))
  trivial
theorem rp_sp : Txt.replace (Str.ofString " ") (Str.ofString "'") (Str.ofString "'\"'\"'") = Str.ofString " " := by decide +kernel
theorem rp_q : Txt.replace (Str.ofString "'") (Str.ofString "'") (Str.ofString "'\"'\"'") = Str.ofString "'\"'\"'" := by decide +kernel
theorem rp_d : Txt.replace (Str.ofString "\"") (Str.ofString "'") (Str.ofString "'\"'\"'") = Str.ofString "\"" := by decide +kernel
theorem lineU2_3 : True := by
  (k_with "call builtin:str.replace" => (k_here; (refine SC.replace (Nat.succ_ne_zero _) (Nat.succ_ne_zero _) (Nat.ne_of_lt (Nat.lt_succ_self _)) (by decide +kernel) (by decide +kernel) ?_); intro _ _; (first | rw [rp_sp] | rw [rp_q] | rw [rp_d])))
  trivial
set_option maxHeartbeats 4000000 in
theorem quote_a {w : World} {A : Around} {s : Shared} {mg mb : Str → Option Value} {R : Result → Shared → Prop} {t : Tok} (G : Gd w mg mb s.heap) (hroom : A.depth < 900)
    (h : ∀ s' t', Keeps s s' → R (.ok (.ret (.str (Str.ofString "a") t'))) s') : codeAny (model prog w) A (.call (.ref 781) ⟨[.str (Str.ofString "a") t], []⟩) R s := by
  refine' call_pure G ?ho ?hcd ?hr ?hb ?hl ?_ ?c1 ?c2 ?c3 ?c4
  case ho => k_dflt k_is
  case hcd => k_dflt k_is
  case hr => k_room
  case hb => exact BindsTo.of_eq rfl
  case hl => exact locs rfl
  case c1 => rfl
  case c2 => rfl
  case c3 => rfl
  case c4 => decide
  intro L h₁ hL F G
  have KX := G.K
  have TT := G.T
  have N : News s.heap L h₁ [] := News.nil
  k_steps
  rename Fr s.heap L _ _ => F'
  exact h _ _ (Keeps.of_fr F')
set_option maxHeartbeats 4000000 in
theorem quote_e {w : World} {A : Around} {s : Shared} {mg mb : Str → Option Value} {R : Result → Shared → Prop} {t : Tok} (G : Gd w mg mb s.heap) (hroom : A.depth < 900)
    (h : ∀ s' t', Keeps s s' → R (.ok (.ret (.str (Str.ofString "''") t'))) s') : codeAny (model prog w) A (.call (.ref 781) ⟨[.str (Str.ofString "") t], []⟩) R s := by
  refine' call_pure G ?ho ?hcd ?hr ?hb ?hl ?_ ?c1 ?c2 ?c3 ?c4
  case ho => k_dflt k_is
  case hcd => k_dflt k_is
  case hr => k_room
  case hb => exact BindsTo.of_eq rfl
  case hl => exact locs rfl
  case c1 => rfl
  case c2 => rfl
  case c3 => rfl
  case c4 => decide
  intro L h₁ hL F G
  have KX := G.K
  have TT := G.T
  have N : News s.heap L h₁ [] := News.nil
  k_steps
  rename Fr s.heap L _ _ => F'
  exact h _ _ (Keeps.of_fr F')
set_option maxHeartbeats 4000000 in
theorem quote_sp {w : World} {A : Around} {s : Shared} {mg mb : Str → Option Value} {R : Result → Shared → Prop} {t : Tok} (G : Gd w mg mb s.heap) (hroom : A.depth < 900)
    (h : ∀ s' t', Keeps s s' → R (.ok (.ret (.str (Str.ofString "' '") t'))) s') : codeAny (model prog w) A (.call (.ref 781) ⟨[.str (Str.ofString " ") t], []⟩) R s := by
  refine' call_pure G ?ho ?hcd ?hr ?hb ?hl ?_ ?c1 ?c2 ?c3 ?c4
  case ho => k_dflt k_is
  case hcd => k_dflt k_is
  case hr => k_room
  case hb => exact BindsTo.of_eq rfl
  case hl => exact locs rfl
  case c1 => rfl
  case c2 => rfl
  case c3 => rfl
  case c4 => decide
  intro L h₁ hL F G
  have KX := G.K
  have TT := G.T
  have N : News s.heap L h₁ [] := News.nil
  k_steps
  rename Fr s.heap L _ _ => F'
  exact h _ _ (Keeps.of_fr F')
set_option maxHeartbeats 4000000 in
theorem quote_q {w : World} {A : Around} {s : Shared} {mg mb : Str → Option Value} {R : Result → Shared → Prop} {t : Tok} (G : Gd w mg mb s.heap) (hroom : A.depth < 900)
    (h : ∀ s' t', Keeps s s' → R (.ok (.ret (.str (Str.ofString "''\"'\"''") t'))) s') : codeAny (model prog w) A (.call (.ref 781) ⟨[.str (Str.ofString "'") t], []⟩) R s := by
  refine' call_pure G ?ho ?hcd ?hr ?hb ?hl ?_ ?c1 ?c2 ?c3 ?c4
  case ho => k_dflt k_is
  case hcd => k_dflt k_is
  case hr => k_room
  case hb => exact BindsTo.of_eq rfl
  case hl => exact locs rfl
  case c1 => rfl
  case c2 => rfl
  case c3 => rfl
  case c4 => decide
  intro L h₁ hL F G
  have KX := G.K
  have TT := G.T
  have N : News s.heap L h₁ [] := News.nil
  k_steps
  rename Fr s.heap L _ _ => F'
  exact h _ _ (Keeps.of_fr F')
set_option maxHeartbeats 4000000 in
theorem quote_d {w : World} {A : Around} {s : Shared} {mg mb : Str → Option Value} {R : Result → Shared → Prop} {t : Tok} (G : Gd w mg mb s.heap) (hroom : A.depth < 900)
    (h : ∀ s' t', Keeps s s' → R (.ok (.ret (.str (Str.ofString "'\"'") t'))) s') : codeAny (model prog w) A (.call (.ref 781) ⟨[.str (Str.ofString "\"") t], []⟩) R s := by
  refine' call_pure G ?ho ?hcd ?hr ?hb ?hl ?_ ?c1 ?c2 ?c3 ?c4
  case ho => k_dflt k_is
  case hcd => k_dflt k_is
  case hr => k_room
  case hb => exact BindsTo.of_eq rfl
  case hl => exact locs rfl
  case c1 => rfl
  case c2 => rfl
  case c3 => rfl
  case c4 => decide
  intro L h₁ hL F G
  have KX := G.K
  have TT := G.T
  have N : News s.heap L h₁ [] := News.nil
  k_steps
  rename Fr s.heap L _ _ => F'
  exact h _ _ (Keeps.of_fr F')
abbrev tabO (ps : Array Value) : Obj := { cls := .none, data := .fields ps }
def TabOk (ps : Array Value) : Prop := ps = #[] ∨ ∃ c', ps = #[rawInt 758, rawInt 20, .ref c']
inductive W5 : Str → Prop
  | a : W5 (Str.ofString "a")
  | e : W5 (Str.ofString "")
  | sp : W5 (Str.ofString " ")
  | q : W5 (Str.ofString "'")
  | d : W5 (Str.ofString "\"")
def qt (x : Str) : Str := if x == Str.ofString "a" then Str.ofString "a" else if x == Str.ofString "" then Str.ofString "''" else if x == Str.ofString " " then Str.ofString "' '" else if x == Str.ofString "'" then Str.ofString "''\"'\"''" else Str.ofString "'\"'"
theorem quote_ok {w : World} {A : Around} {s : Shared} {mg mb : Str → Option Value} {R : Result → Shared → Prop} {x : Str} {t : Tok} (hw : W5 x) (G : Gd w mg mb s.heap) (hroom : A.depth < 900)
    (h : ∀ s' t', Keeps s s' → R (.ok (.ret (.str (qt x) t'))) s') : codeAny (model prog w) A (.call (.ref 781) ⟨[.str x t], []⟩) R s := by
  cases hw with
  | a => exact quote_a G hroom fun s' t' k => by rw [← show qt (Str.ofString "a") = Str.ofString "a" by decide +kernel]; exact h s' t' k
  | e => exact quote_e G hroom fun s' t' k => by rw [← show qt (Str.ofString "") = Str.ofString "''" by decide +kernel]; exact h s' t' k
  | sp => exact quote_sp G hroom fun s' t' k => by rw [← show qt (Str.ofString " ") = Str.ofString "' '" by decide +kernel]; exact h s' t' k
  | q => exact quote_q G hroom fun s' t' k => by rw [← show qt (Str.ofString "'") = Str.ofString "''\"'\"''" by decide +kernel]; exact h s' t' k
  | d => exact quote_d G hroom fun s' t' k => by rw [← show qt (Str.ofString "\"") = Str.ofString "'\"'" by decide +kernel]; exact h s' t' k

theorem elt_quote {w : World} {A : Around} {E : Value → Shared → Prop} {s : Shared} {mg mb : Str → Option Value} {cenv : Env} {m : Str → Option Value} {p p2 pos : Pos} {x : Str} {t : Tok} {Q : Value → Shared → Prop}
    (G : Gd w mg mb s.heap) (hg : cenv.globals = mainGlobals) (hq : cenv.kindOf "quote" = some .globalImplicit) (ha : cenv.kindOf "arg" = some .local) (hk : cenv.scope.kind = .function)
    (hn : s.heap.Ns cenv.locals m) (hm : m "arg" = some (.str x t)) (hw : W5 x) (hroom : A.depth < 900) (h : ∀ s' t', Keeps s s' → Q (.str (qt x) t') s') :
    wpAny (model prog w) A (eval (.Call (.Name "quote" p) [.Name "arg" p2] [] pos) cenv) Q E s := by
  refine Call_Name rfl (Calls.Name_function_global hk hq (Calls.loadGlobal_global (mg := mg) (by rw [hg]; exact G.T.g) (mg_of (v := .ref 781) G.K G.T.g (by k_dflt k_is)) ?_))
  refine callWith_K (K := Mine.hd.heap_39 w.params) G.K (by k_dflt k_is) ?_
  show wpAny _ _ (spliced [(false, eval (.Name "arg" p2) cenv)]) _ _ _
  refine Calls.spliced_cons (wpAny_Name (wpAny_loadName_local hk ha hn hm ?_) rfl)
  refine Calls.spliced_nil ⟨G.K, ?_⟩
  exact wpAny_call (quote_ok hw G hroom h)

def BMain (mg : Str → Option Value) (h : Heap) : Prop := ∃ bm ob, mg "__builtins__" = some (.ref bm) ∧ bm ≠ builtinsNs ∧ h.get? bm = some ob ∧ ob.cls = .type "module" ∧ ob.dict = some builtinsNs ∧ ob.data = .plain
theorem code772 {w : World} : ∃ oc od vs sl file tf flags tg inF text tt, (Mine.hd.heap_39 w.params).lookup 772 = some ⟨oc, od, .fields vs, sl⟩ ∧ oc = .type "code" ∧ vs[11]? = some (.ref 768) ∧ vs.getD 11 .none = .ref 768 ∧ vs.getD 18 .none = .str file tf ∧
    vs.getD 7 .none = .int flags tg ∧ vs.getD 9 .none = .bool inF ∧ vs.getD 10 .none = .int text tt :=
  ⟨_, _, _, _, _, _, _, _, _, _, _, by k_dflt k_is, rfl, rfl, rfl, rfl, rfl, rfl, rfl⟩
theorem TabOk.isCode {w : World} {h : Heap} {ps : Array Value} (X : (Mine.hd.heap_39 w.params).In h) (ht : h.get? 768 = some (tabO ps)) (hp : TabOk ps) : h.IsCode 772 768 ps ∧ h.TableAt 772 768 ps := by
  obtain ⟨oc, od, vs, sl, file, tf, flags, tg, inF, text, tt, hc, rfl, e1, e2, e3, e4, e5, e6⟩ := code772 (w := w)
  refine ⟨⟨_, vs, file, tf, flags, tg, inF, text, tt, _, X _ _ hc, rfl, e2, e3, e4, e5, e6, ht, rfl, ?_, by decide⟩, ⟨⟨_, vs, X _ _ hc, rfl, rfl, e1⟩, ht⟩⟩
  rcases hp with rfl | ⟨c', rfl⟩
  · trivial
  · trivial
theorem code_step {w : World} {A : Around} {E : Value → Shared → Prop} {s : Shared} {env : Env} {pos : Pos} {q : Str} {scope : Scope} {ps : Array Value} {Q : Value → Shared → Prop}
    (X : (Mine.hd.heap_39 w.params).In s.heap) (ht : s.heap.get? 768 = some (tabO ps)) (hp : TabOk ps) (hc : env.code = .ref 772) (hl : pos.line = 758) (hcl : pos.col = 20)
    (h : ∀ code h' tk ps', (∀ b o, b ≠ 768 → s.heap.get? b = some o → h'.get? b = some o) → s.heap.objs.size ≤ h'.objs.size → h'.get? 768 = some (tabO ps') → TabOk ps' → Q code { s with heap := h', toks := tk }) :
    wpAny (model prog w) A (genexprCode env pos q scope) Q E s := by
  obtain ⟨ic, ta⟩ := hp.isCode X ht
  rcases hp with rfl | ⟨c', rfl⟩
  · refine wpAny_genexprCodeX hc ic ta rfl fun c' h' tk hx hge hlt _ _ htab _ => ?_
    exact h _ h' tk _ (fun b o hb e => hx b o hb e) (Nat.le_trans hge (Nat.le_of_lt hlt)) htab.2 (.inr ⟨c', by rw [hl, hcl]; rfl⟩)
  · refine wpAny_genexprCode_hit (c' := .ref c') hc ic ?_ (h _ s.heap s.toks _ (fun b o _ e => e) (Nat.le_refl _) ht (.inr ⟨c', rfl⟩))
    show codeAmong pos [rawInt 758, rawInt 20, .ref c'] = _
    unfold codeAmong rawInt
    rw [hl, hcl]
    rfl

theorem StrAre.get : ∀ {vs : List Value} {ts : List Str}, StrAre vs ts → ∀ (i : Nat) (v : Value), vs[i]? = some v → ∃ t, v = .str (ts.getD i "") t ∧ ts[i]? = some (ts.getD i "")
  | _ :: _, _ :: _, h, 0, v, e => by
    obtain ⟨⟨k, rfl⟩, _⟩ := h
    cases e
    exact ⟨k, rfl, rfl⟩
  | _ :: vs, _ :: ts, h, i + 1, v, e => by
    have := StrAre.get h.2 i v (by simpa using e)
    simpa using this
  | [], _, _, i, _, e => by simp at e
  | _ :: _, [], h, _, _, _ => h.elim

set_option maxHeartbeats 2000000 in
theorem gen_quote {w : World} {A : Around} {E : Value → Shared → Prop} {s : Shared} {mg mb : Str → Option Value} {h₀ : Heap} {cn : Str} {cs scope : Scope} {L f a : Addr} {m : Str → Option Value} {qp ap p1 p2 p3 pos : Pos} {ps : Array Value} {vs : List Value} {ws : List Str} {Q : Value → Shared → Prop}
    (G₀ : Gd w mg mb h₀) (k₀ : ∀ b o, h₀.get? b = some o → s.heap.get? b = some o) (h768 : h₀.get? 768 = none) (BM : BMain mg h₀) (ht : s.heap.get? 768 = some (tabO ps)) (hp : TabOk ps) (AB : AllBare s.gens)
    (hn : s.heap.Ns L m) (hm : m "split_command" = some (.ref a)) (hl : s.heap.IsList a vs.toArray) (hs : StrAre vs ws) (hw : ∀ x ∈ ws, W5 x) (hh : A.handled = none) (hroom : A.depth < 880)
    (hQ : ∀ a' s₅, (∀ b o, b ≠ 768 → s.heap.get? b = some o → s₅.heap.get? b = some o) → (∃ ps', s₅.heap.get? 768 = some (tabO ps') ∧ TabOk ps') → AllBare s₅.gens → s₅.os = s.os →
      Gen prog w A L a' (passing (fun _ => true) ws.length 0).length (fun j y => ∃ i, (passing (fun _ => true) ws.length 0)[j]? = some i ∧ ∃ u, y = .str (qt (ws.getD i "")) u) s₅ → Q (.ref a') s₅)
    (hl1 : pos.line = 758 := by rfl) (hc1 : pos.col = 20 := by rfl)
    (hk : cs.kind = .function := by rfl) (hsc : (envOf cn cs L f (.ref 772)).kindOf "split_command" = some .local := by rfl)
    (hco : scope.isCoroutine = false := by rfl) (hclos : closureFor scope (envOf cn cs L f (.ref 772)) = pure [] := by rfl) (hcell : ∀ y ∈ scope.names, y.2 ≠ .cell := by decide) (hz : scope.names.lookup (".0" : Str) = some NameKind.local := by rfl)
    (hx : scope.names.lookup ("arg" : Str) = some NameKind.local := by rfl) (hq : scope.names.lookup ("quote" : Str) = some NameKind.globalImplicit := by rfl) (hkind : scope.kind = .function := by rfl) :
    wpAny (model prog w) A (eval (.GeneratorExp (.Call (.Name "quote" qp) [.Name "arg" ap] [] p1) [⟨.Name "arg" p2, .Name "split_command" p3, [], 0⟩] scope pos) (envOf cn cs L f (.ref 772))) Q E s := by
  refine wpAny_GeneratorExp_walksQD hh hco hclos hcell hz hx hkind (by simp only [recursionLimit]; omega) ?_ (fun _ => rfl)
  refine wpAny_Name (wpAny_loadName_local hk hsc hn hm ?_) rfl
  refine wpAny_pyIter_list hl ?_
  have kp : ∀ b o, s.heap.get? b = some o → (s.heap.push { cls := .type "list_iterator", data := .fields #[.ref a, .int 0 0] }).get? b = some o := fun b o e => Heap.get?_push_of_some _ e
  have G₂ := G₀.keeps fun b o e => kp b o (k₀ b o e)
  refine ⟨G₂.T.nolimit, code_step G₂.K (kp _ _ ht) hp rfl hl1 hc1 fun code h₃ tk₃ ps' k₃ hsz ht₃ hp' => ?_⟩
  have k₃' : ∀ b o, h₀.get? b = some o → h₃.get? b = some o := fun b o e => k₃ b o (fun q => by rw [q, h768] at e; cases e) (kp b o (k₀ b o e))
  have G₃ := G₀.keeps k₃'
  obtain ⟨bm, ob, e1, e2, e3, e4, e5, e6⟩ := BM
  refine wpAny_builtinsFor (globals := mainGlobals) G₃.T.g e1 e2 (k₃' _ _ e3) e4 e5 e6 ?_
  have hal : a < s.heap.objs.size := by obtain ⟨_, e, _⟩ := hl; exact Heap.lt_size e
  have h768s : 768 < s.heap.objs.size := Heap.lt_size ht
  have hIt : h₃.get? s.heap.objs.size = some { cls := .type "list_iterator", data := .fields #[.ref a, .int 0 0] } := k₃ _ _ (Nat.ne_of_gt h768s) (Heap.get?_push_size _ rfl)
  have ha768 : a ≠ 768 := fun q => by
    obtain ⟨o, e, hc, _⟩ := hl
    rw [q, ht] at e; cases e; cases hc
  have hl₃ : h₃.IsList a vs.toArray := by
    obtain ⟨o, e, r⟩ := hl
    exact ⟨o, k₃ _ _ ha768 (kp _ _ e), r⟩
  have hI3 : s.heap.objs.size < h₃.objs.size := Heap.lt_size hIt
  have hcw : cStatics ∉ [s.heap.objs.size] := fun hm => by
    have hc := G₀.T.nolimit
    obtain ⟨_, hns, _⟩ := hc
    obtain ⟨o, es, ep, ho, _⟩ := hns
    have := Heap.lt_size (k₀ _ _ ho)
    rcases List.mem_cons.mp hm with r | r
    · rw [r] at this; exact Nat.lt_irrefl _ this
    · cases r
  have hL : L < s.heap.objs.size := hn.lt
  refine ⟨s.heap.objs.size, [s.heap.objs.size, a], [s.heap.objs.size], vs.toArray.size, _, _, (fun _ => true), (fun i y => ∃ u, y = .str (qt (ws.getD i "")) u), rfl,
    (fun A' hA => Walks.list hA _ _ (Nat.ne_of_lt hal) vs.toArray), ⟨⟨_, hIt, rfl, rfl⟩, hl₃⟩, ?_, G₃.T.nolimit, hcw, fun href hhref => ⟨?_, ?_⟩, fun a' h₅ tk gs hgb hag hsz₅ hk₅ W hat => ?_⟩
  · intro b hb
    rcases List.mem_cons.mp hb with rfl | hb
    · exact hI3
    · rcases List.mem_cons.mp hb with rfl | hb
      · exact Nat.lt_trans hal hI3
      · cases hb
  · intro A' E' i v t m₂ hA hD hU hP hnn hmm hkp
    show wpAny _ _ (pure true) _ _ _
    exact wpAny_pure ⟨rfl, t.heap, t.toks, rfl, fun _ _ e => e⟩
  · intro A' E' i v t m₂ hA hD hU hP _ hnn hmm hkp
    have kt : ∀ b o, h₀.get? b = some o → t.heap.get? b = some o := fun b o e => by
      have e3' := k₃' b o e
      refine hkp b (List.mem_range.mpr (Heap.lt_size e3')) (fun q => ?_) o (hhref b o e3')
      rcases List.mem_cons.mp q with r | r
      · have := Heap.lt_size (k₀ b o e); rw [r] at this; exact Nat.lt_irrefl _ this
      · cases r
    obtain ⟨tt, rfl, hin⟩ := hs.get i v (by simpa using hP)
    exact elt_quote (mg := mg) (mb := mb) (G₀.keeps kt) rfl (by simpa [Env.kindOf, genEnv] using hq) (by simpa [Env.kindOf, genEnv] using hx) hkind hnn hmm (hw _ (List.mem_of_getElem? hin)) (by omega) fun s' t' hk => ⟨⟨t', rfl⟩, hk⟩
  · have hlen : vs.toArray.size = ws.length := by simp [hs.length]
    rw [hlen] at W hat
    refine hQ a' _ (fun b o hb e => hk₅ b o (k₃ b o hb (kp b o e))) ⟨ps', hk₅ _ _ ht₃, hp'⟩ (AB.push hgb) rfl ⟨_, _, _, _, W, hat, (fun i s' st => st.1.typeIs), List.mem_cons_self, ?_, ?_⟩
    · intro b hb
      show b < h₅.objs.size
      rw [hsz₅]
      rcases List.mem_cons.mp hb with rfl | hb
      · exact Nat.lt_succ_self _
      · rcases List.mem_cons.mp hb with rfl | hb
        · exact Nat.lt_succ_of_lt hag
        · exact Nat.lt_succ_of_lt (Nat.lt_trans (List.mem_range.mp hb) hag)
    · intro b hb
      rcases List.mem_cons.mp hb with rfl | hb
      · exact Nat.lt_trans hL hI3
      · rcases List.mem_cons.mp hb with rfl | hb
        · exact hL
        · cases hb

def KpJ (s s' : Shared) : Prop := (∀ b o, b ≠ 768 → s.heap.get? b = some o → s'.heap.get? b = some o) ∧ (∃ ps', s'.heap.get? 768 = some (tabO ps') ∧ TabOk ps') ∧ AllBare s'.gens ∧ s'.os = s.os
theorem passing_all (n : Nat) : passing (fun _ => true) n 0 = List.range n := by
  unfold passing
  rw [List.drop_zero, List.filter_eq_self.mpr (fun _ _ => rfl)]
theorem map_getD (ws : List Str) : (List.range ws.length).map (fun i => qt (ws.getD i "")) = ws.map qt := by
  apply List.ext_getElem?
  intro j
  by_cases hj : j < ws.length
  · simp [hj, List.getD_eq_getElem?_getD]
  · simp [Nat.le_of_not_lt hj]
theorem qt_len (x : Str) : (qt x).length ≤ 7 := by
  unfold qt
  split
  · decide +kernel
  · split
    · decide +kernel
    · split
      · decide +kernel
      · split <;> decide +kernel
theorem foldl_len (sep : Str) (hsep : sep.length = 1) : ∀ (l : List Str) (acc : Nat), (∀ x ∈ l, x.length ≤ 7) → l.foldl (fun a x => a + x.length + sep.length) acc ≤ acc + 8 * l.length
  | [], acc, _ => by simp
  | x :: l, acc, h => by
    have h1 := h x (.head _)
    have h2 := foldl_len sep hsep l (acc + x.length + sep.length) fun y hy => h y (.tail _ hy)
    simp only [List.foldl_cons, List.length_cons]
    omega
theorem joinOk_qt {ws : List Str} (hlen : ws.length ≤ 1000) : JoinOk (Str.ofString " ") (ws.map qt) = true := by
  unfold JoinOk
  have h := foldl_len (Str.ofString " ") (by decide +kernel) (ws.map qt) 0 fun x hx => by
    obtain ⟨y, _, rfl⟩ := List.mem_map.mp hx
    exact qt_len y
  rw [List.length_map] at h
  rw [List.foldl_toArray]
  have : Builtin.Str.tooLong ((ws.map qt).foldl (fun a x => a + x.length + (Str.ofString " ").length) 0) = false := by
    unfold Builtin.Str.tooLong
    rw [sizeLine_eq]
    exact decide_eq_false (by omega)
  rw [this]
  rfl
set_option maxHeartbeats 4000000 in
theorem join_ok {w : World} {A : Around} {s : Shared} {mg mb : Str → Option Value} {R : Result → Shared → Prop} {h₀ : Heap} {ps : Array Value} {a : Addr} {vs : List Value} {c : Nat} {ws : List Str}
    (G₀ : Gd w mg mb h₀) (k₀ : ∀ b o, h₀.get? b = some o → s.heap.get? b = some o) (h768 : h₀.get? 768 = none) (BM : BMain mg h₀) (ht : s.heap.get? 768 = some (tabO ps)) (htp : TabOk ps) (AB : AllBare s.gens)
    (hl : s.heap.get? a = some (listOf vs.toArray c)) (hs : StrAre vs ws) (hw : ∀ x ∈ ws, W5 x) (hlen : ws.length ≤ 1000) (hh : A.handled = none) (hroom : A.depth < 870)
    (h : ∀ s' t', KpJ s s' → R (.ok (.ret (.str (Txt.join (Str.ofString " ") (ws.map qt)) t'))) s') :
    codeAny (model prog w) A (.call (.ref 773) ⟨[.ref a], []⟩) R s := by
  refine' call_led G₀ k₀ (news := [(768, tabO ps)]) ?hn ?ho ?hcd ?hr ?hb ?hl ?_ ?c1 ?c2 ?c3 ?c4
  case hn => intro q hq; rcases List.mem_cons.mp hq with rfl | hq; exact ⟨ht, h768⟩; cases hq
  case ho => k_dflt k_is
  case hcd => k_dflt k_is
  case hr => k_room
  case hb => exact BindsTo.of_eq rfl
  case hl => exact locs rfl
  case c1 => rfl
  case c2 => rfl
  case c3 => rfl
  case c4 => decide
  intro g L h₁ kg F N KX TT
  have h0g : ∀ b o, h₀.get? b = some o → h₁.get? b = some o := fun b o e => F.keep b o (kg b o (fun q => by
    rcases List.mem_cons.mp q with r | r
    · rw [show b = 768 from r, h768] at e; cases e
    · cases r) (k₀ b o e))
  have ha768 : a ≠ 768 := fun q => by rw [q, ht] at hl; cases hl
  have hla : h₁.get? a = some (listOf vs.toArray c) := F.keep _ _ (kg _ _ (fun q => by
    rcases List.mem_cons.mp q with r | r
    · exact ha768 r
    · cases r) hl)
  k_steps
  refine gen_quote (mg := mg) (mb := mb) (h₀ := h₀) (ps := ps) (a := a) (vs := vs) (ws := ws) G₀ h0g h768 BM (N _ (.head _)).1 htp AB F.ns rfl ⟨_, hla, rfl, _, rfl⟩ hs hw hh (by k_room) fun a' s₅ k5 ht5 ab5 os5 X => ?_
  have F₅ : Fr g L s₅.heap _ := ⟨F.ns.at fun o e => k5 _ o (fun q => (N _ (.head _)).2.1 q.symm) e, fun b o e => k5 b o (fun q => by have := (N _ (.head _)).2.2; rw [← q] at this; rw [this] at e; cases e) (F.keep b o e), F.above⟩
  k_steps
  rw [passing_all, List.length_range] at X
  refine join_rowsK F₅ ab5 X (Nat.le_refl L) (fun i => qt (ws.getD i "")) (fun j v hv => ?_) (by rw [map_getD]; exact joinOk_qt hlen) (fun s' t' F' ab' os' k' => ?_) (by rw [sizeLine_eq]; omega)
  · obtain ⟨i, hi, u, rfl⟩ := hv
    have : i = j := by
      rw [List.getElem?_eq_some_iff] at hi
      obtain ⟨_, hi⟩ := hi
      simpa using hi.symm
    exact ⟨u, by rw [this]⟩
  · rw [map_getD]
    obtain ⟨ps', hps, hok⟩ := ht5
    refine h s' t' ⟨fun b o hb e => F'.keep b o (kg b o (fun q => ?_) e), ⟨ps', k' _ _ ?_ hps, hok⟩, ab', os'.trans os5⟩
    · rcases List.mem_cons.mp q with r | r
      · exact hb r
      · cases r
    · obtain ⟨oc, od, vv, sl, file, tf, flags, tg, inF, text, tt, hc, _⟩ := code772 (w := w)
      have := Nat.lt_of_lt_of_le (Heap.lt_size (KX _ _ hc)) F.above
      exact Nat.le_of_lt (Nat.lt_trans (by decide) this)
theorem unchain_none {w : World} {A : Around} {E : Value → Shared → Prop} {s : Shared} {a e : Addr} {oe : Obj} {fs : Array Value} {Q : Value → Shared → Prop}
    (he : s.heap.get? e = some oe) (hd : oe.data = .fields fs) (h2 : fs[2]? = some .none) (h : Q .none s) :
    wpAny (model prog w) A (runValue (.builtin "proto.unchain" ⟨[.ref a, .ref e, .ref e, .bool false], []⟩)) Q E s := by
  refine wpAny_runValue (codeAny_builtin (b := PySem.Builtin.«proto.unchain») (entryFor_of_fast (by kernel_rfl)) ?_)
  unfold PySem.Builtin.«proto.unchain»
  refine wpAny_bind (wpAny_field he hd h2 ?_)
  exact wpAny_pure h
def HandOk (A : Around) (h : Heap) : Prop := A.handled = none ∨ ∃ e oe fs, A.handled = some (.ref e) ∧ h.get? e = some oe ∧ oe.data = .fields fs ∧ fs[2]? = some .none
theorem HandOk.keeps {A : Around} {h h' : Heap} (x : HandOk A h) (k : ∀ b o, h.get? b = some o → h'.get? b = some o) : HandOk A h' :=
  x.imp id fun ⟨e, oe, fs, a, b, c, d⟩ => ⟨e, oe, fs, a, k _ _ b, c, d⟩
theorem HandOk.fields {A : Around} {h h' : Heap} (x : HandOk A h) (k : ∀ b o fs, o.data = .fields fs → h.get? b = some o → h'.get? b = some o) : HandOk A h' :=
  x.imp id fun ⟨e, oe, fs, a, b, c, d⟩ => ⟨e, oe, fs, a, k _ _ _ c b, c, d⟩
theorem HandOk.of {A A' : Around} {h : Heap} (x : HandOk A h) (e : A'.handled = A.handled) : HandOk A' h := by unfold HandOk at *; rw [e]; exact x
def HandX (A : Around) (h : Heap) (X : List (Addr × Obj)) : Prop := A.handled = none ∨ ∃ e oe fs, A.handled = some (.ref e) ∧ h.get? e = some oe ∧ oe.data = .fields fs ∧ fs[2]? = some .none ∧ e ∉ X.map (·.1)
theorem HandX.ok {A A' : Around} {h : Heap} {X : List (Addr × Obj)} (x : HandX A h X) (q : A'.handled = A.handled) : HandOk A' (hideAll h (X.map (·.1))) := by
  unfold HandOk
  rw [q]
  exact x.imp id fun ⟨e, oe, fs, a, b, c, d, n⟩ => ⟨e, oe, fs, a, hideAll_get _ b n, c, d⟩
theorem raiseNew_ok {α : Type} {w : World} {A : Around} {E : Value → Shared → Prop} {s : Shared} {a : Addr} {oa : Obj} {ga : Array Value} {Q : α → Shared → Prop}
    (hh : HandOk A s.heap) (ho : s.heap.get? a = some oa) (hda : oa.data = .fields ga) (hsz : 2 < ga.size)
    (hne : ∀ e, A.handled = some (.ref e) → e ≠ a)
    (h : ∀ h', Heap.SameBut a s.heap h' → (∃ o', h'.get? a = some o' ∧ o'.cls = oa.cls) → E (.ref a) { s with heap := h' }) :
    wpAny (model prog w) A (raiseNew (α := α) (.ref a)) Q E s := by
  simp only [raiseNew]
  refine wpAny_bind (wpAny_handled ?_)
  rcases hh with hh | ⟨e, oe, fs, hh, he, hd, h2⟩
  · rw [hh]
    exact wpAny_bind (wpAny_pure (wpAny_throw (h s.heap (.refl _ _) ⟨_, ho, rfl⟩)))
  · rw [hh]
    have hx : ((Value.ref e != Value.ref a) = true) := by
      have := hne e hh
      simpa [bne, BEq.beq] using this
    dsimp only
    rw [if_pos hx]
    refine wpAny_bind (wpAny_holding (unchain_none he hd h2 ?_))
    refine wpAny_bind (wpAny_setField (M := model prog w) ho hda hsz ?_)
    refine wpAny_throw (h _ (Heap.SameBut.update ..) ⟨_, Heap.get?_update_self _ ho (Obj.isFreed_of_fields (Obj.data_mapFields hda _)), Obj.cls_mapFields _ _⟩)
theorem raiseNew_push {α : Type} {w : World} {A : Around} {E : Value → Shared → Prop} {h : Heap} {gs : Array GenState} {dr : Drawn} {tk : Nat} {os : OsState} {o : Obj} {ga : Array Value} {Q : α → Shared → Prop}
    (hh : HandOk A h) (hda : o.data = .fields ga) (hsz : 2 < ga.size)
    (k : ∀ h', (∀ b q, h.get? b = some q → h'.get? b = some q) → (∃ o', h'.get? h.objs.size = some o' ∧ o'.cls = o.cls) → E (.ref h.objs.size) ⟨h', gs, dr, tk, os⟩) :
    wpAny (model prog w) A (raiseNew (α := α) (.ref h.objs.size)) Q E ⟨h.push o, gs, dr, tk, os⟩ := by
  have kp : ∀ b q, h.get? b = some q → (h.push o).get? b = some q := fun b q e => Heap.get?_push_of_some _ e
  refine raiseNew_ok (s := ⟨h.push o, gs, dr, tk, os⟩) (hh.keeps kp) (Heap.get?_push_size _ (Obj.isFreed_of_fields hda)) hda hsz (fun e he => ?_) fun h' hs ho => k h' (fun b q e => hs.extBut b q (Nat.ne_of_lt (Heap.lt_size e)) (kp b q e)) ho
  rcases hh with q | ⟨e', oe, fs, a, b, c, d⟩
  · rw [he] at q; cases q
  · rw [he] at a
    cases a
    exact Nat.ne_of_lt (Heap.lt_size b)
theorem next_endH {w : World} {A : Around} {E : Value → Shared → Prop} {s : Shared} {it l : Addr} {i : Nat} {items : Array Value} {Q : Option Value → Shared → Prop} (hh : HandOk A s.heap)
    (hit : s.heap.IsListIter it l i) (hl : s.heap.IsList l items) (hx : items[i]? = none) (hni : ∀ e, A.handled = some (.ref e) → e ≠ it)
    (hQ : ∀ h', Heap.ExtBut it s.heap h' → Q none { s with heap := h' }) : wpAny (model prog w) A (pyNext (.ref it)) Q E s := by
  obtain ⟨o, ho, hc, hd⟩ := id hit
  obtain ⟨ol, hol, _, nl, hdl⟩ := hl
  unfold pyNext
  refine wpAny_bind (wpAny_attempt (wpAny_callSpecial?_slot (name := Str.ofString "__next__") hit.typeIs slot_listiter_next
    (wpAny_call_entry slot_listiter_next hit.typeIs entry_listiter_next ?_ (args_listiter_next _))))
  show wpAny _ _ (field (.ref it) 0 >>= _) _ _ s
  refine wpAny_bind (wpAny_field ho hd (x := .ref l) rfl ?_)
  show wpAny _ _ (if (Value.ref l == Value.none) = true then _ else _) _ _ s
  rw [if_neg (show ¬ ((Value.ref l == Value.none) = true) from Bool.false_ne_true)]
  show wpAny _ _ (field (.ref it) 1 >>= _) _ _ s
  refine wpAny_bind (wpAny_field ho hd (x := .int i 0) rfl ?_)
  show wpAny _ _ (seqItems? (.ref l) >>= _) _ _ s
  refine wpAny_bind (wpAny_seqItems hol hdl ?_)
  simp only [Int.toNat_natCast, hx]
  refine wpAny_bind (wpAny_rule (wpAny_bind (wpAny_setField ho hd (by simp) ?_)))
  show wpAny _ _ (newExc (.type "StopIteration") [] >>= _) _ _ _
  refine wpAny_bind ?_
  simp only [newExc, newTuple]
  refine wpAny_bind (wpAny_newObj_type ?_ (by size_fits))
  refine wpAny_bind (m := firstArgMember _ _) (wpAny_of_eq (a := Value.none) (by first | rfl | (simp only [firstArgMember]; rfl)) ?_)
  refine wpAny_newObj_type ?_ (by size_fits)
  refine raiseNew_push (A := A.in1) ((hh.of rfl).imp id fun ⟨e, oe, fs, a, b, c, d⟩ => ⟨e, oe, fs, a, ((Heap.SameBut.update ..).extBut.push _) e oe (hni e a) b, c, d⟩) rfl (by simp only [Array.size_append, List.size_toArray, List.length_cons, List.length_nil]; omega) fun h' hs ⟨o', ho', hc'⟩ => ?_
  refine wpAny_bind (wpAny_isInstance (T := "StopIteration") (b := true) ⟨_, ho', hc'⟩ isSubtype_stop ?_)
  exact wpAny_pure (hQ _ fun b o hb e => hs b o (((Heap.SameBut.update ..).extBut.push _) b o hb e))
def iterO (o : Obj) (l : Addr) (i : Nat) : Prop := o.cls = .type "list_iterator" ∧ o.data = .fields #[.ref l, .int i 0]
theorem fr_but {h₀ h h' : Heap} {L I : Addr} {m : Str → Option Value} (F : Fr h₀ L h m) (hs : ∀ b o, b ≠ I → h.get? b = some o → h'.get? b = some o) (hI : I ≠ L) (hn : h₀.get? I = none) : Fr h₀ L h' m :=
  ⟨F.ns.at fun o e => hs _ o (Ne.symm hI) e, fun b o e => hs b o (fun q => by rw [q, hn] at e; cases e) (F.keep b o e), F.above⟩
theorem news_but {h₀ h h' : Heap} {L I : Addr} {X : List (Addr × Obj)} (N : News h₀ L h X) (hs : ∀ b o, b ≠ I → h.get? b = some o → h'.get? b = some o) (hX : ∀ p ∈ X, p.1 ≠ I) : News h₀ L h' X :=
  fun p hp => ⟨hs _ _ (hX p hp) (N p hp).1, (N p hp).2⟩
section
variable {w : World} {A : Around} {E : Value → Shared → Prop} {s : Shared} {h₀ : Heap} {cn : Str} {cs : Scope} {L f l : Addr} {cd : Value} {v : Str} {px pos : Pos} {iter : Expr} {body : List Stmt} {items : Array Value} {Q : Flow → Shared → Prop}
def ForPost (h₀ : Heap) (L I : Addr) (o : Obj) (J : Nat → (Str → Option Value) → List (Addr × Obj) → Array GenState → Drawn → OsState → Prop) (Q : Flow → Shared → Prop) (i : Nat) (fl : Flow) (s : Shared) : Prop := match fl with
  | .next => ∃ m X, Fr h₀ L s.heap m ∧ News h₀ L s.heap ((I, o) :: X) ∧ (∀ p ∈ X, p.1 ≠ I) ∧ J (i + 1) m X s.gens s.drawn s.os
  | .cont => ∃ m X, Fr h₀ L s.heap m ∧ News h₀ L s.heap ((I, o) :: X) ∧ (∀ p ∈ X, p.1 ≠ I) ∧ J (i + 1) m X s.gens s.drawn s.os
  | .brk => Q .next s
  | .ret r => Q (.ret r) s
theorem for_list (J : Nat → (Str → Option Value) → List (Addr × Obj) → Array GenState → Drawn → OsState → Prop) (hh : HandOk A h₀)
    (hL : ∀ i m X g d o h, Fr h₀ L h m → News h₀ L h X → J i m X g d o → h.IsList l items)
    (h : wpAny (model prog w) A (eval iter (envOf cn cs L f cd)) (fun xv s₁ => ∃ m X, xv = .ref l ∧ Fr h₀ L s₁.heap m ∧ News h₀ L s₁.heap X ∧ J 0 m X s₁.gens s₁.drawn s₁.os) E s)
    (turn : ∀ i x m X s' I o, items[i]? = some x → J i m X s'.gens s'.drawn s'.os → Fr h₀ L s'.heap (fun y => if y = v then some x else m y) → News h₀ L s'.heap ((I, o) :: X) → (∀ p ∈ X, p.1 ≠ I) →
      wpAny (model prog w) A (execs body (envOf cn cs L f cd)) (ForPost h₀ L I o J Q i) E s')
    (done : ∀ m X s', J items.size m X s'.gens s'.drawn s'.os → Fr h₀ L s'.heap m → News h₀ L s'.heap X → Q .next s')
    (hs : ∀ x, foldedSetIterable iter (envOf cn cs L f cd) x = pure x := by intro _; rfl) (hk : cs.kind = .function := by rfl) (hv : (envOf cn cs L f cd).kindOf v = some .local := by rfl)
    (hE : PassesOwn (model prog w) A (envOf cn cs L f cd) E := by passes_own) :
    wpAny (model prog w) A (exec (.For (.Name v px) iter body [] pos) (envOf cn cs L f cd)) Q E s := by
  refine wpAny_For (wpAny_mono h (fun xv s₁ h₁ => ?_) fun _ _ z => z) hs
  obtain ⟨m, X, rfl, F, N, hJ⟩ := h₁
  refine wpAny_pyIter_list (hL _ _ _ _ _ _ _ F N hJ) ?_
  have kp : ∀ b o, s₁.heap.get? b = some o → (s₁.heap.push { cls := .type "list_iterator", data := .fields #[.ref l, .int 0 0] }).get? b = some o := fun b o e => Heap.get?_push_of_some _ e
  have N₂ := N.push F { cls := .type "list_iterator", data := .fields #[.ref l, .int 0 0] }
  have hX₂ : ∀ p ∈ X, p.1 ≠ s₁.heap.objs.size := fun p hp => Nat.ne_of_lt (Heap.lt_size (N p hp).1)
  generalize hI : s₁.heap.objs.size = I at *
  refine codeAny_forLoop (R := fun r s' => match r with | .ok f' => Q f' s' | .error e => cameBackBy (model prog w) A (envOf cn cs L f cd) E e s')
    (fun k s' => ∃ i m X o, k + i = items.size ∧ Fr h₀ L s'.heap m ∧ News h₀ L s'.heap ((I, o) :: X) ∧ (∀ p ∈ X, p.1 ≠ I) ∧ iterO o l i ∧ J i m X s'.gens s'.drawn s'.os) ?_ items.size
    ⟨0, m, X, _, rfl, F.keeps kp, N₂, hX₂, ⟨rfl, rfl⟩, hJ⟩
  rintro k s' ⟨i, m, X, o, hk', F, N, hX, ho, hJ⟩
  have hI' := N _ (.head _)
  have NX : News h₀ L s'.heap X := fun p hp => N p (.tail _ hp)
  have hit : s'.heap.IsListIter I l i := ⟨o, hI'.1, ho.1, ho.2⟩
  have hlist := hL _ _ _ _ _ _ _ F NX hJ
  cases k with
  | zero =>
    have hi : i = items.size := by omega
    subst hi
    refine wpAny_passesOwn hE (next_endH ((hh.keeps F.keep).of rfl) hit hlist (by simp) (fun e he => ?_) fun h' hx => ?_)
    · rcases hh with q | ⟨e', oe, fs, a, b, c, d⟩
      · rw [show A.handled = some (.ref e) from he] at q; cases q
      · rw [show A.handled = some (.ref e) from he] at a
        cases a
        exact fun q => by rw [q, hI'.2.2] at b; cases b
    exact wpAny_execs_nil (done m X _ hJ (fr_but F (fun b o hb e => hx b o hb e) hI'.2.1 hI'.2.2) (news_but NX (fun b o hb e => hx b o hb e) hX))
  | succ k =>
    have hlt : i < items.size := by omega
    refine wpAny_passesOwn hE (wpAny_pyNext_list_item hit hlist (x := items[i]) (by simp [hlt]) fun h' hit' hs' => ?_)
    obtain ⟨o', ho', hc', hd'⟩ := hit'
    have F' := fr_but F (fun b o hb e => hs'.extBut b o hb e) hI'.2.1 hI'.2.2
    have N' : News h₀ L h' ((I, o') :: X) := fun p hp => by
      rcases List.mem_cons.mp hp with rfl | hp
      · exact ⟨ho', hI'.2⟩
      · exact news_but NX (fun b o hb e => hs'.extBut b o hb e) hX p hp
    refine wpAny_passesOwn hE (wpAny_assign_Name (stN F' N' (fun h₃ F₃ N₃ => ?_) hk hv))
    refine wpAny_passesOwn hE (wpAny_mono (turn i items[i] m X _ I o' (by simp [hlt]) hJ F₃ N₃ hX) (fun fl s₃ h₃ => ?_) fun _ _ z => z)
    cases fl with
    | next =>
      obtain ⟨m', X', a, b, c, d⟩ := h₃
      exact ⟨k, Nat.lt_succ_self k, i + 1, m', X', o', by omega, a, b, c, ⟨hc', hd'⟩, d⟩
    | cont =>
      obtain ⟨m', X', a, b, c, d⟩ := h₃
      exact ⟨k, Nat.lt_succ_self k, i + 1, m', X', o', by omega, a, b, c, ⟨hc', hd'⟩, d⟩
    | brk => exact h₃
    | ret _ => exact h₃
end
def HoldFor (P : Prop) : Prop := P
theorem hold {P : Prop} (h : HoldFor P) : P := h
theorem hold_out {P : Prop} (h : P) : HoldFor P := h
theorem lineF1_1 : True := by
  (k_with "exec For Name Name cons nil" => (k_here; refine hold ?_))
  trivial
theorem lineF1_2 : True := by
  (k_with "eval Name" => (k_here; (with_reducible show wpAny _ _ (eval (Expr.Name _ _) (envOf _ _ _ _ _)) _ _ _); k_dflt (refine' PyProof.Rows.ld ?zqk1 ?zqk2 ?_; (case zqk1 => k_asm); (case zqk2 => first | exact rfl | assumption); k_whole)))
  trivial
theorem lineF1_3 : True := by
  (k_with "compareOp NotIn" => (k_here; (with_reducible show wpAny _ _ (compareOp CmpOp.NotIn _ (Value.ref _)) _ _ _); (refine' kqd_notIn ?zqN ?zqma ?zqca ?zqda ?zqDa ?zqsa ?zqDx ?zqsx ?zqha ?zqhd ?zqhu ?_; (case zqN => k_asm); (case zqma => first | exact .head _ | exact .tail _ (.head _) | exact .tail _ (.tail _ (.head _))); (case zqca => exact rfl); (case zqda => exact rfl); (case zqDa => with_reducible assumption); (case zqDx => with_reducible assumption); (case zqsa => first | exact fun p hp => hp | exact fun p hp => .tail _ hp | exact fun p hp => .tail _ (.tail _ hp)); (case zqsx => first | exact fun p hp => hp | exact fun p hp => .tail _ hp | exact fun p hp => .tail _ (.tail _ hp)); (case zqha => with_reducible assumption); (case zqhd => with_reducible assumption); (case zqhu => k_units))))
  trivial
theorem app_K {w : World} {A : Around} {E : Value → Shared → Prop} {s : Shared} {h₀ : Heap} {L D : Addr} {m : Str → Option Value} {pre X : List (Addr × Obj)} {us : List Value} {c : Nat} {x : Value} {Q : Value → Shared → Prop}
    (F : Fr h₀ L s.heap m) (N : News h₀ L s.heap (pre ++ (D, listOf us.toArray c) :: X)) (hp : ∀ p ∈ pre, p.1 ≠ D) (hX : ∀ p ∈ X, p.1 ≠ D) (hsz : us.length ≤ 100000)
    (h : ∀ h' c', Fr h₀ L h' m → News h₀ L h' (pre ++ (D, listOf (us ++ [x]).toArray c') :: X) → Q .none { s with heap := h' }) :
    wpAny (model prog w) A (call (.builtin "list.append") [.ref D, x]) Q E s := by
  have hD := N (D, listOf us.toArray c) (List.mem_append.mpr (.inr (.head _)))
  refine wpAny_call_entry slot_list_append ⟨_, hD.1, rfl⟩ entry_list_append ?_ (args_list_append _ _)
  show wpAny _ _ (updateSeq D (·.push x) >>= fun _ => ret .none) _ _ s
  refine wpAny_bind ?_
  have oth : ∀ b o, b ≠ D → s.heap.get? b = some o → (s.heap.update D (Obj.mapSeq (·.push x))).get? b = some o := fun b o hb e => (Heap.get?_update_other _ _ (Ne.symm hb)).trans e
  obtain ⟨c', hc'⟩ : ∃ c', Obj.mapSeq (·.push x) (listOf us.toArray c) = listOf (us ++ [x]).toArray c' := ⟨_, by rw [show (us ++ [x]).toArray = us.toArray.push x by simp]; rfl⟩
  have hget : (s.heap.update D (Obj.mapSeq (·.push x))).get? D = some (listOf (us ++ [x]).toArray c') := (Heap.get?_update_self _ hD.1 rfl).trans (by rw [hc'])
  refine wpAny_updateSeq hD.1 rfl (wpAny_pure ⟨.none, rfl, h _ c' (fr_but F oth hD.2.1 hD.2.2) fun p hp' => ?_⟩) (by rw [sizeLine_eq]; simp; omega) (by rw [sizeLine_eq]; simp; omega)
  rcases List.mem_append.mp hp' with q | q
  · exact news_but (X := pre) (fun p hp => N p (List.mem_append.mpr (.inl hp))) oth hp p q
  · rcases List.mem_cons.mp q with rfl | q
    · exact ⟨hget, hD.2⟩
    · exact news_but (X := X) (fun p hp => N p (List.mem_append.mpr (.inr (.tail _ hp)))) oth hX p q
theorem app_K1 {w : World} {A : Around} {E : Value → Shared → Prop} {s : Shared} {h₀ : Heap} {L D I : Addr} {o : Obj} {m : Str → Option Value} {X : List (Addr × Obj)} {us : List Value} {c : Nat} {x : Value} {Q : Value → Shared → Prop}
    (F : Fr h₀ L s.heap m) (N : News h₀ L s.heap ((I, o) :: (D, listOf us.toArray c) :: X)) (hp : I ≠ D) (hX : ∀ p ∈ X, p.1 ≠ D) (hsz : us.length ≤ 100000)
    (h : ∀ h' c', Fr h₀ L h' m → News h₀ L h' ((I, o) :: (D, listOf (us ++ [x]).toArray c') :: X) → Q .none { s with heap := h' }) :
    wpAny (model prog w) A (call (.builtin "list.append") [.ref D, x]) Q E s :=
  app_K (pre := [(I, o)]) F N (fun p hp' => by rcases List.mem_cons.mp hp' with rfl | q; exact hp; cases q) hX hsz h
theorem lineF1_4 : True := by
  (k_with "call builtin:list.append" => (k_here; ((refine' app_K1 ?zqF ?zqN ?zqp ?zqX ?zqz ?_; (case zqF => k_asm); (case zqN => with_reducible assumption); (case zqp => with_reducible assumption); (case zqX => with_reducible assumption); (case zqz => omega)); intro _ _ _ _)))
  trivial
theorem shared_eq {s s' : Shared} (h1 : s'.gens = s.gens) (h2 : s'.drawn = s.drawn) (h3 : s'.os = s.os) : s' = { s with heap := s'.heap, toks := s'.toks } := by
  obtain ⟨h, g, d, t, o⟩ := s'
  obtain ⟨h0, g0, d0, t0, o0⟩ := s
  cases h1; cases h2; cases h3
  rfl
open Classical in
noncomputable def dd : List Dat → List Dat → List Dat
  | acc, [] => acc
  | acc, d :: r => if d ∈ acc then dd acc r else dd (acc ++ [d]) r
open Classical in
theorem dd_snoc : ∀ (acc l : List Dat) (d : Dat), dd acc (l ++ [d]) = if d ∈ dd acc l then dd acc l else dd acc l ++ [d]
  | acc, [], d => by by_cases hq : d ∈ acc <;> simp [dd, hq]
  | acc, e :: r, d => by
    simp only [List.cons_append, dd]
    split
    · exact dd_snoc acc r d
    · exact dd_snoc (acc ++ [e]) r d
open Classical in
theorem dd_mem : ∀ {acc l : List Dat} {d : Dat}, d ∈ dd acc l → (∀ {P : Prop} (_ : d ∈ acc), P) → d ∈ l
  | acc, [], d, h, k => k h
  | acc, e :: r, d, h, k => by
    rw [dd] at h
    split at h
    · exact .tail _ (dd_mem h k)
    · by_cases hq : d = e
      · exact hq ▸ .head _
      · refine .tail _ (dd_mem h fun {P} hm => ?_)
        rcases List.mem_append.mp hm with hm | hm
        · exact k hm
        · exact absurd (List.mem_singleton.mp hm) hq
theorem take_snoc {α : Type} {l : List α} {i : Nat} (h : i < l.length) : l.take (i + 1) = l.take i ++ [l[i]] := by
  rw [List.take_add_one, List.getElem?_eq_getElem h]; rfl
theorem keeps_ledX {s : Shared} {g h' : Heap} {L : Addr} {m : Str → Option Value} {X Y : List (Addr × Obj)} {tk : Nat} (kg : ∀ b o, b ∉ X.map (·.1) → s.heap.get? b = some o → g.get? b = some o)
    (F : Fr g L h' m) (N : News g L h' Y) (hn : ∀ p ∈ X, s.heap.get? p.1 = some p.2) (hs : ∀ p ∈ X, p ∈ Y) : Keeps s { s with heap := h', toks := tk } :=
  keeps_led kg F (fun p hp => N p (hs p hp)) hn
set_option maxHeartbeats 4000000 in
theorem dedupU_ok {w : World} {A : Around} {s : Shared} {mg mb : Str → Option Value} {R : Result → Shared → Prop} {h₀ : Heap} {X : List (Addr × Obj)} {a : Addr} {vs : List Value} {c : Nat} {ds : List Dat}
    (G₀ : Gd w mg mb h₀) (k₀ : ∀ b o, h₀.get? b = some o → s.heap.get? b = some o) (hX : ∀ p ∈ X, s.heap.get? p.1 = some p.2 ∧ h₀.get? p.1 = none)
    (ha : (a, listOf vs.toArray c) ∈ X) (hd : DatAll X vs ds) (hok : ∀ d ∈ ds, kqdOk 8 d = true) (hsz : vs.length ≤ 1000) (hh : HandOk A h₀) (hroom : A.depth < 870) (hu : A.units + 100 < cLine)
    (h : ∀ s' D us c', Keeps s s' → s'.heap.get? D = some (listOf us.toArray c') → (∀ o, s.heap.get? D ≠ some o) → DatAll X us (dd [] ds) → us.length ≤ vs.length → R (.ok (.ret (.ref D))) s') :
    codeAny (model prog w) A (.call (.ref 59) ⟨[.ref a], []⟩) R s := by
  refine' call_led G₀ k₀ (news := X) hX ?ho ?hcd ?hr ?hb ?hl ?_ ?c1 ?c2 ?c3 ?c4
  case ho => k_dflt k_is
  case hcd => k_dflt k_is
  case hr => k_room
  case hb => exact BindsTo.of_eq rfl
  case hl => exact locs rfl
  case c1 => rfl
  case c2 => rfl
  case c3 => rfl
  case c4 => decide
  intro g L h₁ kg F N KX TT
  have hg9 : HandOk A g := hh.imp id fun ⟨e, oe, fs, x, y, z⟩ => ⟨e, oe, fs, x, kg _ _ (fun hm => by
    obtain ⟨p, hp, q⟩ := List.mem_map.mp hm
    rw [← q, (hX p hp).2] at y; cases y) (k₀ _ _ y), z⟩
  k_steps
  rename Fr g L _ _ => F'
  rename News g L _ _ => N'
  rename ∀ p ∈ X, p.1 < _ => hlt
  have hD : ∀ p ∈ X, p.1 ≠ _ := fun p hp => Nat.ne_of_lt (hlt p hp)
  refine hold_out (for_list (h₀ := g) (l := a) (items := vs.toArray) (J := fun i m Y gs dr os => ∃ D us c, m "new_unhashable" = some (.ref D) ∧ m "unhashable_params" = some (.ref a) ∧ Y = (D, listOf us.toArray c) :: X ∧ (∀ p ∈ X, p.1 ≠ D) ∧ DatAll X us (dd [] (ds.take i)) ∧ us.length ≤ i ∧ gs = s.gens ∧ dr = s.drawn ∧ os = s.os) (hg9.of rfl) ?_ ?_ ?_ ?_)
  · rintro i m Y gs dr os hp _ N ⟨D, us, c2, _, _, rfl, _⟩
    exact ⟨_, (N _ (.tail _ ha)).1, rfl, _, rfl⟩
  · refine ld F' rfl ⟨_, _, rfl, F', N', _, [], _, rfl, rfl, rfl, hD, ?_, Nat.zero_le _, rfl, rfl, rfl⟩
    simpa [dd] using DatAll.nil
  · rintro i x m Y s' I o hx ⟨D, us, c2, hm1, hm2, rfl, hne, hda, hul, hg, hdr, ho⟩ F2 N2 hI
    have hi : i < ds.length := by
      have := (Array.getElem?_eq_some_iff.mp hx).1
      rw [← hd.length]; simpa using this
    obtain ⟨x', hx', hdx⟩ := hd.get hi
    have hxx : x = x' := by
      have h1 : vs[i]? = some x := by simpa using hx
      rw [h1] at hx'; exact Option.some.inj hx'
    subst hxx
    have hkd : kqdOk 8 ds[i] = true := hok _ (List.getElem_mem hi)
    have hkn : ∀ d ∈ dd [] (ds.take i), kqdOk 8 d = true := fun d hm => hok d (List.mem_of_mem_take (dd_mem hm (fun {P} h => nomatch h)))
    have hlen : us.length ≤ 1000 := by have := hd.length; omega
    have hpI : I ≠ D := Ne.symm (hI (D, _) (.head _))
    have htk := take_snoc hi
    k_steps
    · rename (decide _ = true) => hq
      have hq : ds[i] ∈ dd [] (ds.take i) := by simpa only [decide_eq_true_eq] using hq
      exact ⟨_, _, F2, N2, hI, D, us, c2, hm1, hm2, rfl, hne, by rw [htk, dd_snoc, if_pos hq]; exact hda, by omega, hg, hdr, ho⟩
    · rename (decide _ = false) => hq
      have hq : ¬ ds[i] ∈ dd [] (ds.take i) := by simpa only [decide_eq_false_iff_not] using hq
      rename Fr g L _ _ => F3
      rename News g L _ _ => N3
      exact ⟨_, _, F3, N3, fun p hp => by
        rcases List.mem_cons.mp hp with rfl | hp
        · exact Ne.symm hpI
        · exact hI p (.tail _ hp), D, _, _, hm1, hm2, rfl, hne, by rw [htk, dd_snoc, if_neg hq]; exact hda.append (DatAll.one hdx), by simp; omega, hg, hdr, ho⟩
  · rintro m Y s' ⟨D, us, c2, hm1, hm2, rfl, hne, hda, hul, hg, hdr, ho⟩ F2 N2
    k_steps
    dsimp only
    have hlen : ds.take vs.toArray.size = ds := by rw [List.take_of_length_le]; rw [← hd.length]; simp
    rw [hlen] at hda
    have hs := shared_eq hg hdr ho
    rw [hs]
    refine h _ D us c2 ?_ (N2 _ (.head _)).1 ?_ hda (by simpa using hul)
    · exact keeps_ledX (X := X) kg F2 N2 (fun p hp => (hX p hp).1) fun p hp => .tail _ hp
    · intro o ho'
      have := (N2 _ (.head _)).2.2
      by_cases hm : D ∈ X.map (·.1)
      · obtain ⟨p, hp, e⟩ := List.mem_map.mp hm
        exact hne p hp e
      · rw [kg D o hm ho'] at this; cases this
section
variable {w : World} {A₀ : Around} {E : Value → Shared → Prop} {s' : Shared} {h₀ g h : Heap} {outer : List Env} {L a e : Addr} {m : Str → Option Value} {name : Str} {scope : Scope} {cd : Value}
  {b₁ : Stmt} {suite : List Stmt} {pos np : Pos} {rest : List ExceptHandler} {Q : Flow → Shared → Prop} {mg mb : Str → Option Value} {x : Str} {X T' : String}
theorem frames_in {base H : Heap} {h₀ g : Heap} (hb : ∀ b, b ∈ frs outer → base.get? b = none) (hk : ∀ b o, g.get? b = some o → H.get? b = some o) : ∀ {l : List Env}, (∀ b ∈ frs l, b ∈ frs outer) → g.FunFrames h₀ l → H.FunFrames base l
  | [], _, _ => trivial
  | env :: rest, hin, ⟨hkd, ⟨L, o, hf, _, ho, hd⟩, hr⟩ => ⟨hkd, ⟨L, o, hf, hb L (hin L (mem_frs (.head _) hf)), hk L o ho, hd⟩, frames_in hb hk (fun b hm => by
      obtain ⟨x, hx, hxf⟩ := List.mem_filterMap.mp hm
      exact hin b (mem_frs (.tail _ hx) hxf)) hr⟩
theorem caught_new (hfr : A₀.frames = some outer) (G₀ : Gd w mg mb h₀) (k₀ : ∀ b o, h₀.get? b = some o → g.get? b = some o) (hff : g.FunFrames h₀ outer) (F : Fr g L h m) (hx : Heap.NewExc h s'.heap e X)
    (hv : bootBuiltins x = some (.type T'))
    (hexc : isSubtype (.type T') (.type "BaseException") = pure true) (hnt : isSubtype (.type ((Manifest.find? T').elim "type" fun y => y.metatype)) (.type "tuple") = pure false) (hsub : isSubtype (.type X) (.type T') = pure true)
    (k : ∀ h', (∀ b o, b ∉ frs outer → g.get? b = some o → h'.get? b = some o) → s'.heap.UpToSlots h' → Fr (hideAll g (frs outer)) L h' m →
      wpAny (model prog w) ((A₀.deeper (envOf name scope L a cd)).mark (some (.ref e))) (execs (b₁ :: suite) (envOf name scope L a cd)) Q E { s' with heap := h' })
    (h1 : x ∉ startupNames := by decide +kernel) (h2 : x ∉ LO := by decide +kernel) (h3 : x ∉ (recsOf Mine.hd.view_39).map (·.name) := by decide +kernel) (h4 : x ∉ (litsOf Mine.hd.view_39).map (·.1) := by decide +kernel) (h4c : x ∉ (clssOf Mine.hd.view_39 LO).map (·.name) := by decide +kernel) (hn : x ≠ "__name__" := by decide +kernel)
    (hk : scope.kind = .function := by rfl) (hxk : (envOf name scope L a cd).kindOf x = some .globalImplicit := by rfl) (hd : (x == ("__debug__" : Str)) = false := by decide)
    (hE : PassesOwnAt (model prog w) ((A₀.deeper (envOf name scope L a cd)).mark (some (.ref e))) (A₀.deeper (envOf name scope L a cd)) (envOf name scope L a cd) E := by passes_own) :
    wpAny (model prog w) (A₀.deeper (envOf name scope L a cd)) (noteFrame (.ref e) (envOf name scope L a cd))
      (fun _ s₂ => wpAny (model prog w) (A₀.deeper (envOf name scope L a cd)) (setFlight (.ref e) none) (fun _ s₃ =>
        wpAny (model prog w) (A₀.deeper (envOf name scope L a cd)) (handleBy (.ref e) (envOf name scope L a cd) (.ExceptHandler (some (.Name x np)) none (b₁ :: suite) pos :: rest)) Q E s₃) E s₂) E s' := by
  have hbn : ∀ b, b ∈ frs outer → (hideAll g (frs outer)).get? b = none := fun b hb => hideAll_none _ hb
  have hbg : ∀ b o, (hideAll g (frs outer)).get? b = some o → g.get? b = some o := fun b o e => of_hideAll _ e
  have hgs : ∀ b o, g.get? b = some o → s'.heap.get? b = some o := fun b o e => hx.keeps b o (F.keep b o e)
  have hst : (hideAll g (frs outer)).StaysIn s'.heap := fun b o e => hgs b o (hbg b o e)
  have hLn : (hideAll g (frs outer)).get? L = none := by
    cases q : (hideAll g (frs outer)).get? L with
    | none => rfl
    | some o => exact absurd (Nat.lt_of_lt_of_le (Heap.lt_size (hbg _ _ q)) F.above) (Nat.lt_irrefl _)
  have hen : (hideAll g (frs outer)).get? e = none := by
    cases q : (hideAll g (frs outer)).get? e with
    | none => rfl
    | some o => have := F.keep _ _ (hbg _ _ q); rw [hx.new] at this; cases this
  have hfrD : (A₀.deeper (envOf name scope L a cd)).frames = some (envOf name scope L a cd :: outer) := Around.frames_deeper hfr
  have hns' : s'.heap.Ns L m := F.ns.keeps hx.keeps
  have hl : s'.heap.FunFrames (hideAll g (frs outer)) (envOf name scope L a cd :: outer) := by
    refine ⟨by show scope.kind ≠ .module; rw [hk]; decide, ?_, frames_in hbn hgs (fun b hb => hb) hff⟩
    obtain ⟨o, es, ep, ho, hdd, _⟩ := hns'
    exact ⟨L, o, rfl, hLn, ho, fun vs q => by rw [hdd] at q; cases q⟩
  obtain ⟨ob, t, heb, hcls, hdat⟩ := hx.there
  have F' : Fr (hideAll g (frs outer)) L s'.heap m := ⟨hns', hst, by rw [hideAll_size]; exact F.above⟩
  have h0b : ∀ b o, h₀.get? b = some o → (hideAll g (frs outer)).get? b = some o := fun b o q => hideAll_get _ (k₀ b o q) fun hm => by rw [(hff.mem hm).1] at q; cases q
  have T : TopRead Mine.hd.view_39 LO mg mb (hideAll g (frs outer)) := G₀.T.keeps h0b
  unfold noteFrame
  show wpAny _ _ (field (.ref e) 1 >>= _) _ _ _
  refine wpAny_bind (wpAny_field heb hdat (x := .none) (by simp) ?_)
  rw [if_neg (show ¬ ((Value.none != Value.none) = true) by decide)]
  refine wpAny_entryW hfrD hl rfl heb hst hen hdat (by simp) (a0 := t) (by simp) fun h₄ hN => ?_
  obtain ⟨n1, n2, n3, n4⟩ := hN
  have hheld : Heap.HeldW (hideAll g (frs outer)) (envOf name scope L a cd :: outer) e ob.cls t L h₄ := ⟨n1, hen, n2, n3⟩
  refine wpAny_landsW hheld fun h₅ hfl hsm₅ => ?_
  have hsm5 : s'.heap.UpToSlots h₅ := Heap.UpToSlots.trans n4 hsm₅
  rw [hcls] at hfl
  have F₅ := F'.of_stays hfl.1 hsm5
  obtain ⟨o5, ho5, hc5⟩ := hfl.there
  refine wpAny_handleBy_builtin (X := X) (T := T') (b := true) hexc hnt hsub (ld_builtin_at F₅ T.g (T.free x h1 h2 h3 h4 h4c) T.b ((T.builtins x hn).trans hv) ⟨rfl, ⟨o5, ho5, hc5⟩, ?_⟩ hk hxk hd)
  refine lands_againW hfl fun h₆ hfl₆ hsm₆ => ?_
  have F₆ := F'.of_stays hfl₆.1 (hsm5.trans hsm₆)
  exact wpAny_passesOwnAt hE (k h₆ (fun b o nb q => hfl₆.1 b o (hideAll_get _ q nb)) (hsm5.trans hsm₆) F₆)
end
open Classical in
noncomputable def rmv (d : Dat) : List Dat → List Dat
  | [] => []
  | e :: r => if e = d then r else e :: rmv d r
theorem rmv_idx (d : Dat) : ∀ {es : List Dat}, d ∈ es → ∃ j, ∃ hj : j < es.length, es[j] = d ∧ (∀ m (hm : m < es.length), m < j → es[m] ≠ d) ∧ es.eraseIdx j = rmv d es
  | e :: r, h => by
    by_cases hq : e = d
    · exact ⟨0, Nat.zero_lt_succ _, hq, fun m _ hm => absurd hm (Nat.not_lt_zero _), by simp [rmv, hq]⟩
    · have hr : d ∈ r := by
        rcases List.mem_cons.mp h with q | q
        · exact absurd q.symm hq
        · exact q
      obtain ⟨j, hj, a, b, c⟩ := rmv_idx d hr
      refine ⟨j + 1, Nat.succ_lt_succ hj, by simpa using a, fun m hm hlt => ?_, by simp [rmv, hq, c]⟩
      cases m with
      | zero => simpa using hq
      | succ m => simpa using b m (Nat.lt_of_succ_lt_succ hm) (Nat.lt_of_succ_lt_succ hlt)
theorem datAll_erase {X : List (Addr × Obj)} : ∀ {us : List Value} {es : List Dat} (j : Nat), DatAll X us es → DatAll X (us.eraseIdx j) (es.eraseIdx j)
  | _, _, _, .nil => by simpa using DatAll.nil
  | _, _, 0, .cons h r => by simpa using r
  | _, _, j + 1, .cons h r => by simpa using DatAll.cons h (datAll_erase j r)
section
variable {w : World} {A : Around} {E : Value → Shared → Prop} {s : Shared} {h₀ : Heap} {L : Addr} {m : Str → Option Value} {news X : List (Addr × Obj)}
theorem dat_eqBool {v x : Value} {d e : Dat} {Q : Bool → Shared → Prop} (b : Bool) (hb : b = true ↔ d = e) (N : News h₀ L s.heap news) (hs : ∀ p ∈ X, p ∈ news) (Dv : DatIn X v d) (Dx : DatIn X x e) (kd : kqdOk 8 d = true) (ke : kqdOk 8 e = true)
    (hu : A.units + 64 < cLine) (h : Q b s) : wpAny (model prog w) A (eqBool v x) Q E s := by
  obtain ⟨as, ra⟩ := kqd_in N 8 (Dv.mono hs) kd
  obtain ⟨bs, rb⟩ := kqd_in N 8 (Dx.mono hs) ke
  have la := kqd_lay 8 d kd
  have lb := kqd_lay 8 e ke
  have q := kqd_eqv 8 d e 8 kd ke
  have heq : PyData.eqv (kqdP d) (kqdP e) = b := by
    cases b with
    | true => exact q.mpr (hb.mp rfl)
    | false =>
      refine Bool.eq_false_iff.mpr fun z => ?_
      exact absurd (hb.mpr (q.mp z)) Bool.false_ne_true
  refine SeqAt.eqBoolOverData _ w A E s v x _ _ _ _ Q ra rb la.1 lb.1 ?_ (by rw [heq]; exact h)
  have := la.2
  omega
theorem rem_loop {R : Result → Shared → Prop} {l : Addr} {x : Value} {items : Array Value} {n : Nat} {e : Nat → Bool} (hl : s.heap.get? l = some (listOf items n))
    (he : ∀ i (hi : i < items.size) (E' : Value → Shared → Prop) (Q : Bool → Shared → Prop), Q (e i) s → wpAny (model prog w) A.in1 (eqBool items[i] x) Q E' s) (hh : A.handled = none) (hz : items.size ≤ 100000)
    (hf : ∀ j, j < items.size → e j = true → (∀ m, m < j → e m = false) → R (.ok (.ret .none)) { s with heap := s.heap.update l (Obj.mapSeq fun xs => xs.eraseIdxIfInBounds j) })
    (hn : (∀ m, m < items.size → e m = false) → ∀ h' tk ev, Heap.NewExc s.heap h' ev "ValueError" → R (.error (.ref ev)) { s with heap := h', toks := tk }) :
    ∀ k (i : Nat), items.size - i = k → (∀ m, m < i → e m = false) → codeAny (model prog w) A (.builtin "list.remove.loop" ⟨[.ref l, x, rawInt i], []⟩) R s := by
  intro k
  induction k with
  | zero =>
    intro i hk hlt
    refine codeAny_builtin MeetsSeq.entry_remove_loop ?_
    rw [Around.under_plainId MeetsSeq.plain_remove_loop _]
    unfold Builtin.«list.remove.loop» rawInt
    dsimp only
    unfold Builtin.List.listItems
    refine wpAny_bind (wpAny_bind (wpAny_seqItems hl rfl (wpAny_pure ?_)))
    have hi : items[((i : Nat) : Int).toNat]? = none := by simp; omega
    rw [hi]
    dsimp only
    refine wpAny_bind (wpAny_rule ?_)
    exact_raiseError plainExc_ValueError hh (fun h' tk ev hx => hn (fun m hm => hlt m (by omega)) h' tk ev hx)
  | succ k ih =>
    intro i hk hlt
    have hi' : i < items.size := by omega
    refine codeAny_builtin MeetsSeq.entry_remove_loop ?_
    rw [Around.under_plainId MeetsSeq.plain_remove_loop _]
    unfold Builtin.«list.remove.loop» rawInt
    dsimp only
    unfold Builtin.List.listItems
    refine wpAny_bind (wpAny_bind (wpAny_seqItems hl rfl (wpAny_pure ?_)))
    have hi : items[((i : Nat) : Int).toNat]? = some items[i] := by simp [hi']
    rw [hi]
    dsimp only
    refine wpAny_bind (he i hi' _ _ ?_)
    cases hb : e i with
    | true =>
      rw [if_pos rfl]
      show wpAny _ _ (updateSeq l (·.eraseIdxIfInBounds ((i : Nat) : Int).toNat) >>= fun _ => ret .none) _ _ s
      refine wpAny_bind (wpAny_updateSeq hl rfl (wpAny_pure ?_) (by rw [sizeLine_eq]; omega) ?_)
      · have := hf i hi' hb hlt
        simpa using this
      · have := MeetsSeq.size_erased items ((i : Nat) : Int).toNat
        rw [sizeLine_eq]; omega
    | false =>
      rw [if_neg Bool.false_ne_true]
      refine wpAny_pure ⟨plainId_quiet MeetsSeq.plain_remove_loop _, ?_⟩
      have hc : ((i : Int) + 1) = ((i + 1 : Nat) : Int) := by push_cast; rfl
      rw [hc]
      exact ih (i + 1) (by omega) fun m hm => by
        rcases Nat.lt_or_ge m i with q | q
        · exact hlt m q
        · rw [show m = i by omega]; exact hb
theorem rem_call {Q : Value → Shared → Prop} {l : Addr} {x : Value} {items : Array Value} {n : Nat} {e : Nat → Bool} (hl : s.heap.get? l = some (listOf items n))
    (he : ∀ i (hi : i < items.size) (A' : Around) (E' : Value → Shared → Prop) (Q : Bool → Shared → Prop), A'.units ≤ A.units + 10 → Q (e i) s → wpAny (model prog w) A' (eqBool items[i] x) Q E' s) (hh : A.handled = none) (hz : items.size ≤ 100000)
    (hf : ∀ j, j < items.size → e j = true → (∀ m, m < j → e m = false) → Q .none { s with heap := s.heap.update l (Obj.mapSeq fun xs => xs.eraseIdxIfInBounds j) })
    (hn : (∀ m, m < items.size → e m = false) → ∀ h' tk ev, Heap.NewExc s.heap h' ev "ValueError" → E (.ref ev) { s with heap := h', toks := tk }) :
    wpAny (model prog w) A (call (.builtin "list.remove") [.ref l, x]) Q E s := by
  refine wpAny_call (codeAny_call_builtin PySem.F.slot_list_remove.plain PySem.F.entry_list_remove (PySem.F.slot_list_remove.check _ _ _ _ _ _ _ _ ⟨_, hl, rfl⟩ (PySem.F.args_list_remove_2 _ _) ?_))
  refine wpAny_pure ⟨plainId_quiet MeetsSeq.plain_remove_loop _, rem_loop hl (fun i hi E' Q hq => he i hi _ E' Q ?_ hq) hh hz hf hn _ 0 rfl fun m hm => absurd hm (Nat.not_lt_zero _)⟩
  show A.units + 1 ≤ _
  omega
end
theorem dd_iff (x : Dat) : ∀ {acc l : List Dat}, x ∈ dd acc l ↔ x ∈ acc ∨ x ∈ l
  | acc, [] => by simp [dd]
  | acc, d :: r => by
    rw [dd]
    split
    · rename_i h
      rw [dd_iff x]
      constructor
      · rintro (q | q)
        · exact .inl q
        · exact .inr (.tail _ q)
      · rintro (q | q)
        · exact .inl q
        · rcases List.mem_cons.mp q with rfl | q
          · exact .inl h
          · exact .inr q
    · rw [dd_iff x]
      rw [List.mem_append, List.mem_singleton, List.mem_cons]
      constructor
      · rintro ((q | q) | q)
        · exact .inl q
        · exact .inr (.inl q)
        · exact .inr (.inr q)
      · rintro (q | q | q)
        · exact .inl (.inl q)
        · exact .inl (.inr q)
        · exact .inr q
theorem dd_nodup : ∀ {acc l : List Dat}, acc.Nodup → (dd acc l).Nodup
  | acc, [], h => by simpa [dd] using h
  | acc, d :: r, h => by
    rw [dd]
    split
    · exact dd_nodup h
    · rename_i hq
      refine dd_nodup ?_
      rw [List.nodup_append]
      refine ⟨h, by simp, fun a ha b hb => ?_⟩
      rw [List.mem_singleton.mp hb]
      exact fun q => hq (q ▸ ha)
theorem mem_rmv (d x : Dat) : ∀ {es : List Dat}, es.Nodup → (x ∈ rmv d es ↔ x ∈ es ∧ x ≠ d)
  | [], _ => by simp [rmv]
  | e :: r, h => by
    rw [List.nodup_cons] at h
    rw [rmv]
    split
    · rename_i hq
      subst hq
      constructor
      · exact fun q => ⟨.tail _ q, fun z => h.1 (z ▸ q)⟩
      · rintro ⟨q, z⟩
        rcases List.mem_cons.mp q with q | q
        · exact absurd q z
        · exact q
    · rename_i hq
      rw [List.mem_cons, mem_rmv d x h.2, List.mem_cons]
      constructor
      · rintro (q | q)
        · exact ⟨.inl q, fun z => hq (q ▸ z)⟩
        · exact ⟨.inr q.1, q.2⟩
      · rintro ⟨q | q, z⟩
        · exact .inl q
        · exact .inr ⟨q, z⟩
theorem nodup_rmv (d : Dat) : ∀ {es : List Dat}, es.Nodup → (rmv d es).Nodup
  | [], _ => by simp [rmv]
  | e :: r, h => by
    have h' := h
    rw [List.nodup_cons] at h
    rw [rmv]
    split
    · exact h.2
    · rw [List.nodup_cons]
      exact ⟨fun q => h.1 ((mem_rmv d e h.2).mp q).1, nodup_rmv d h.2⟩
noncomputable def remAll : List Dat → List Dat → List Dat
  | [], es => es
  | d :: r, es => remAll r (rmv d es)
theorem remAll_snoc (d : Dat) : ∀ (l es : List Dat), remAll (l ++ [d]) es = rmv d (remAll l es)
  | [], _ => rfl
  | _ :: r, es => remAll_snoc d r _
theorem nodup_remAll : ∀ (l : List Dat) {es : List Dat}, es.Nodup → (remAll l es).Nodup
  | [], _, h => h
  | d :: r, _, h => nodup_remAll r (nodup_rmv d h)
theorem mem_remAll (x : Dat) : ∀ (l : List Dat) {es : List Dat}, es.Nodup → (x ∈ remAll l es ↔ x ∈ es ∧ x ∉ l)
  | [], es, _ => by simp [remAll]
  | d :: r, es, h => by
    rw [remAll, mem_remAll x r (nodup_rmv d h), mem_rmv d x h, List.mem_cons]
    constructor
    · rintro ⟨⟨a, b⟩, c⟩
      exact ⟨a, fun q => q.elim b c⟩
    · rintro ⟨a, b⟩
      exact ⟨⟨a, fun q => b (.inl q)⟩, fun q => b (.inr q)⟩
theorem nodup_take_not {es : List Dat} (h : es.Nodup) {i : Nat} (hi : i < es.length) : es[i] ∉ es.take i := fun hm => by
  obtain ⟨j, hj, e⟩ := List.mem_iff_getElem.mp hm
  rw [List.length_take] at hj
  rw [List.getElem_take] at e
  have := (List.getElem_inj h).mp e
  omega
theorem call_ledL {w : World} {A : Around} {s : Shared} {mg mb : Str → Option Value} {h₀ : Heap} {news : List (Addr × Obj)} {R : Result → Shared → Prop} {name qual : Str} {params : Arguments} {body : List Stmt} {scope : Scope} {dV kV doc pm cdv ct oc : Value} {an od : Option Addr} {osl : Array (Option Value)} {f : Addr} {args : Args} {binds : List (Str × Value)}
    (G₀ : Gd w mg mb h₀) (k₀ : ∀ b o, h₀.get? b = some o → s.heap.get? b = some o) (hn : ∀ p ∈ news, s.heap.get? p.1 = some p.2 ∧ h₀.get? p.1 = none)
    (ho : (Mine.hd.heap_39 w.params).lookup f = some ⟨oc, od, .func (fnOf name qual params body scope dV kV doc pm an cdv ct), osl⟩) (hcd : codeIn (Mine.hd.heap_39 w.params) cdv qual = true) (hroom : A.depth < recursionLimit)
    (hbind : BindsTo s (fnOf name qual params body scope dV kV doc pm an cdv ct) args binds) (hloc : ∀ y ∈ binds, scope.names.lookup y.1 = some .local)
    (h : ∀ g L h₁, (∀ b o, b ∉ news.map (·.1) → s.heap.get? b = some o → g.get? b = some o) → s.heap.objs.size ≤ L → Fr g L h₁ (fun y => binds.reverse.lookup y) → News g L h₁ news → (Mine.hd.heap_39 w.params).In g → TopRead Mine.hd.view_39 LO mg mb g →
      wpAny (model prog w) (A.deeper (envOf qual scope L f cdv)) (execs body (envOf qual scope L f cdv))
        (fun fl s' => R (.ok (.ret (match fl with | .ret v => v | _ => .none))) s') FalseE { s with heap := h₁, toks := s.toks + binds.length })
    (hco : scope.isCoroutine = false := by rfl) (hgen : scope.isGenerator = false := by rfl) (hk : scope.kind = .function := by rfl)
    (hcell : ∀ x ∈ scope.names, x.2 ≠ .cell := by decide) : codeAny (model prog w) A (.call (.ref f) args) R s := by
  have G := G₀.keeps k₀
  refine codeAny_call_def (fd := fnOf name qual params body scope dV kV doc pm an cdv ct) (body := body) (binds := binds) hroom (G.K _ _ ho) rfl G.T.nolimit (codeRec_of G.K hcd) rfl hbind hcell hloc (fun h₁ hns hk₁ => ?_) hco hgen hk
  have nm : ∀ b o, h₀.get? b = some o → b ∉ news.map (·.1) := fun b o e q => by
    obtain ⟨p, hp, rfl⟩ := List.mem_map.mp q
    rw [(hn p hp).2] at e; cases e
  have st : h₀.StaysIn (hideAll s.heap (news.map (·.1))) := fun b o e => hideAll_get _ (k₀ b o e) (nm b o e)
  exact wpAny_mono (h (hideAll s.heap (news.map (·.1))) s.heap.objs.size h₁ (fun b o nb e => hideAll_get _ e nb) (Nat.le_refl _) ⟨hns, fun b o e => hk₁ b o (of_hideAll _ e), Nat.le_of_eq (hideAll_size _ _)⟩
    (fun p hp => ⟨hk₁ _ _ (hn p hp).1, Nat.ne_of_lt (Heap.lt_size (hn p hp).1), hideAll_none _ (List.mem_map_of_mem hp)⟩) (Frag.In.keeps G₀.K fun b o e => st b o e) (G₀.T.keeps fun b o e => st b o e)) (fun _ _ x => x) fun _ _ x => x.elim

theorem dedupU_K {w : World} {A : Around} {E : Value → Shared → Prop} {s : Shared} {mg mb : Str → Option Value} {h₀ : Heap} {L : Addr} {m : Str → Option Value} {news X : List (Addr × Obj)} {a : Addr} {vs : List Value} {c : Nat} {ds : List Dat} {Q : Value → Shared → Prop}
    (F : Fr h₀ L s.heap m) (KX : (Mine.hd.heap_39 w.params).In h₀) (TT : TopRead Mine.hd.view_39 LO mg mb h₀) (N : News h₀ L s.heap news) (hs : ∀ p ∈ X, p ∈ news)
    (ha : (a, listOf vs.toArray c) ∈ X) (hd : DatAll X vs ds) (hok : ∀ d ∈ ds, kqdOk 8 d = true) (hsz : vs.length ≤ 1000) (hh : HandX A s.heap X) (hroom : A.depth < 870) (hu : A.units + 100 < cLine)
    (h : ∀ D us c' h' tk, Fr h₀ L h' m → News h₀ L h' ((D, listOf us.toArray c') :: news) → (∀ p ∈ news, p.1 ≠ D) → DatAll X us (dd [] ds) → us.length ≤ 1000 → Q (.ref D) { s with heap := h', toks := tk }) :
    wpAny (model prog w) A (call (.ref 59) [.ref a]) Q E s := by
  have kk : ∀ b o, h₀.get? b = some o → (hideAll s.heap (X.map (·.1))).get? b = some o := fun b o e => hideAll_get _ (F.keep b o e) (fun hm => by
    obtain ⟨p, hp, q⟩ := List.mem_map.mp hm
    rw [← q, (N p (hs p hp)).2.2] at e; cases e)
  refine wpAny_call (dedupU_ok (mg := mg) (mb := mb) (h₀ := hideAll s.heap (X.map (·.1))) (X := X) ⟨KX.keeps kk, TT.keeps kk⟩ (fun b o e => of_hideAll _ e) (fun p hp => ⟨(N p (hs p hp)).1, hideAll_none _ (List.mem_map_of_mem hp)⟩) ha hd hok hsz (hh.ok rfl) hroom hu fun s' D us c' hk hD hD0 hda hul => ?_)
  obtain ⟨h', tk, rfl, F', N'⟩ := Keeps.use hk F N
  have hne : ∀ p ∈ news, p.1 ≠ D := fun p hp q => hD0 p.2 (q ▸ (N p hp).1)
  refine h D us c' h' tk F' (fun p hp => ?_) hne hda (Nat.le_trans hul hsz)
  rcases List.mem_cons.mp hp with rfl | hp
  · refine ⟨hD, fun q => ?_, ?_⟩
    · obtain ⟨oL, _, _, hL, _⟩ := F.ns
      exact hD0 oL (by rw [show D = L from q]; exact hL)
    · cases e : h₀.get? D with
      | none => rfl
      | some o => exact absurd (F.keep _ _ e) (hD0 o)
  · exact N' p hp
theorem lineK1_1 : True := by
  (k_with "call ref" => (k_here; (with_reducible show wpAny _ _ (call (Value.ref 59) _) _ _ _); k_dflt ((refine' dedupU_K ?zqF ?zqKX ?zqTT ?zqN ?zqs ?zqa ?zqd ?zqo ?zqz ?zqh ?zqr ?zqu ?_; (case zqF => k_asm); (case zqKX => k_asm); (case zqTT => k_asm); (case zqN => k_asm); (case zqa => assumption); (case zqd => with_reducible assumption); (case zqs => first | exact fun p hp => hp | exact fun p hp => .tail _ hp | exact fun p hp => .tail _ (.tail _ hp) | exact fun p hp => .tail _ (.tail _ (.tail _ hp))); (case zqo => with_reducible assumption); (case zqz => with_reducible assumption); (case zqh => first | exact .inl rfl | exact .inl (by assumption) | assumption); (case zqr => k_room); (case zqu => k_units)); intro _ _ _ _ _ _ _ _ _ _)))
  trivial
theorem lineK1_2 : True := by
  (k_with "call type:list" => (k_here; (with_reducible show wpAny _ _ (call (Value.type _) [Value.ref _]) _ _ _); k_dflt ((refine' list_copyK ?zqk1 ?zqk2 ?zqk3 ?_ ?zqz; (case zqk1 => k_asm); (case zqk2 => k_asm); (case zqk3 => is_list); (case zqz => (rw [sizeLine_eq]; simp only [List.size_toArray]; omega)); k_whole)); intro _ _ _ _ _ zl1; (try k_lt zl1)))
  trivial
theorem funFrames_sub {base h g : Heap} : ∀ {l : List Env}, (∀ a ∈ frs l, ∀ o, h.get? a = some o → g.get? a = some o) → h.FunFrames base l → g.FunFrames base l
  | [], _, _ => trivial
  | env :: rest, hs, ⟨hk, ⟨L, o, hf, hn, ho, hd⟩, hr⟩ => ⟨hk, ⟨L, o, hf, hn, hs L (mem_frs (.head _) hf) o ho, hd⟩, funFrames_sub (fun a ha => by
      obtain ⟨x, hx, hxf⟩ := List.mem_filterMap.mp ha
      exact hs a (mem_frs (.tail _ hx) hxf)) hr⟩
open Classical in
noncomputable def hitAt (cur : List Dat) (d : Dat) (j : Nat) : Bool := decide (∃ h : j < cur.length, cur[j] = d)
open Classical in
theorem hitAt_iff {cur : List Dat} {d : Dat} {j : Nat} : hitAt cur d j = true ↔ ∃ h : j < cur.length, cur[j] = d := by unfold hitAt; exact decide_eq_true_iff
theorem erase_K {s : Shared} {h₀ : Heap} {L D I : Addr} {o : Obj} {m : Str → Option Value} {Y : List (Addr × Obj)} {us : List Value} {c j : Nat}
    (F : Fr h₀ L s.heap m) (N : News h₀ L s.heap ((I, o) :: (D, listOf us.toArray c) :: Y)) (hp : I ≠ D) (hX : ∀ p ∈ Y, p.1 ≠ D) (hj : j < us.length) :
    ∃ c', Fr h₀ L (s.heap.update D (Obj.mapSeq fun xs => xs.eraseIdxIfInBounds j)) m ∧ News h₀ L (s.heap.update D (Obj.mapSeq fun xs => xs.eraseIdxIfInBounds j)) ((I, o) :: (D, listOf (us.eraseIdx j).toArray c') :: Y) := by
  have hD := N (D, listOf us.toArray c) (.tail _ (.head _))
  have oth : ∀ b q, b ≠ D → s.heap.get? b = some q → (s.heap.update D (Obj.mapSeq fun xs => xs.eraseIdxIfInBounds j)).get? b = some q := fun b q hb e => (Heap.get?_update_other _ _ (Ne.symm hb)).trans e
  obtain ⟨c', hc'⟩ : ∃ c', Obj.mapSeq (fun xs => xs.eraseIdxIfInBounds j) (listOf us.toArray c) = listOf (us.eraseIdx j).toArray c' := ⟨_, by
    rw [show (us.eraseIdx j).toArray = us.toArray.eraseIdxIfInBounds j by apply Array.toList_inj.mp; simp [Array.toList_eraseIdxIfInBounds]]; rfl⟩
  refine ⟨c', fr_but F oth hD.2.1 hD.2.2, fun p hp' => ?_⟩
  rcases List.mem_cons.mp hp' with rfl | hp'
  · exact ⟨oth _ _ hp (N _ (.head _)).1, (N _ (.head _)).2⟩
  · rcases List.mem_cons.mp hp' with rfl | hp'
    · exact ⟨(Heap.get?_update_self _ hD.1 rfl).trans (by rw [hc']), hD.2⟩
    · exact news_but (X := Y) (fun p hp => N p (.tail _ (.tail _ hp))) oth hX p hp'
open Classical in
noncomputable def cmpD (ds es : List Dat) : Bool := decide ((∀ d ∈ ds, d ∈ es) ∧ ∀ d ∈ es, d ∈ ds)
open Classical in
theorem cmpD_iff {ds es : List Dat} : cmpD ds es = true ↔ (∀ d ∈ ds, d ∈ es) ∧ ∀ d ∈ es, d ∈ ds := by unfold cmpD; exact decide_eq_true_iff
set_option maxHeartbeats 4000000 in
theorem compare_ok {w : World} {A : Around} {s : Shared} {mg mb : Str → Option Value} {R : Result → Shared → Prop} {h₀ : Heap} {outer : List Env} {X : List (Addr × Obj)} {a b : Addr} {vs ws : List Value} {c c2 : Nat} {ds es : List Dat}
    (G₀ : Gd w mg mb h₀) (k₀ : ∀ b o, h₀.get? b = some o → s.heap.get? b = some o) (hX : ∀ p ∈ X, s.heap.get? p.1 = some p.2 ∧ h₀.get? p.1 = none)
    (hfr : A.frames = some outer) (hff : s.heap.FunFrames h₀ outer) (hfn : ∀ a ∈ frs outer, a ∉ X.map (·.1))
    (ha : (a, listOf vs.toArray c) ∈ X) (hd : DatAll X vs ds) (hok : ∀ d ∈ ds, kqdOk 8 d = true) (hsz : vs.length ≤ 1000) (hb : (b, listOf ws.toArray c2) ∈ X) (he : DatAll X ws es) (hok2 : ∀ d ∈ es, kqdOk 8 d = true) (hsz2 : ws.length ≤ 1000)
    (hh : A.handled = none) (hroom : A.depth < 860) (hu : A.units + 200 < cLine)
    (h : ∀ s', KeepsX (frs outer) [] s s' → R (.ok (.ret (.bool (cmpD ds es)))) s') :
    codeAny (model prog w) A (.call (.ref 66) ⟨[.ref a, .ref b], []⟩) R s := by
  refine' call_ledL G₀ k₀ (news := X) hX ?ho ?hcd ?hr ?hb ?hl ?_ ?c1 ?c2 ?c3 ?c4
  case ho => k_dflt k_is
  case hcd => k_dflt k_is
  case hr => k_room
  case hb => exact BindsTo.of_eq rfl
  case hl => exact locs rfl
  case c1 => rfl
  case c2 => rfl
  case c3 => rfl
  case c4 => decide
  intro g L h₁ kg hszL F N KX TT
  k_steps
  rename_i D1 u1 ca hA tkA hne1 hd1 hul1 hB tkB D2 u2 cb hC tkC hne2 hd2 hul2 hD tkD D3 c3 hE hF F' N'
  have l1 := zl1
  have hneX : ∀ p ∈ X, p.1 ≠ D3 := fun p hp => Nat.ne_of_lt (ktn_ltOf l1.2.2 p hp)
  have hne3 : ∀ p ∈ (D2, listOf u2.toArray cb) :: (D1, listOf u1.toArray ca) :: X, p.1 ≠ D3 := fun p hp => by
    rcases List.mem_cons.mp hp with rfl | hp
    · exact Nat.ne_of_lt l1.1
    · rcases List.mem_cons.mp hp with rfl | hp
      · exact Nat.ne_of_lt l1.2.1
      · exact hneX p hp
  refine hold_out (for_list (h₀ := g) (l := D1) (items := u1.toArray) (J := fun i m Y gs dr os => ∃ us c, m "t" = some (.ref D3) ∧ m "first_unhashable" = some (.ref D1) ∧ Y = (D3, listOf us.toArray c) :: (D2, listOf u2.toArray cb) :: (D1, listOf u1.toArray ca) :: X ∧ DatAll X us (remAll ((dd [] ds).take i) (dd [] es)) ∧ us.length ≤ 1000 ∧ (∀ d ∈ (dd [] ds).take i, d ∈ es) ∧ gs = s.gens ∧ dr = s.drawn ∧ os = s.os) (.inl hh) ?_ ?_ ?_ ?_)
  · rintro i m Y gs dr os hp _ N ⟨us, c2, _, _, rfl, _⟩
    exact ⟨_, (N _ (.tail _ (.tail _ (.head _)))).1, rfl, _, rfl⟩
  · refine ld F' rfl ⟨_, _, rfl, F', N', u2, _, rfl, rfl, rfl, hd2, hul2, (fun d hd => nomatch hd), rfl, rfl, rfl⟩
  · rintro i x m Y s' I o hx ⟨us, c2, hm1, hm2, rfl, hda, hul, hin, hg, hdr, ho⟩ F2 N2 hI
    have hi : i < (dd [] ds).length := by
      have := (Array.getElem?_eq_some_iff.mp hx).1
      rw [← hd1.length]; simpa using this
    obtain ⟨x', hx', hdx⟩ := hd1.get hi
    have hxx : x = x' := by
      have h1 : u1[i]? = some x := by simpa using hx
      rw [h1] at hx'; exact Option.some.inj hx'
    subst hxx
    have hkd : kqdOk 8 (dd [] ds)[i] = true := hok _ ((dd_iff _).mp (List.getElem_mem hi) |>.elim (fun h => nomatch h) id)
    have hpI : I ≠ D3 := Ne.symm (hI (D3, _) (.head _))
    have htk := take_snoc hi
    have hnd := nodup_remAll ((dd [] ds).take i) (dd_nodup (acc := []) (l := es) List.nodup_nil)
    have hmr := fun x => mem_remAll x ((dd [] ds).take i) (dd_nodup (acc := []) (l := es) List.nodup_nil)
    have hkr : ∀ d ∈ remAll ((dd [] ds).take i) (dd [] es), kqdOk 8 d = true := fun d hm => hok2 d ((dd_iff _).mp ((hmr d).mp hm).1 |>.elim (fun h => nomatch h) id)
    have hnt : (dd [] ds)[i] ∉ (dd [] ds).take i := nodup_take_not (dd_nodup List.nodup_nil) hi
    k_steps
    have hD3 := N2 (D3, listOf us.toArray c2) (.tail _ (.head _))
    generalize hcur : remAll ((dd [] ds).take i) (dd [] es) = cur at *
    have hlen := hda.length
    rename Fr g L s'.heap _ => F3
    refine rem_call (e := hitAt cur (dd [] ds)[i]) hD3.1 (fun j hj A' E' Q' hA hq => ?_) hh (by simp; omega) (fun j hj hej hlt => ?_) (fun hno h' tk ev hx' => ?_)
    · have hj' : j < cur.length := by rw [← hlen]; simpa using hj
      obtain ⟨y, hy, hdy⟩ := hda.get hj'
      have hyy : us.toArray[j] = y := by
        have : us[j]? = some us.toArray[j] := by simp at hj; simp [hj]
        rw [this] at hy; exact Option.some.inj hy
      rw [hyy]
      refine dat_eqBool (hitAt cur (dd [] ds)[i] j) ?_ N2 (X := X) (fun p hp => .tail _ (.tail _ (.tail _ (.tail _ hp)))) hdy hdx (hkr _ (List.getElem_mem hj')) hkd ?_ hq
      · rw [hitAt_iff]; exact ⟨fun ⟨_, q⟩ => q, fun q => ⟨hj', q⟩⟩
      · have : A'.units ≤ A.units + 13 := hA
        omega
    · have hj' : j < us.length := by simpa using hj
      obtain ⟨hjc, hjd⟩ := hitAt_iff.mp hej
      have hmem : (dd [] ds)[i] ∈ cur := hjd ▸ List.getElem_mem hjc
      obtain ⟨j0, hj0, a0, b0, e0⟩ := rmv_idx _ hmem
      have hjj : j = j0 := by
        rcases Nat.lt_trichotomy j j0 with q | q | q
        · exact absurd hjd (b0 j hjc q)
        · exact q
        · have := hlt j0 q
          rw [Bool.eq_false_iff] at this
          exact absurd (hitAt_iff.mpr ⟨hj0, a0⟩) this
      subst hjj
      obtain ⟨c9, F5, N5⟩ := erase_K F3 N2 hpI hne3 hj'
      k_steps
      refine ⟨_, _, F5, N5, fun p hp => ?_, us.eraseIdx j, c9, hm1, hm2, rfl, ?_, ?_, ?_, hg, hdr, ho⟩
      · rcases List.mem_cons.mp hp with rfl | hp
        · exact Ne.symm hpI
        · exact hI p (.tail _ hp)
      · rw [htk, remAll_snoc, hcur, ← e0]
        exact datAll_erase j hda
      · have := List.length_eraseIdx_le us j
        omega
      · intro d hd9
        rw [htk] at hd9
        rcases List.mem_append.mp hd9 with q | q
        · exact hin d q
        · rw [List.mem_singleton.mp q]
          exact (dd_iff _).mp ((hmr _).mp hmem).1 |>.elim (fun h => nomatch h) id
    · have F7 : Fr s.heap L s'.heap _ := ⟨F3.ns, fun b o e => by
        by_cases hb9 : b ∈ X.map (·.1)
        · obtain ⟨p, hp, rfl⟩ := List.mem_map.mp hb9
          rw [(hX p hp).1] at e; cases e
          exact (N2 p (.tail _ (.tail _ (.tail _ (.tail _ hp))))).1
        · exact F3.keep b o (kg b o hb9 e), hszL⟩
      refine caught_new (mg := mg) (mb := mb) (h₀ := h₀) (g := s.heap) (T' := "ValueError") hfr G₀ k₀ hff F7 hx' PyProof.Rows.Boot.«ValueError» PySem.F.isExc_ValueError PySem.F.notTuple_ValueError (by rw [isSubtype_type]; kernel_rfl) (fun h9 kk9 sm9 F9 => ?_)
      have N9 : News (hideAll s.heap (frs outer)) L h9 [] := News.nil
      k_steps
      have hcmp : cmpD ds es = false := by
        refine Bool.eq_false_iff.mpr fun z0 => ?_
        have z := cmpD_iff.mp z0
        have h1 : (dd [] ds)[i] ∈ ds := (dd_iff _).mp (List.getElem_mem hi) |>.elim (fun h => nomatch h) id
        have h2 : (dd [] ds)[i] ∈ cur := (hmr _).mpr ⟨(dd_iff _).mpr (.inr (z.1 _ h1)), hnt⟩
        obtain ⟨j, hj, e⟩ := List.mem_iff_getElem.mp h2
        have h3 := hno j (by simp; omega)
        rw [Bool.eq_false_iff] at h3
        exact h3 (hitAt_iff.mpr ⟨hj, e⟩)
      have h' := h { s with heap := h9, toks := tk } ⟨h9, tk, rfl, fun b o n1 _ e => kk9 b o n1 e, fun b o n1 _ e hd => sm9 b o (hx'.keeps _ _ (F7.keep b o e)) hd⟩
      rw [hcmp] at h'
      rw [show ({ heap := h9, gens := s'.gens, drawn := s'.drawn, toks := tk, os := s'.os } : Shared) = { s with heap := h9, toks := tk } by rw [hg, hdr, ho]]
      exact h'
  · rintro m Y s' ⟨us, c2, hm1, hm2, rfl, hda, hul, hin, hg, hdr, ho⟩ F2 N2
    k_steps
    have hlen : (dd [] ds).take u1.toArray.size = dd [] ds := by rw [List.take_of_length_le]; rw [← hd1.length]; simp
    rw [hlen] at hda hin
    have hmr := fun x => mem_remAll x (dd [] ds) (dd_nodup (acc := []) (l := es) List.nodup_nil)
    have hcmp : cmpD ds es = !!us.isEmpty := by
      rw [Bool.not_not]
      by_cases hq : us = []
      · have h0 : remAll (dd [] ds) (dd [] es) = [] := by
          have := hda.length
          rw [hq] at this
          exact List.eq_nil_of_length_eq_zero this.symm
        rw [hq]
        refine cmpD_iff.mpr ⟨fun d hd9 => hin d ((dd_iff _).mpr (.inr hd9)), fun d hd9 => ?_⟩
        by_cases hm : d ∈ dd [] ds
        · exact (dd_iff _).mp hm |>.elim (fun h => nomatch h) id
        · have := (hmr d).mpr ⟨(dd_iff _).mpr (.inr hd9), hm⟩
          rw [h0] at this; cases this
      · have : us.isEmpty = false := by cases us <;> simp_all
        rw [this]
        refine Bool.eq_false_iff.mpr fun z0 => hq ?_
        have z := cmpD_iff.mp z0
        have h0 : remAll (dd [] ds) (dd [] es) = [] := by
          refine List.eq_nil_iff_forall_not_mem.mpr fun d hm => ?_
          have h1 := (hmr d).mp hm
          exact h1.2 ((dd_iff _).mpr (.inr (z.2 d ((dd_iff _).mp h1.1 |>.elim (fun h => nomatch h) id))))
        rw [h0] at hda
        exact List.eq_nil_of_length_eq_zero (by have := hda.length; simpa using this)
    rw [← hcmp]
    have hs := shared_eq hg hdr ho
    have key := h { s with heap := s'.heap, toks := s'.toks + 1 + 1 } (Keeps.x (keeps_ledX (X := X) kg F2 N2 (fun p hp => (hX p hp).1) fun p hp => .tail _ (.tail _ (.tail _ hp))))
    rw [show ({ heap := s'.heap, gens := s'.gens, drawn := s'.drawn, toks := s'.toks + 1 + 1, os := s'.os } : Shared) = { s with heap := s'.heap, toks := s'.toks + 1 + 1 } by rw [hg, hdr, ho]]
    exact key
theorem call_ledC {w : World} {A : Around} {s : Shared} {mg mb : Str → Option Value} {h₀ : Heap} {news : List (Addr × Obj)} {R : Result → Shared → Prop} {name qual : Str} {params : Arguments} {body : List Stmt} {scope : Scope} {dV kV doc pm cdv ct oc : Value} {an od : Option Addr} {osl : Array (Option Value)} {f : Addr} {args : Args} {binds : List (Str × Value)}
    (G₀ : Gd w mg mb h₀) (k₀ : ∀ b o, h₀.get? b = some o → s.heap.get? b = some o) (hn : ∀ p ∈ news, s.heap.get? p.1 = some p.2 ∧ h₀.get? p.1 = none)
    (ho : (Mine.hd.heap_39 w.params).lookup f = some ⟨oc, od, .func (fnOf name qual params body scope dV kV doc pm an cdv ct), osl⟩) (hcd : codeIn (Mine.hd.heap_39 w.params) cdv qual = true) (hroom : A.depth < recursionLimit)
    (hbind : BindsTo s (fnOf name qual params body scope dV kV doc pm an cdv ct) args binds) (hkind : (binds.all fun y => scope.names.lookup y.1 == some .local || scope.names.lookup y.1 == some .cell) = true)
    (hnd : ((cellsFrom 0 scope.names []).map (·.1)).Nodup)
    (h : ∀ g L h₁ tk cells, (∀ b o, b ∉ news.map (·.1) → s.heap.get? b = some o → g.get? b = some o) → s.heap.objs.size ≤ L → Fr g L h₁ (bindL (envOfC qual scope L f cdv).kindOf binds fun _ => none) → News g L h₁ (cells ++ news) →
      CellsAre (bindC (envOfC qual scope L f cdv).kindOf binds fun _ => none) (cellsFrom (L + 1) scope.names []) cells → (∀ p ∈ news, p.1 < L) → (Mine.hd.heap_39 w.params).In g → TopRead Mine.hd.view_39 LO mg mb g →
      wpAny (model prog w) (A.deeper (envOfC qual scope L f cdv)) (execs body (envOfC qual scope L f cdv))
        (fun fl s' => R (.ok (.ret (match fl with | .ret v => v | _ => .none))) s') FalseE { s with heap := h₁, toks := tk })
    (hco : scope.isCoroutine = false := by rfl) (hgen : scope.isGenerator = false := by rfl) (hk : scope.kind = .function := by rfl) : codeAny (model prog w) A (.call (.ref f) args) R s := by
  have G := G₀.keeps k₀
  have nm : ∀ b o, h₀.get? b = some o → b ∉ news.map (·.1) := fun b o e q => by
    obtain ⟨p, hp, rfl⟩ := List.mem_map.mp q
    rw [(hn p hp).2] at e; cases e
  have st : h₀.StaysIn (hideAll s.heap (news.map (·.1))) := fun b o e => hideAll_get _ (k₀ b o e) (nm b o e)
  refine codeAny_call_function (fd := fnOf name qual params body scope dV kV doc pm an cdv ct) (body := body) hroom (G.K _ _ ho) rfl hco hgen rfl (codeRec_of G.K hcd) (hbind _ _ _ _ ?_)
  refine wpAny_newFunctionEnv_cells hk (kindsX hkind _) fun env' he s' x => ?_
  subst he
  refine ⟨G.T.nolimit.keeps x.toInCall.keep, codeAny_func ?_⟩
  obtain ⟨h₁, tk, rfl, _⟩ := x.done
  have hk₁ := x.toInCall.keep
  obtain ⟨cells, NC, Y⟩ := Cl.news (h₀ := s.heap) (Nat.le_refl _) fun n c hm => ⟨x.cell n c (lookup_of_mem_nodup (cellsFrom_names scope.names 0 (s.heap.objs.size + 1) [] [] rfl ▸ hnd) hm), x.above n c hm⟩
  refine wpAny_mono (h (hideAll s.heap (news.map (·.1))) s.heap.objs.size h₁ tk cells (fun b o nb e => hideAll_get _ e nb) (Nat.le_refl _) ⟨x.toInCall.ns, fun b o e => hk₁ b o (of_hideAll _ e), Nat.le_of_eq (hideAll_size _ _)⟩ (fun p hp => ?_) Y (fun p hp => Heap.lt_size (hn p hp).1) (Frag.In.keeps G₀.K fun b o e => st b o e) (G₀.T.keeps fun b o e => st b o e)) (fun _ _ x => x) fun _ _ x => x.elim
  rcases List.mem_append.mp hp with hp | hp
  · refine ⟨(NC p hp).1, (NC p hp).2.1, ?_⟩
    cases q : (hideAll s.heap (news.map (·.1))).get? p.1 with
    | none => rfl
    | some o => have := of_hideAll _ q; rw [(NC p hp).2.2] at this; cases this
  · exact ⟨hk₁ _ _ (hn p hp).1, Nat.ne_of_lt (Heap.lt_size (hn p hp).1), hideAll_none _ (List.mem_map_of_mem hp)⟩
theorem lineX1_1 : True := by
  (k_with "eval ListComp" => (k_here; refine hold ?_))
  trivial
theorem len_led {w : World} {A : Around} {E : Value → Shared → Prop} {s : Shared} {h₀ : Heap} {L a : Addr} {news : List (Addr × Obj)} {vs : List Value} {c : Nat} {Q : Value → Shared → Prop} (N : News h₀ L s.heap news) (hm : (a, listOf vs.toArray c) ∈ news) (hz : vs.length ≤ 1000)
    (h : Q (.int vs.length (s.toks + 1)) { s with toks := s.toks + 1 + 1 }) : wpAny (model prog w) A (call (.builtin "len") [.ref a]) Q E s :=
  len_list (items := vs.toArray) ⟨_, (N _ hm).1, rfl, _, rfl⟩ (by simp; omega) (by simpa using h)
theorem lineX1_2 : True := by
  (k_with "call builtin:len" => (k_here; (with_reducible show wpAny _ _ (call (Value.builtin "len") [Value.ref _]) _ _ _); k_dflt (refine' len_led ?zqN ?zqm ?zqz ?_; (case zqN => k_asm); (case zqm => first | exact .head _ | exact .tail _ (.head _) | exact .tail _ (.tail _ (.head _)) | exact .tail _ (.tail _ (.tail _ (.head _)))); (case zqz => assumption))))
  trivial
theorem lineX1_3 : True := by
  (k_with "CompSrcT" => (refine hold ?_))
  trivial
theorem item_led {w : World} {A : Around} {E : Value → Shared → Prop} {s : Shared} {h₀ : Heap} {L a : Addr} {news : List (Addr × Obj)} {vs : List Value} {c i : Nat} {t : Tok} {x : Value} {value slice : Expr} {Q : Value → Shared → Prop} (N : News h₀ L s.heap news) (hm : (a, listOf vs.toArray c) ∈ news) (hz : vs.length ≤ 1000)
    (hx : vs[i]? = some x) (h : Q x s) (hs : subscripted slice false (.ref a) (.int (0 + (i : Int)) t) = operate [.ref a, .int (0 + (i : Int)) t] (getItem (.ref a) (.int (0 + (i : Int)) t)) := by with_unfolding_all rfl)
    (hg : ∀ r, letTemporaryGo value (.ref a) r = pure () := by intro _; with_unfolding_all rfl) : wpAny (model prog w) A (subscriptTail value slice (.ref a) (.int (0 + (i : Int)) t)) Q E s := by
  have hl : s.heap.IsList a vs.toArray := ⟨_, (N _ hm).1, rfl, _, rfl⟩
  have hi := (List.getElem?_eq_some_iff.mp hx).1
  exact subscriptTail_builtin hl.typeIs slot_list_getitem.lookup (getItem_listL hl (x := x) (by omega) (by omega) (by simpa using hx) h) hs hg
theorem lineX1_4 : True := by
  (k_with "subscriptTail" => (k_here; (with_reducible show wpAny _ _ (subscriptTail _ _ (Value.ref _) (Value.int (0 + _) _)) _ _ _); k_dflt (refine' item_led ?zqN ?zqm ?zqz ?zqx ?_; (case zqN => k_asm); (case zqm => first | exact .head _ | exact .tail _ (.head _) | exact .tail _ (.tail _ (.head _)) | exact .tail _ (.tail _ (.tail _ (.head _))) | exact .tail _ (.tail _ (.tail _ (.tail _ (.head _)))) | exact .tail _ (.tail _ (.tail _ (.tail _ (.tail _ (.head _)))))); (case zqz => assumption); (case zqx => assumption))))
  trivial
theorem slice_led {w : World} {A : Around} {E : Value → Shared → Prop} {h : Heap} {gs : Array GenState} {dr : Drawn} {tk : Nat} {os : OsState} {h₀ : Heap} {L a : Addr} {m : Str → Option Value} {news : List (Addr × Obj)} {vs : List Value} {c i : Nat} {t : Tok} {value slice : Expr} {Q : Value → Shared → Prop}
    (F : Fr h₀ L h m) (N : News h₀ L h news) (hm : (a, listOf vs.toArray c) ∈ news) (hz : vs.length ≤ 1000)
    (k : ∀ h' D, Fr h₀ L h' m → News h₀ L h' ((D, listOf (vs.take i).toArray 0) :: news) → (∀ p ∈ news, p.1 ≠ D) → Q (.ref D) ⟨h', gs, dr, tk, os⟩)
    (hs : subscripted slice false (.ref a) (.ref h.objs.size) = operate [.ref h.objs.size, .ref a] (getItem (.ref a) (.ref h.objs.size)) := by with_unfolding_all rfl)
    (ht : ∀ r, letTemporaryGo value (.ref a) r = pure () := by intro _; with_unfolding_all rfl) :
    wpAny (model prog w) A (subscriptTail value slice (.ref a) (.ref h.objs.size)) Q E ⟨h.push { cls := .type "slice", data := .fields #[.none, .int (0 + (i : Int)) t, .none] }, gs, dr, tk, os⟩ := by
  refine slice_list (s := ⟨h, gs, dr, tk, os⟩) (items := vs.toArray) (vl := .none) (vu := .int (0 + (i : Int)) t) F N ⟨_, (N _ hm).1, rfl, _, rfl⟩ .none (.int _ _) (fun h' F' N' => ?_) hs ht (by rw [sizeLine_eq]; simp; omega)
  rw [show slicePick vs.toArray none (some (0 + (i : Int))) none = (vs.take i).toArray by rw [Int.zero_add, slicePick_upto']] at N'
  exact k h' _ F' N' fun p hp => Nat.ne_of_lt (Nat.lt_succ_of_lt (Heap.lt_size (N p hp).1))
theorem lineX1_5 : True := by
  (k_with "subscriptTail" => (k_here; (with_reducible show wpAny _ _ (subscriptTail _ (Expr.Slice _ _ _ _) (Value.ref _) (Value.ref _)) _ _ _); k_dflt ((refine' slice_led ?zqF ?zqN ?zqm ?zqz ?_; (case zqF => k_asm); (case zqN => k_asm); (case zqm => first | exact .head _ | exact .tail _ (.head _) | exact .tail _ (.tail _ (.head _)) | exact .tail _ (.tail _ (.tail _ (.head _))) | exact .tail _ (.tail _ (.tail _ (.tail _ (.head _)))) | exact .tail _ (.tail _ (.tail _ (.tail _ (.tail _ (.head _)))))); (case zqz => assumption)); intro _ _ _ _ _)))
  trivial
theorem lineX1_6 : True := by
  (k_with "compareOp NotIn" => (k_here; (with_reducible show wpAny _ _ (compareOp CmpOp.NotIn _ (Value.ref _)) _ _ _); k_dflt (refine' kqd_notIn ?zqN ?zqma ?zqca ?zqda ?zqDa ?zqsa ?zqDx ?zqsx ?zqha ?zqhd ?zqhu ?_; (case zqN => k_asm); (case zqma => (repeat (first | exact List.mem_cons_self | refine List.mem_cons_of_mem _ ?_))); (case zqca => exact rfl); (case zqda => exact rfl); (case zqDa => with_reducible assumption); (case zqDx => with_reducible assumption); (case zqsa => (intro p hp; repeat (first | exact hp | refine List.mem_cons_of_mem _ ?_))); (case zqsx => (intro p hp; repeat (first | exact hp | refine List.mem_cons_of_mem _ ?_))); (case zqha => with_reducible assumption); (case zqhd => with_reducible assumption); (case zqhu => k_units))))
  trivial
theorem off1_mem {D : Addr} : ∀ {l : List (Addr × Obj)}, LCg.Off1 D l → ∀ p ∈ l, p.1 ≠ D
  | [], _, _, h => nomatch h
  | _ :: _, x, p, h => by
    rcases List.mem_cons.mp h with rfl | h
    · exact x.1
    · exact off1_mem x.2 p h
theorem datAll_take {X : List (Addr × Obj)} : ∀ {us : List Value} {es : List Dat} (j : Nat), DatAll X us es → DatAll X (us.take j) (es.take j)
  | _, _, _, .nil => by simpa using DatAll.nil
  | _, _, 0, .cons h r => by simpa using DatAll.nil
  | _, _, j + 1, .cons h r => by simpa using DatAll.cons h (datAll_take j r)
set_option maxHeartbeats 4000000 in
theorem firsts_ok {w : World} {A : Around} {s : Shared} {mg mb : Str → Option Value} {R : Result → Shared → Prop} {h₀ : Heap} {X : List (Addr × Obj)} {a : Addr} {vs : List Value} {c : Nat} {ds : List Dat}
    (G₀ : Gd w mg mb h₀) (k₀ : ∀ b o, h₀.get? b = some o → s.heap.get? b = some o) (hX : ∀ p ∈ X, s.heap.get? p.1 = some p.2 ∧ h₀.get? p.1 = none)
    (ha : (a, listOf vs.toArray c) ∈ X) (hd : DatAll X vs ds) (hok : ∀ d ∈ ds, kqdOk 8 d = true) (hsz : vs.length ≤ 1000) (hh : A.handled = none) (hroom : A.depth < 870) (hu : A.units + 100 < cLine)
    (h : ∀ s' D us c', Keeps s s' → s'.heap.get? D = some (listOf us.toArray c') → (∀ o, s.heap.get? D ≠ some o) → DatAll X us (dd [] ds) → us.length ≤ vs.length → R (.ok (.ret (.ref D))) s') :
    codeAny (model prog w) A (.call (.ref 798) ⟨[.ref a], []⟩) R s := by
  have hX2 : ∀ p ∈ (a, listOf vs.toArray c) :: X, s.heap.get? p.1 = some p.2 ∧ h₀.get? p.1 = none := fun p hp => by
    rcases List.mem_cons.mp hp with rfl | hp
    · exact hX _ ha
    · exact hX p hp
  refine' call_ledC G₀ k₀ (news := (a, listOf vs.toArray c) :: X) hX2 ?ho ?hcd ?hr ?hb ?hl ?hnd ?_ ?c1 ?c2 ?c3
  case ho => k_dflt k_is
  case hcd => k_dflt k_is
  case hr => k_room
  case hb => exact BindsTo.of_eq rfl
  case hl => exact rfl
  case hnd => decide +kernel
  case c1 => rfl
  case c2 => rfl
  case c3 => rfl
  intro g L h₁ tk cells kg hszL F N Y hlt KX TT
  k_cells Y
  simp only [List.cons_append, List.nil_append] at N
  (try dsimp only at *)
  k_steps
  refine hold_out (LCt.ListComp_T (cl := [("row", L + 1)]) F (by with_unfolding_all rfl) (by decide) (by rfl) (by decide) (by rfl) ?_)
  k_steps
  rename IsRange _ _ _ _ _ _ _ _ => hr
  rename Fr g L _ _ => F2
  rename News g L _ _ => N2
  refine hold_out (LCt.CompSrcT.range (n := vs.length) hh F2 N2 hr ?_ ?_ ?_ fun gg => ?_)
  · exact small_one (by omega) (by omega) (by omega) (by omega)
  · rw [rangeSize_nat]; simp
  · rw [sizeLine_eq]; omega
  refine (?_ : ∀ k i ys, k + i = vs.length → DatAll X ys (dd [] (ds.take i)) → ys.length ≤ i → LCt.CompRestT prog w _ g L _ _ _ _ _ _ _ _ _ _ _ k i ys _) vs.length 0 [] (by omega) (by simpa [dd] using DatAll.nil) (Nat.zero_le _)
  intro k
  induction k with
  | zero =>
    intro i ys hki hda hyl
    refine LCt.CompRestT.zero ?_
    k_steps
    have hiv : ds.take i = ds := by rw [List.take_of_length_le]; rw [← hd.length]; omega
    rw [hiv] at hda
    rename Fr g L _ _ => F5
    rename News g L _ _ => N5
    refine h { s with heap := _, toks := _ } _ ys _ ?_ (N5 _ (.head _)).1 ?_ hda (by omega)
    · exact keeps_ledX (X := (a, listOf vs.toArray c) :: X) kg F5 N5 (fun p hp => (hX2 p hp).1) fun p hp => .tail _ (.tail _ hp)
    · intro o ho'
      rename _ ∧ _ ∧ LCg.Off1 _ X => o1
      have hg9 := (N5 _ (.head _)).2.2
      dsimp only at hg9
      rw [kg _ o (fun hm => ?_) ho'] at hg9
      · cases hg9
      · obtain ⟨p, hp, e⟩ := List.mem_map.mp hm
        rcases List.mem_cons.mp hp with rfl | hp
        · exact o1.2.1 e
        · exact off1_mem o1.2.2 p hp e
  | succ k ih =>
    intro i ys hki hda hyl
    refine LCt.CompRestT.succ ?_
    intro v I oI C oC D m₂ h2 tk2 E' hv hC hx F3 N3 off ne
    obtain ⟨t9, rfl⟩ := hv
    have hi : i < ds.length := by rw [← hd.length]; omega
    obtain ⟨x, hx9, hdx⟩ := hd.get hi
    have hkd : kqdOk 8 ds[i] = true := hok _ (List.getElem_mem hi)
    have hdt : DatAll X (vs.take i) (ds.take i) := datAll_take i hd
    have hkt : ∀ d ∈ ds.take i, kqdOk 8 d = true := fun d hm => hok d (List.mem_of_mem_take hm)
    k_steps
    · rename (decide _ = true) => hq
      have hq : ds[i] ∈ ds.take i := by simpa only [decide_eq_true_eq] using hq
      rename Fr g L _ _ => F5
      rename News g L _ _ => N5
      exact LCg.CompEnd.intro F5 N5 _ (fun p hp => List.mem_cons_of_mem _ hp) off trivial (ih (i + 1) ys (by omega) (by rw [take_snoc hi, dd_snoc, if_pos ((dd_iff _).mpr (.inr hq))]; exact hda) (by omega))
    · rename (decide _ = false) => hq
      have hq : ¬ ds[i] ∈ ds.take i := by simpa only [decide_eq_false_iff_not] using hq
      rename Fr g L _ _ => F5
      rename News g L _ _ => N5
      exact LCg.CompEnd.intro F5 N5 _ (fun p hp => List.mem_cons_of_mem _ hp) off trivial (ih (i + 1) (ys ++ [x]) (by omega) (by rw [take_snoc hi, dd_snoc, if_neg (fun z => hq (((dd_iff (acc := []) _).mp z).resolve_left (by simp)))]; exact hda.append (DatAll.one hdx)) (by simp; omega))
theorem StrAre.strs : ∀ {vs : List Value} {ts : List Str}, StrAre vs ts → StrsAre vs ts
  | [], [], _ => .nil
  | _ :: _, _ :: _, h => by obtain ⟨⟨k, rfl⟩, r⟩ := h; exact .cons _ _ (StrAre.strs r)
  | [], _ :: _, h => h.elim
  | _ :: _, [], h => h.elim
theorem StrAre.snoc {t : Str} {k : Tok} : ∀ {vs : List Value} {ts : List Str}, StrAre vs ts → StrAre (vs ++ [.str t k]) (ts ++ [t])
  | [], [], _ => ⟨⟨k, rfl⟩, trivial⟩
  | _ :: _, _ :: _, h => ⟨h.1, StrAre.snoc h.2⟩
  | [], _ :: _, h => h.elim
  | _ :: _, [], h => h.elim
theorem take_map_snoc {f : Str → Str} {ws : List Str} {i : Nat} {x : Str} (h : ws[i]? = some x) : (ws.take (i + 1)).map f = (ws.take i).map f ++ [f x] := by
  rw [List.take_add_one, h]; simp
theorem sum_len (n : Nat) : ∀ (l : List Str), (∀ x ∈ l, x.length ≤ n) → (l.map (·.length)).sum ≤ n * l.length
  | [], _ => by simp
  | x :: l, h => by
    have h1 := h x (.head _)
    have h2 := sum_len n l fun y hy => h y (.tail _ hy)
    simp only [List.map_cons, List.sum_cons, List.length_cons, Nat.mul_add]
    omega
def wq (x : Str) : Str := if x == Str.ofString "a" then Str.ofString "'a'" else if x == Str.ofString "" then Str.ofString "''" else if x == Str.ofString " " then Str.ofString "' '" else if x == Str.ofString "'" then Str.ofString "\"'\"" else Str.ofString "'\"'"
theorem wq_len (x : Str) : (wq x).length ≤ 7 := by
  unfold wq
  split
  · decide +kernel
  · split
    · decide +kernel
    · split
      · decide +kernel
      · split <;> decide +kernel
set_option maxHeartbeats 4000000 in
theorem written_ok {w : World} {A : Around} {s : Shared} {mg mb : Str → Option Value} {R : Result → Shared → Prop} {h₀ : Heap} {a : Addr} {vs : List Value} {c : Nat} {ws : List Str}
    (G₀ : Gd w mg mb h₀) (k₀ : ∀ b o, h₀.get? b = some o → s.heap.get? b = some o) (hl : s.heap.get? a = some (listOf vs.toArray c)) (hl0 : h₀.get? a = none)
    (hs : StrAre vs ws) (hw : ∀ x ∈ ws, W5 x) (hsz : vs.length ≤ 1000) (hh : A.handled = none) (hroom : A.depth < 870)
    (h : ∀ s' t', Keeps s s' → R (.ok (.ret (.str (Txt.join (Str.ofString " ") (ws.map wq)) t'))) s') :
    codeAny (model prog w) A (.call (.ref 793) ⟨[.ref a], []⟩) R s := by
  have hX : ∀ p ∈ [(a, listOf vs.toArray c)], s.heap.get? p.1 = some p.2 ∧ h₀.get? p.1 = none := fun p hp => by
    rcases List.mem_cons.mp hp with rfl | hp
    · exact ⟨hl, hl0⟩
    · cases hp
  refine' call_led G₀ k₀ (news := [(a, listOf vs.toArray c)]) hX ?ho ?hcd ?hr ?hb ?hl ?_ ?c1 ?c2 ?c3 ?c4
  case ho => k_dflt k_is
  case hcd => k_dflt k_is
  case hr => k_room
  case hb => exact BindsTo.of_eq rfl
  case hl => exact locs rfl
  case c1 => rfl
  case c2 => rfl
  case c3 => rfl
  case c4 => decide
  intro g L h₁ kg F N KX TT
  k_steps
  refine hold_out (LCg.ListComp_U (cl := []) F (by with_unfolding_all rfl) (by decide) (by rfl) (by decide) (by rfl) ?_)
  k_steps
  rename Fr g L _ _ => F2
  rename News g L _ _ => N2
  refine LCg.CompSrc.ledger hh F2 N2 (.head _) (by rw [sizeLine_eq]; simp; omega) fun gg => ?_
  rw [show vs.toArray.size = vs.length by simp]
  refine (?_ : ∀ k i ys, k + i = vs.length → StrAre ys ((ws.take i).map wq) → LCg.CompRest prog w _ g L _ _ _ _ _ _ _ _ _ _ k i ys _) vs.length 0 [] (by omega) trivial
  intro k
  induction k with
  | zero =>
    intro i ys hki hys
    refine LCg.CompRest.zero ?_
    k_steps
    have hlen := hs.length
    have hiv : ws.take i = ws := by rw [List.take_of_length_le]; omega
    rw [hiv] at hys
    rename Fr g L _ _ => F5
    rename News g L _ _ => N5
    refine join_listW (D := _) (items := ys.toArray) ⟨_, (N5 _ (.head _)).1, rfl, _, rfl⟩ (by simpa using hys.strs) (by decide +kernel) ?_ (fun t' k => ?_)
    · have := sum_len 7 (ws.map wq) fun x hx => by
        obtain ⟨y, _, rfl⟩ := List.mem_map.mp hx
        exact wq_len y
      rw [List.length_map] at this ⊢
      omega
    · exact h { s with heap := _, toks := k } t' (keeps_ledX (X := [(a, listOf vs.toArray c)]) kg F5 N5 (fun p hp => (hX p hp).1) fun p hp => .tail _ hp)
  | succ k ih =>
    intro i ys hki hys
    refine LCg.CompRest.succ ?_
    intro v I oI C oC D m₂ h2 tk2 E' hv hC hx F3 N3 off ne
    have hv' : vs[i]? = some v := by simpa using hv
    obtain ⟨t9, rfl, hin⟩ := hs.get i v hv'
    generalize hwx : ws.getD i "" = x9 at *
    have hW := hw _ (List.mem_of_getElem? hin)
    cases hW
    · k_steps
      rename Fr g L _ _ => F5
      rename News g L _ _ => N5
      have hwq : wq (Str.ofString "a") = Str.ofString "'a'" := by decide +kernel
      exact LCg.CompEnd.intro F5 N5 _ (fun p hp => hp) off (.inr ⟨_, .head _, rfl, _, rfl⟩) (ih (i + 1) _ (by omega) (by rw [take_map_snoc hin, hwq]; exact hys.snoc))
    · k_steps
      rename Fr g L _ _ => F5
      rename News g L _ _ => N5
      have hwq : wq (Str.ofString "") = Str.ofString "''" := by decide +kernel
      exact LCg.CompEnd.intro F5 N5 _ (fun p hp => hp) off (.inr ⟨_, .head _, rfl, _, rfl⟩) (ih (i + 1) _ (by omega) (by rw [take_map_snoc hin, hwq]; exact hys.snoc))
    · k_steps
      rename Fr g L _ _ => F5
      rename News g L _ _ => N5
      have hwq : wq (Str.ofString " ") = Str.ofString "' '" := by decide +kernel
      exact LCg.CompEnd.intro F5 N5 _ (fun p hp => hp) off (.inr ⟨_, .head _, rfl, _, rfl⟩) (ih (i + 1) _ (by omega) (by rw [take_map_snoc hin, hwq]; exact hys.snoc))
    · k_steps
      rename Fr g L _ _ => F5
      rename News g L _ _ => N5
      have hwq : wq (Str.ofString "'") = Str.ofString "\"'\"" := by decide +kernel
      exact LCg.CompEnd.intro F5 N5 _ (fun p hp => hp) off (.inr ⟨_, .head _, rfl, _, rfl⟩) (ih (i + 1) _ (by omega) (by rw [take_map_snoc hin, hwq]; exact hys.snoc))
    · k_steps
      rename Fr g L _ _ => F5
      rename News g L _ _ => N5
      have hwq : wq (Str.ofString "\"") = Str.ofString "'\"'" := by decide +kernel
      exact LCg.CompEnd.intro F5 N5 _ (fun p hp => hp) off (.inr ⟨_, .head _, rfl, _, rfl⟩) (ih (i + 1) _ (by omega) (by rw [take_map_snoc hin, hwq]; exact hys.snoc))
theorem entry_fkl : entryFor table "dict.fromkeys.loop" = some Builtin.«dict.fromkeys.loop» := entryFor_of_fast (by kernel_rfl)
theorem plain_fkl : plainId "dict.fromkeys.loop" = true := by decide +kernel
noncomputable def fkv (kvs : List (Str × Value)) (ws : List Str) : List (Str × Value) := ws.foldl (fun kvs x => stored kvs x .none) kvs
theorem stored_len (kvs : List (Str × Value)) (x : Str) (v : Value) : (stored kvs x v).length ≤ kvs.length + 1 := by
  unfold stored
  split <;> simp
theorem fk_loop {w : World} {A : Around} {R : Result → Shared → Prop} {D I l : Addr} {items : Array Value} {ws : List Str} (hh : A.handled = none) (hDI : D ≠ I) (hDl : l ≠ D) (hIl : l ≠ I) (hsz : items.size ≤ 1000)
    (hst : ∀ i v, items[i]? = some v → ∃ t, v = .str (ws.getD i "") t ∧ ws[i]? = some (ws.getD i "")) (hlen : ws.length = items.size) :
    ∀ (k i : Nat) (s : Shared) (kvs : List (Str × Value)), k + i = items.size → s.heap.IsListIter I l i → s.heap.IsList l items → s.heap.DictOf (PySem.strKind prog w) D kvs → kvs.length ≤ i →
      (∀ s', KeepsBut [D, I] s s' → s'.heap.DictOf (PySem.strKind prog w) D (fkv kvs (ws.drop i)) → R (.ok (.ret (.ref D))) s') →
      codeAny (model prog w) A (.builtin "dict.fromkeys.loop" ⟨[.ref D, .ref I, .none], []⟩) R s := by
  intro k
  induction k with
  | zero =>
    intro i s kvs hk hit hl hd hkl hR
    refine codeAny_builtin entry_fkl ?_
    rw [Around.under_plainId plain_fkl _]
    show wpAny _ A.in1 (pyNext (.ref I) >>= _) _ _ s
    refine wpAny_bind (wpAny_pyNext_list_end hh hit hl (by simp; omega) fun h' hx => ?_)
    refine wpAny_pure (hR _ ⟨h', s.toks, rfl, fun b o nb e => hx b o (fun q => nb (q ▸ .tail _ (.head _))) e⟩ ?_)
    rw [List.drop_of_length_le (by omega)]
    obtain ⟨o, es, ep, ho, r⟩ := hd
    exact ⟨o, es, ep, hx _ _ hDI ho, r⟩
  | succ k ih =>
    intro i s kvs hk hit hl hd hkl hR
    have hlt : i < items.size := by omega
    refine codeAny_builtin entry_fkl ?_
    rw [Around.under_plainId plain_fkl _]
    show wpAny _ A.in1 (pyNext (.ref I) >>= _) _ _ s
    refine wpAny_bind (wpAny_pyNext_list_item hit hl (x := items[i]) (by simp [hlt]) fun h' hit' hs' => ?_)
    obtain ⟨t, ht, hw⟩ := hst i items[i] (by simp [hlt])
    rw [ht]
    have hd' : h'.DictOf (PySem.strKind prog w) D kvs := by
      obtain ⟨o, es, ep, ho, r⟩ := hd
      exact ⟨o, es, ep, hs'.extBut _ _ hDI ho, r⟩
    obtain ⟨od, es, ep, ho, hc, r⟩ := id hd'
    have hT : ({ s with heap := h' } : Shared).TypeIs (.ref D) "dict" := ⟨od, ho, hc.1⟩
    refine wpAny_bind (wpAny_typeOf hT ?_)
    rw [if_pos (show (Value.type "dict" == Value.type "dict") = true by decide)]
    refine wpAny_bind (m := Builtin.Dict.addrOf (.ref D)) (wpAny_pure ?_)
    refine wpAny_bind (wpAny_holding ?_)
    refine wpAny_dictSet_pairs (knd := PySem.strKind prog w) (k := ws.getD i "") (kvs := kvs) ?_ hd' (fun h'' hd'' hs'' => ?_) (by rw [sizeLine_eq]; omega)
    · simp [PySem.strKind, Value.isStrOf]
    · refine wpAny_pure ⟨plainId_quiet plain_fkl _, ih (i + 1) _ (stored kvs (ws.getD i "") .none) (by omega) ?_ ?_ hd'' (by have := stored_len kvs (ws.getD i "") .none; omega) fun s' hk' hd9 => ?_⟩
      · obtain ⟨o, e, r⟩ := hit'
        exact ⟨o, hs''.extBut _ _ (Ne.symm hDI) e, r⟩
      · obtain ⟨o, e, r⟩ := hl
        exact ⟨o, hs''.extBut _ _ hDl (hs'.extBut _ _ hIl e), r⟩
      · obtain ⟨h9, tk9, rfl, kk⟩ := hk'
        refine hR _ ⟨h9, tk9, rfl, fun b o nb e => kk b o nb (hs''.extBut b o (fun q => nb (q ▸ .head _)) (hs'.extBut b o (fun q => nb (q ▸ .tail _ (.head _))) e))⟩ ?_
        have hdrop : ws.drop i = ws.getD i "" :: ws.drop (i + 1) := by
          have hi : i < ws.length := by omega
          rw [List.drop_eq_getElem_cons hi]
          congr 1
          rw [List.getElem?_eq_getElem hi] at hw
          exact Option.some.inj hw
        rw [hdrop]
        exact hd9
abbrev fkObj : Obj := { cls := .type "builtin_function_or_method", data := .fields #[.builtin "dict.fromkeys", .type "dict"] }
theorem type_fk : typeOf (.builtin "dict.fromkeys") = pure (.type "classmethod_descriptor") := by show builtinType _ = _; rw [builtinType_eq_fast]; kernel_rfl
theorem owner_fk : (kfb_private% "ownerAndName") "dict.fromkeys" = ("dict", "fromkeys") := by first | decide +kernel | kernel_rfl
theorem isType_dict : isType (.type "dict") = pure true := by first | rfl | kernel_rfl | (unfold isType; rw [isSubtype_type]; kernel_rfl)
theorem sub_dict : isSubtype (.type "dict") (.type "dict") = pure true := by rw [isSubtype_type]; kernel_rfl
section
variable {w : World} {M : Model} {A : Around} {E : Value → Shared → Prop} {s : Shared} {K : Frag} {h₀ : Heap} {L : Addr} {m : PySem.Str → Option Value} {news : List (Addr × Obj)}
theorem run_get_fk {P : Fin → Shared → Prop} (h : P (.done (.ret (.ref s.heap.objs.size))) { s with heap := s.heap.push fkObj }) :
    wpAny M A (Builtin.«classmethod_descriptor.__get__» ⟨[.builtin "dict.fromkeys", .none, .type "dict"], []⟩) P E s := by
  unfold Builtin.«classmethod_descriptor.__get__»
  refine wpAny_bind (wpAny_of_eq (a := (.builtin "dict.fromkeys", none, some (.type "dict"))) (by first | rfl | kernel_rfl) ?_)
  simp only [owner_fk]
  refine wpAny_bind (wpAny_of_eq (a := .type "dict") rfl ?_)
  refine wpAny_bind (wpAny_of_eq (a := true) isType_dict ?_)
  refine KFB.if_not rfl ?_
  refine wpAny_bind (wpAny_of_eq (a := true) sub_dict ?_)
  refine KFB.if_not rfl ?_
  exact wpAny_bind (wpAny_newObj_type (wpAny_pure h))
theorem getm_fk {pl : Sem Bool} {Q : Value × List Value → Shared → Prop} (F : Fr h₀ L s.heap m) (N : News h₀ L s.heap news) (X₀ : (Mine.hd.heap_39 w.params).In h₀)
    (e : findCls (Mine.hd.heap_39 w.params) (.type "dict") (.type "type") (PySem.Str.ofString "fromkeys") = some (.get (.builtin "classmethod_descriptor.__get__") (.builtin "dict.fromkeys") .none (.type "dict")))
    (h : ∀ x h', Fr h₀ L h' m → News h₀ L h' ((x, fkObj) :: news) → (∀ p ∈ news, p.1 < x) → Q (.ref x, []) { s with heap := h', toks := s.toks + 1 }) :
    wpAny (model prog w) A (getMethod (.type "dict") (PySem.Str.ofString "fromkeys") pl) Q E s := by
  have X := X₀.keeps F.keep
  have hstub : opaqueClassAbove (.type "dict") = pure none := by unfold opaqueClassAbove; dsimp only; rw [show Manifest.isStub "dict" = false by decide +kernel]; rfl
  have ht : typeOf (.type "dict") = pure (.type "type") := by first | rfl | kernel_rfl
  have L0 : Looks (model prog w) s.heap (typeOf (.type "dict")) (.type "type") := Looks.of_pure ht
  have hg : findIn (Mine.hd.heap_39 w.params) (.type "type") "__getattribute__" = some (some (.builtin "type.__getattribute__")) := type_tga
  unfold getMethod specialOf
  refine wpAny_bind (wpAny_bind (L0.here ((looks_findIn X hg).here ?_)))
  dsimp only
  rw [if_pos canon_tga]
  refine wpAny_bind (wpAny_mono (Q := fun v => Q (v, [])) (E := E) ?_ (fun _ _ z => wpAny_pure z) fun _ _ z => z)
  have LOp : Looks (model prog w) s.heap (opaqueClassAbove (.type "dict")) none := Looks.of_pure hstub
  refine cls_open X LOp L0 hg (looks_hook X (r := none) (by rfl)) (by show subIn _ _ _ = _; rfl) e ?_
  show wpAny _ _ (holding [.builtin "dict.fromkeys"] (call (.builtin "classmethod_descriptor.__get__") [.builtin "dict.fromkeys", .none, .type "dict"]) >>= fun v => ret v) _ _ _
  refine wpAny_bind (wpAny_holding (wpAny_call_entry KFB.slot_get type_fk KFB.entry_get (run_get_fk ⟨_, rfl, wpAny_pure (wpAny_pure (h _ _ (F.push _) (News.push F N _) fun p hp => Heap.lt_size (N p hp).1))⟩) (KFB.args_get _ _ _)))
end
theorem lineZ0_1 : True := by
  (k_with "getMethod type:dict" => (k_here; k_dflt (refine' getm_fk ?zqkfbF ?zqkfbN ?zqkfbX ?zqkfbE ?_; (case zqkfbF => k_asm); (case zqkfbN => k_asm); (case zqkfbX => k_asm); (case zqkfbE => k_is); k_whole; intro _ _ _ _ zl1; (try k_lt zl1); (try k_sweep))))
  trivial
theorem chk_fk (a : Value) : checkBoundCall "dict.fromkeys" ⟨[.type "dict", a], []⟩ = pure () := by kernel_rfl
theorem entry_fk : entryFor table "dict.fromkeys" = some Builtin.«dict.fromkeys» := entryFor_of_tree (by kernel_rfl)
theorem quiet_fk (as : Args) : (Code.builtin "dict.fromkeys" as).quiet = true := Code.quiet_builtin _ (by decide +kernel)
theorem typeCall_dict0 : checkTypeCall "dict" ⟨[], []⟩ = pure () := by kernel_rfl
theorem newCall_dict0 : checkBuiltinCall "dict.__new__" ⟨[.type "dict"], []⟩ = pure () := by kernel_rfl
section
variable {w : World} {A : Around} {E : Value → Shared → Prop} {s : Shared}
theorem code_dict_new0 {Q₁ : Value → Shared → Prop} (h : Q₁ (.ref s.heap.objs.size) { s with heap := s.heap.push { cls := .type "dict", data := .dict #[] } }) :
    codeAny (model prog w) A (.call (.builtin "dict.__new__") ⟨[.type "dict"], []⟩) (wants Q₁ E) s := by
  refine codeAny_call_builtin PySem.F.kt_plain_dict_new PySem.F.kt_entry_dict_new (wpAny_of_eq newCall_dict0 ?_)
  have hsub := PySem.F.kt_sub_dict
  have hmro := PySem.F.kt_mro_dict
  obtain ⟨hp, g, d, tk, os⟩ := s
  unfold Builtin.«dict.__new__»
  wp_walk
  exact h
theorem call_dict0 {Q : Value → Shared → Prop} (h : ∀ h', h'.DictOf (PySem.strKind prog w) s.heap.objs.size [] → (∀ b o, s.heap.get? b = some o → h'.get? b = some o) → Q (.ref s.heap.objs.size) { s with heap := h' }) :
    wpAny (model prog w) A (call (.type "dict") []) Q E s := by
  refine callType_codes (Q₁ := fun obj s₁ => obj = .ref s.heap.objs.size ∧ s₁ = { s with heap := s.heap.push { cls := .type "dict", data := .dict #[] } }) PySem.F.kt_called_dict typeCall_dict0 PySem.F.entry_dict_init (code_dict_new0 ⟨rfl, rfl⟩) ?_
  rintro obj s₁ ⟨rfl, rfl⟩
  have hnew : (s.heap.push { cls := .type "dict", data := .dict #[] }).DictOf (PySem.strKind prog w) s.heap.objs.size [] := Heap.DictOf.new s.heap
  refine ⟨hnew.typeIs, PySem.F.args_dict_init_1 _, ?_⟩
  unfold Builtin.«dict.__init__»
  refine wpAny_bind ?_
  unfold Builtin.Dict.selfAndRest
  refine wpAny_bind (wpAny_notOrdered_dict hnew.typeIs ?_)
  show wpAny _ _ (pure (s.heap.objs.size, ([] : List Value))) _ _ _
  refine wpAny_pure ?_
  show wpAny _ _ (Builtin.Dict.addKeywords s.heap.objs.size [] >>= _) _ _ _
  exact wpAny_bind (wpAny_pure (wpAny_pure ⟨rfl, h _ hnew fun b o e => Heap.get?_push_of_some _ e⟩))
end
theorem fk_call {w : World} {A : Around} {E : Value → Shared → Prop} {s : Shared} {h₀ : Heap} {L a x : Addr} {m : Str → Option Value} {news : List (Addr × Obj)} {vs : List Value} {c : Nat} {ws : List Str} {Q : Value → Shared → Prop} (hh : A.handled = none)
    (F : Fr h₀ L s.heap m) (N : News h₀ L s.heap news) (hx : (x, fkObj) ∈ news) (ha : (a, listOf vs.toArray c) ∈ news) (hs : StrAre vs ws) (hsz : vs.length ≤ 1000)
    (h : ∀ D o h' tk, Fr h₀ L h' m → News h₀ L h' ((D, o) :: news) → o.IsDictOf (PySem.strKind prog w) (fkv [] ws) → (∀ p ∈ news, p.1 ≠ D) → L < D → Q (.ref D) { s with heap := h', toks := tk }) :
    wpAny (model prog w) A (call (.ref x) [.ref a]) Q E s := by
  refine wpAny_call (codeAny_of_tree ?_)
  show wpAny _ _ (callAny (.ref x) ⟨[.ref a], []⟩) _ _ _
  unfold callAny
  refine wpAny_bind (wpAny_load (N _ hx).1 ?_)
  dsimp only
  rw [if_pos (by decide)]
  show wpAny _ _ (checkBoundCall "dict.fromkeys" ⟨[.type "dict", .ref a], []⟩ >>= fun _ => again (.builtin "dict.fromkeys" ⟨[.type "dict", .ref a], []⟩)) _ _ _
  refine wpAny_bind (wpAny_of_eq (chk_fk _) (wpAny_pure ⟨quiet_fk _, codeAny_builtin entry_fk ?_⟩))
  unfold Builtin.«dict.fromkeys»
  dsimp only
  refine wpAny_bind (wpAny_of_eq (a := true) isType_dict ?_)
  refine KFB.if_not rfl ?_
  refine wpAny_bind (wpAny_of_eq (a := true) sub_dict ?_)
  refine KFB.if_not rfl ?_
  refine KFB.if_not rfl ?_
  refine wpAny_bind (wpAny_rule ?_)
  refine wpAny_bind (wpAny_pure ?_)
  refine wpAny_bind (call_dict0 fun h1 hd k1 => ?_)
  refine wpAny_holding ?_
  have hla : h1.IsList a vs.toArray := ⟨_, k1 _ _ (N _ ha).1, rfl, _, rfl⟩
  refine wpAny_bind (wpAny_typeOf hla.typeIs ?_)
  refine wpAny_bind (wpAny_typeOf hd.typeIs ?_)
  refine KFB.if_not rfl ?_
  refine wpAny_bind (wpAny_typeOf hd.typeIs ?_)
  refine KFB.if_not rfl ?_
  have hD0 : s.heap.get? s.heap.objs.size = none := by
    cases e : s.heap.get? s.heap.objs.size with
    | none => rfl
    | some o => exact absurd (Heap.lt_size e) (Nat.lt_irrefl _)
  have hDl : s.heap.objs.size < h1.objs.size := by obtain ⟨o, es, ep, ho, _⟩ := hd; exact Heap.lt_size ho
  have hal : a < s.heap.objs.size := Heap.lt_size (N _ ha).1
  refine wpAny_bind (wpAny_pyIter_list hla ?_)
  have k2 : ∀ b o, h1.get? b = some o → (h1.push { cls := .type "list_iterator", data := .fields #[.ref a, .int 0 0] }).get? b = some o := fun b o e => Heap.get?_push_of_some _ e
  refine wpAny_pure ⟨plainId_quiet plain_fkl _, fk_loop (ws := ws) (items := vs.toArray) (l := a) (I := h1.objs.size) hh (Nat.ne_of_lt hDl) (Nat.ne_of_lt hal) (Nat.ne_of_lt (Nat.lt_trans hal hDl)) (by simpa using hsz) (fun i v hv => hs.get i v (by simpa using hv)) (by simp [hs.length]) vs.length 0 _ [] (by simp) ⟨_, Heap.get?_push_size _ rfl, rfl, rfl⟩ (hla.push _) (hd.push _) (Nat.le_refl _) fun s' hk' hd' => ?_⟩
  obtain ⟨h9, tk9, rfl, kk⟩ := hk'
  obtain ⟨o9, ho9, hd9⟩ := Heap.dictOf_iff.mp hd'
  have all : ∀ b o, s.heap.get? b = some o → h9.get? b = some o := fun b o e => kk b o (fun q => by
    have := Heap.lt_size e
    rcases List.mem_cons.mp q with r | r
    · rw [r] at this; exact Nat.lt_irrefl _ this
    · rcases List.mem_cons.mp r with r | r
      · rw [r] at this; exact Nat.lt_irrefl _ (Nat.lt_trans hDl this)
      · cases r) (k2 _ _ (k1 _ _ e))
  have hne : ∀ p ∈ news, p.1 ≠ s.heap.objs.size := fun p hp => Nat.ne_of_lt (Heap.lt_size (N p hp).1)
  exact h _ o9 h9 tk9 (F.keeps all) (News.add F (N.grown all) ho9 (Nat.le_refl _)) (by simpa using hd9) hne F.ns.lt
theorem binds52 {w : World} {s : Shared} {a : Addr} {name qual : Str} {params : Arguments} {body : List Stmt} {scope : Scope} {dV kV doc pm cdv ct oc : Value} {an od : Option Addr} {osl : Array (Option Value)}
    (ho : (Mine.hd.heap_39 w.params).lookup 52 = some ⟨oc, od, .func (fnOf name qual params body scope dV kV doc pm an cdv ct), osl⟩) (X : (Mine.hd.heap_39 w.params).In s.heap) :
    BindsTo s (fnOf name qual params body scope dV kV doc pm an cdv ct) ⟨[.ref a], []⟩ [("params", .ref a), ("unhashable_fallback", .bool false)] := by
  have ee := ho.symm.trans (by k_dflt k_is)
  cases ee
  intro M A E Q hq
  exact (Looks.of_peek (M := M) X (by kernel_rfl : peek (Mine.hd.heap_39 w.params) ⟨M.prog, M.w.params⟩ (bindArgs _ _) = some [((Str.ofString "params" : Str), Value.ref a), (Str.ofString "unhashable_fallback", .bool false)])).here hq
theorem callWith_fk {w : World} {A : Around} {E : Value → Shared → Prop} {s : Shared} {h₀ : Heap} {cn : Str} {cs : Scope} {L f x : Addr} {cd v : Value} {m : Str → Option Value} {news : List (Addr × Obj)} {y : Str} {p pos : Pos} {Q : Value → Shared → Prop}
    (F : Fr h₀ L s.heap m) (N : News h₀ L s.heap news) (hx : (x, fkObj) ∈ news) (hm : m y = some v) (h : wpAny (model prog w) A (call (.ref x) [v]) Q E s)
    (hk : cs.kind = .function := by rfl) (hl : (envOf cn cs L f cd).kindOf y = some .local := by rfl) (hd : (y == ("__debug__" : Str)) = false := by decide) :
    wpAny (model prog w) A (callWith pos (.ref x) [] (backTo pos (starEach [.Name y p] (envOf cn cs L f cd))) []) Q E s := by
  refine callWith_of (P := fun h => h.get? x = some fkObj) rfl (fun h X => ⟨.machine, .inr (.inl rfl), (Looks.ld (part := none) X).andThen .now⟩) ?_
  show wpAny _ _ (evalArgs (.ref x) true ((false, eval (.Name y p) (envOf cn cs L f cd)) :: []) []) _ _ _
  refine evalArgs_plain ?_
  exact Calls.spliced_cons (ld F hm (Calls.spliced_nil ⟨(N _ hx).1, h⟩) hk hl hd)
theorem lineY2_1 : True := by
  (k_with "callWith ref" => (k_here; (with_reducible rename News _ _ _ ((_, fkObj) :: _) => hNfk); k_dflt (refine' callWith_fk ?zqF ?zqN ?zqx ?zqm ?_; (case zqF => k_asm); (case zqN => k_asm); (case zqx => exact .head _); (case zqm => exact rfl))))
  trivial
theorem lineY2_2 : True := by
  (k_with "call ref" => (k_here; (with_reducible rename News _ _ _ ((_, fkObj) :: _) => hNfk); k_dflt ((refine' fk_call ?zqhh ?zqF ?zqN ?zqx ?zqa ?zqs ?zqz ?_; (case zqhh => first | rfl | assumption); (case zqF => k_asm); (case zqN => k_asm); (case zqx => exact .head _); (case zqa => exact .tail _ (.head _)); (case zqs => assumption); (case zqz => assumption)); intro _ _ _ _ _ _ _ _ _)))
  trivial
set_option maxHeartbeats 4000000 in
theorem dedup_ok {w : World} {A : Around} {s : Shared} {mg mb : Str → Option Value} {R : Result → Shared → Prop} {h₀ : Heap} {a : Addr} {vs : List Value} {c : Nat} {ws : List Str}
    (G₀ : Gd w mg mb h₀) (k₀ : ∀ b o, h₀.get? b = some o → s.heap.get? b = some o) (hl : s.heap.get? a = some (listOf vs.toArray c)) (hl0 : h₀.get? a = none)
    (hs : StrAre vs ws) (hsz : vs.length ≤ 1000) (hh : A.handled = none) (hroom : A.depth < 870)
    (h : ∀ s' D, Keeps s s' → s'.heap.DictOf (PySem.strKind prog w) D (fkv [] ws) → (∀ o, s.heap.get? D ≠ some o) → 3 < D → R (.ok (.ret (.ref D))) s') :
    codeAny (model prog w) A (.call (.ref 52) ⟨[.ref a], []⟩) R s := by
  have KXs := (G₀.keeps k₀).K
  have hX : ∀ p ∈ [(a, listOf vs.toArray c)], s.heap.get? p.1 = some p.2 ∧ h₀.get? p.1 = none := fun p hp => by
    rcases List.mem_cons.mp hp with rfl | hp
    · exact ⟨hl, hl0⟩
    · cases hp
  refine' call_led G₀ k₀ (news := [(a, listOf vs.toArray c)]) hX ?ho ?hcd ?hr ?hb ?hl ?_ ?c1 ?c2 ?c3 ?c4
  case ho => k_dflt k_is
  case hcd => k_dflt k_is
  case hr => k_room
  case hb => exact binds52 (by k_dflt k_is) KXs
  case hl => exact locs rfl
  case c1 => rfl
  case c2 => rfl
  case c3 => rfl
  case c4 => decide
  intro g L h₁ kg F N KX TT
  have h3 : 3 < L := Nat.lt_of_lt_of_le TT.g.lt F.above
  k_steps
  rename Fr g L _ _ => F5
  rename News g L _ _ => N5
  rename L < _ => hltD
  refine h { s with heap := _, toks := _ } _ (keeps_ledX (X := [(a, listOf vs.toArray c)]) kg F5 N5 (fun p hp => (hX p hp).1) fun p hp => .tail _ (.tail _ hp)) (Heap.dictOf_iff.mpr ⟨_, (N5 _ (.head _)).1, by assumption⟩) ?_ (Nat.lt_trans h3 hltD)
  intro o ho'
  have hg9 := (N5 _ (.head _)).2.2
  dsimp only at hg9
  rw [kg _ o (fun hm => ?_) ho'] at hg9
  · cases hg9
  · rename_i hne5
    exact absurd (List.mem_singleton.mp hm).symm (hne5 _ (.tail _ (.head _)))
def Ctx0 (h : Heap) (e : Addr) : Prop := ∃ oe fs, h.get? e = some oe ∧ oe.data = .fields fs ∧ fs[2]? = some .none
theorem lands_ctx {M : Model} {A : Around} {E : Value → Shared → Prop} {s : Shared} {base : Heap} {l : List Env} {e : Addr} {cls a0 fl : Value} {Q : Unit → Shared → Prop}
    (hkb : base.StaysIn s.heap) (hen : base.get? e = none) (hl : s.heap.FunFrames base l) (ht : s.heap.TracedAtW base e cls a0 fl) (c : Ctx0 s.heap e)
    (h : ∀ h', Heap.FlyingW base l e cls a0 h' → s.heap.UpToSlots h' → Ctx0 h' e → Q () { s with heap := h' }) : wpAny M A (setFlight (.ref e) none) Q E s := by
  obtain ⟨oe, vs, T, oT, ts, he, hcls, hd, h1, hnT, hTe, hT, hdT, h3⟩ := ht
  obtain ⟨oe', fs, ce, cd, c2⟩ := c
  have hsz3 : 3 < ts.size := (Array.getElem?_eq_some_iff.mp h3).1
  unfold setFlight
  refine wpAny_bind (wpAny_field he hd h1 ?_)
  rw [if_pos (show (Value.ref T != Value.none) = true from by simp)]
  refine wpAny_setField hT hdT hsz3 ?_
  have other : ∀ b o, b ≠ T → s.heap.get? b = some o → (s.heap.update T (Obj.mapFields (·.setIfInBounds 3 ((none : Option Addr).elim Value.none fun f => rawInt f)))).get? b = some o :=
    fun b o hb q => (Heap.get?_update_other _ _ (Ne.symm hb)).trans q
  have nf : ∀ b o, s.heap.get? b = some o → (∀ vs, o.data ≠ .fields vs) → b ≠ T := fun b o hb hnf q => by
    rw [q, hT] at hb; cases hb; exact hnf ts hdT
  have hTn : (s.heap.update T (Obj.mapFields (·.setIfInBounds 3 ((none : Option Addr).elim Value.none fun f => rawInt f)))).get? T = some _ := Heap.get?_update_self _ hT (Obj.isFreed_of_fields (Obj.data_mapFields hdT _))
  refine h _ ⟨fun b o q => other b o (fun z => by rw [z, hnT] at q; cases q) (hkb b o q), hen, hl.of_keeps fun b o q hnf => ⟨o, other b o (nf b o q hnf) q, rfl⟩,
    oe, vs, T, _, _, other e _ (Ne.symm hTe) he, hcls, hd, h1, hnT, hTe, hTn, Obj.data_mapFields hdT _, by simp [hsz3]⟩ (fun b o q hnf => ⟨o.slots, other b o (nf b o q hnf) q⟩) ⟨oe', fs, other e _ (Ne.symm hTe) ce, cd, c2⟩
theorem entry_ctx {M : Model} {A : Around} {E : Value → Shared → Prop} {s : Shared} {base : Heap} {env : Env} {outer : List Env} {L e : Addr} {oe : Obj} {vs : Array Value} {a0 : Value} {Q : Unit → Shared → Prop}
    (hfr : A.frames = some (env :: outer)) (hl : s.heap.FunFrames base (env :: outer)) (hf : env.frame = some L)
    (he : s.heap.get? e = some oe) (hkb : base.StaysIn s.heap) (hen : base.get? e = none) (hd : oe.data = .fields vs) (h0 : vs[0]? = some a0) (h1 : vs[1]? = some .none) (h2 : vs[2]? = some .none)
    (h : ∀ h', Heap.HeldW base (env :: outer) e oe.cls a0 L h' → s.heap.UpToSlots h' → Ctx0 h' e → Q () { s with heap := h' }) :
    wpAny M A (noteFrame (.ref e) env) Q E s := by
  unfold noteFrame
  simp only [hf]
  refine wpAny_bind (wpAny_field he hd h1 ?_)
  rw [if_neg (show ¬ ((Value.none != Value.none) = true) by decide)]
  have hene : e ∉ (env :: outer).filterMap (·.frame) := fun hm => by
    obtain ⟨_, o, ho, hnf⟩ := hl.mem hm
    rw [he] at ho; cases ho; exact hnf vs hd
  refine wpAny_bind (wpAny_frameOf_fun hfr hl hf fun g₁ hs₁ => ?_)
  refine wpAny_bind (wpAny_entryPlaceOf fun pl hpl => ?_)
  unfold EntryCells.newEntry newFields
  refine wpAny_bind (wpAny_newObj_type ?_ (hpl.sizeOk5 _ _ _ _ _))
  have he₁ : g₁.get? e = some oe := (hs₁.2.1 e hene).trans he
  have kb₁ : base.StaysIn g₁ := fun b o hbo => (hs₁.2.1 b fun hm => by rw [(hl.mem hm).1] at hbo; cases hbo).trans (hkb b o hbo)
  have hTe : g₁.objs.size ≠ e := Nat.ne_of_gt (Heap.lt_size he₁)
  generalize hT0 : ({ cls := .type "traceback", dict := none, data := .fields ([Value.none, .ref L, .none, rawInt L, .none] ++ (if pl.isEmpty then List.replicate 6 Value.none else pl)).toArray } : Obj) = oT
  have hTd : oT.data = .fields ([Value.none, .ref L, .none, rawInt L, .none] ++ (if pl.isEmpty then List.replicate 6 Value.none else pl)).toArray := by rw [← hT0]
  have hTf : oT.isFreed = false := by rw [← hT0]; rfl
  have he₂ : (g₁.push oT).get? e = some oe := Heap.get?_push_of_some _ he₁
  refine wpAny_setField he₂ hd (Array.getElem?_eq_some_iff.mp h1).1 ?_
  have hd₃ := Obj.data_mapFields hd (·.setIfInBounds 1 (Value.ref g₁.objs.size))
  have he₃ := Heap.get?_update_self (Obj.mapFields (·.setIfInBounds 1 (Value.ref g₁.objs.size))) he₂ (Obj.isFreed_of_fields hd₃)
  have keep : ∀ b o, b ≠ e → g₁.get? b = some o → ((g₁.push oT).update e (Obj.mapFields (·.setIfInBounds 1 (Value.ref g₁.objs.size)))).get? b = some o :=
    fun b o hbe q => (Heap.get?_update_other _ _ (Ne.symm hbe)).trans (Heap.get?_push_of_some _ q)
  have nf : ∀ b o, s.heap.get? b = some o → (∀ vs, o.data ≠ .fields vs) → b ≠ e := fun b o q hnf z => by
    rw [z, he] at q; cases q; exact hnf vs hd
  have hsz : 1 < vs.size := (Array.getElem?_eq_some_iff.mp h1).1
  have up : ∀ b o, s.heap.get? b = some o → (∀ vs, o.data ≠ .fields vs) → ∃ sl, ((g₁.push oT).update e (Obj.mapFields (·.setIfInBounds 1 (Value.ref g₁.objs.size)))).get? b = some { o with slots := sl } := fun b o q hnf => by
    obtain ⟨sl, hs⟩ := hs₁.2.2 b o q
    exact ⟨sl, keep b _ (nf b o q hnf) hs⟩
  have hTn := (Heap.get?_update_other (g₁.push oT) (Obj.mapFields (·.setIfInBounds 1 (Value.ref g₁.objs.size))) (Ne.symm hTe)).trans (Heap.get?_push_size g₁ hTf)
  refine h _ ⟨fun b o q => keep b o (fun z => by rw [z, hen] at q; cases q) (kb₁ b o q), hen, hl.of_keeps fun b o q hnf => let ⟨_, z⟩ := up b o q hnf; ⟨_, z, rfl⟩,
    _, _, g₁.objs.size, _, _, he₃, ⟨Obj.cls_mapFields _ _, by rw [Array.getElem?_setIfInBounds_ne (by decide)]; exact h0⟩, hd₃, by simp [hsz], kb₁.fresh, hTe, hTn, hTd, by first | (simp; done) | (rcases hpl with rfl | ⟨_, _, _, _, _, _, _, rfl⟩ <;> simp)⟩ up
    ⟨_, _, he₃, hd₃, by rw [Array.getElem?_setIfInBounds_ne (by decide)]; exact h2⟩
section
variable {w : World} {A₀ : Around} {E : Value → Shared → Prop} {s' : Shared} {h₀ g h : Heap} {outer : List Env} {L a e : Addr} {m : Str → Option Value} {name : Str} {scope : Scope} {cd : Value}
  {b₁ : Stmt} {suite : List Stmt} {pos np : Pos} {rest : List ExceptHandler} {Q : Flow → Shared → Prop} {mg mb : Str → Option Value} {x : Str} {X T' : String}
theorem caught_ctx (hfr : A₀.frames = some outer) (G₀ : Gd w mg mb h₀) (k₀ : ∀ b o, h₀.get? b = some o → g.get? b = some o) (hff : g.FunFrames h₀ outer) (F : Fr g L h m) (hx : Heap.NewExc h s'.heap e X)
    (hv : bootBuiltins x = some (.type T'))
    (hexc : isSubtype (.type T') (.type "BaseException") = pure true) (hnt : isSubtype (.type ((Manifest.find? T').elim "type" fun y => y.metatype)) (.type "tuple") = pure false) (hsub : isSubtype (.type X) (.type T') = pure true)
    (k : ∀ h' a0, (∀ b o, b ∉ frs outer → g.get? b = some o → h'.get? b = some o) → s'.heap.UpToSlots h' → Fr (hideAll g (frs outer)) L h' m → Heap.FlyingW (hideAll g (frs outer)) (envOf name scope L a cd :: outer) e (.type X) a0 h' → Ctx0 h' e →
      wpAny (model prog w) ((A₀.deeper (envOf name scope L a cd)).mark (some (.ref e))) (execs (b₁ :: suite) (envOf name scope L a cd)) Q E { s' with heap := h' })
    (h1 : x ∉ startupNames := by decide +kernel) (h2 : x ∉ LO := by decide +kernel) (h3 : x ∉ (recsOf Mine.hd.view_39).map (·.name) := by decide +kernel) (h4 : x ∉ (litsOf Mine.hd.view_39).map (·.1) := by decide +kernel) (h4c : x ∉ (clssOf Mine.hd.view_39 LO).map (·.name) := by decide +kernel) (hn : x ≠ "__name__" := by decide +kernel)
    (hk : scope.kind = .function := by rfl) (hxk : (envOf name scope L a cd).kindOf x = some .globalImplicit := by rfl) (hd : (x == ("__debug__" : Str)) = false := by decide)
    (hE : PassesOwnAt (model prog w) ((A₀.deeper (envOf name scope L a cd)).mark (some (.ref e))) (A₀.deeper (envOf name scope L a cd)) (envOf name scope L a cd) E := by passes_own) :
    wpAny (model prog w) (A₀.deeper (envOf name scope L a cd)) (noteFrame (.ref e) (envOf name scope L a cd))
      (fun _ s₂ => wpAny (model prog w) (A₀.deeper (envOf name scope L a cd)) (setFlight (.ref e) none) (fun _ s₃ =>
        wpAny (model prog w) (A₀.deeper (envOf name scope L a cd)) (handleBy (.ref e) (envOf name scope L a cd) (.ExceptHandler (some (.Name x np)) none (b₁ :: suite) pos :: rest)) Q E s₃) E s₂) E s' := by
  have hbn : ∀ b, b ∈ frs outer → (hideAll g (frs outer)).get? b = none := fun b hb => hideAll_none _ hb
  have hbg : ∀ b o, (hideAll g (frs outer)).get? b = some o → g.get? b = some o := fun b o e => of_hideAll _ e
  have hgs : ∀ b o, g.get? b = some o → s'.heap.get? b = some o := fun b o e => hx.keeps b o (F.keep b o e)
  have hst : (hideAll g (frs outer)).StaysIn s'.heap := fun b o e => hgs b o (hbg b o e)
  have hLn : (hideAll g (frs outer)).get? L = none := by
    cases q : (hideAll g (frs outer)).get? L with
    | none => rfl
    | some o => exact absurd (Nat.lt_of_lt_of_le (Heap.lt_size (hbg _ _ q)) F.above) (Nat.lt_irrefl _)
  have hen : (hideAll g (frs outer)).get? e = none := by
    cases q : (hideAll g (frs outer)).get? e with
    | none => rfl
    | some o => have := F.keep _ _ (hbg _ _ q); rw [hx.new] at this; cases this
  have hfrD : (A₀.deeper (envOf name scope L a cd)).frames = some (envOf name scope L a cd :: outer) := Around.frames_deeper hfr
  have hns' : s'.heap.Ns L m := F.ns.keeps hx.keeps
  have hl : s'.heap.FunFrames (hideAll g (frs outer)) (envOf name scope L a cd :: outer) := by
    refine ⟨by show scope.kind ≠ .module; rw [hk]; decide, ?_, frames_in hbn hgs (fun b hb => hb) hff⟩
    obtain ⟨o, es, ep, ho, hdd, _⟩ := hns'
    exact ⟨L, o, rfl, hLn, ho, fun vs q => by rw [hdd] at q; cases q⟩
  obtain ⟨ob, t, heb, hcls, hdat⟩ := hx.there
  have F' : Fr (hideAll g (frs outer)) L s'.heap m := ⟨hns', hst, by rw [hideAll_size]; exact F.above⟩
  have h0b : ∀ b o, h₀.get? b = some o → (hideAll g (frs outer)).get? b = some o := fun b o q => hideAll_get _ (k₀ b o q) fun hm => by rw [(hff.mem hm).1] at q; cases q
  have T : TopRead Mine.hd.view_39 LO mg mb (hideAll g (frs outer)) := G₀.T.keeps h0b
  refine entry_ctx hfrD hl rfl heb hst hen hdat (a0 := t) (by simp) (by simp) (by simp) fun h₄ hheld n4 c4 => ?_
  refine lands_ctx hheld.1 hheld.2.1 hheld.2.2.1 hheld.2.2.2 c4 fun h₅ hfl hsm₅ c5 => ?_
  have hsm5 : s'.heap.UpToSlots h₅ := Heap.UpToSlots.trans n4 hsm₅
  rw [hcls] at hfl
  have F₅ := F'.of_stays hfl.1 hsm5
  obtain ⟨o5, ho5, hc5⟩ := hfl.there
  refine wpAny_handleBy_builtin (X := X) (T := T') (b := true) hexc hnt hsub (ld_builtin_at F₅ T.g (T.free x h1 h2 h3 h4 h4c) T.b ((T.builtins x hn).trans hv) ⟨rfl, ⟨o5, ho5, hc5⟩, ?_⟩ hk hxk hd)
  refine lands_ctx hfl.1 hfl.2.1 hfl.2.2.1 hfl.2.2.2.at c5 fun h₆ hfl₆ hsm₆ c6 => ?_
  have F₆ := F'.of_stays hfl₆.1 (hsm5.trans hsm₆)
  exact wpAny_passesOwnAt hE (k h₆ _ (fun b o nb q => hfl₆.1 b o (hideAll_get _ q nb)) (hsm5.trans hsm₆) F₆ hfl₆ c6)
end
theorem nohash_list : typeLookup (.type "list") "__hash__" = pure (some .none) := by rw [typeLookup_type, builtinLookup_eq_fast]; kernel_rfl
theorem hash_list_err {w : World} {A : Around} {E : Value → Shared → Prop} {s : Shared} {b : Addr} {ob : Obj} {Q : Int → Shared → Prop} (hh : A.handled = none) (hb : s.heap.get? b = some ob) (hc : ob.cls = .type "list") (hu : A.units < cLine)
    (h : ∀ h' tk e, Heap.NewExc s.heap h' e "TypeError" → E (.ref e) { s with heap := h', toks := tk }) : wpAny (model prog w) A (pyHash (.ref b)) Q E s := by
  show wpAny _ _ (pyHashByItsType (.ref b)) _ _ _
  unfold pyHashByItsType
  refine wpAny_bind (wpAny_cRoomFor hu ?_)
  have hT : s.TypeIs (.ref b) "list" := ⟨ob, hb, hc⟩
  refine wpAny_bind (wpAny_specialOf (name := Str.ofString "__hash__") hT nohash_list ?_)
  rw [if_pos (show (some Value.none == some Value.none) = true by decide)]
  refine wpAny_bind (wpAny_rule (wpAny_bind (wpAny_typeNameOf' hT (by decide) ?_)))
  refine wpAny_bind (wpAny_raiseTypeError hh (fun h' tk e hx => h h' tk e hx) ?_)
  decide +kernel
theorem fk_err {w : World} {A : Around} {E : Value → Shared → Prop} {s : Shared} {h₀ : Heap} {L a x b : Addr} {m : Str → Option Value} {news : List (Addr × Obj)} {vs : List Value} {c : Nat} {ob : Obj} {Q : Value → Shared → Prop} (hh : A.handled = none)
    (F : Fr h₀ L s.heap m) (N : News h₀ L s.heap news) (hx : (x, fkObj) ∈ news) (ha : (a, listOf vs.toArray c) ∈ news) (hv : vs[0]? = some (.ref b)) (hb : s.heap.get? b = some ob) (hc : ob.cls = .type "list") (hu : A.units + 100 < cLine)
    (h : ∀ h' tk e, Heap.NewExc s.heap h' e "TypeError" → E (.ref e) { s with heap := h', toks := tk }) :
    wpAny (model prog w) A (call (.ref x) [.ref a]) Q E s := by
  refine wpAny_call (codeAny_of_tree ?_)
  show wpAny _ _ (callAny (.ref x) ⟨[.ref a], []⟩) _ _ _
  unfold callAny
  refine wpAny_bind (wpAny_load (N _ hx).1 ?_)
  dsimp only
  rw [if_pos (by decide)]
  show wpAny _ _ (checkBoundCall "dict.fromkeys" ⟨[.type "dict", .ref a], []⟩ >>= fun _ => again (.builtin "dict.fromkeys" ⟨[.type "dict", .ref a], []⟩)) _ _ _
  refine wpAny_bind (wpAny_of_eq (chk_fk _) (wpAny_pure ⟨quiet_fk _, codeAny_builtin entry_fk ?_⟩))
  unfold Builtin.«dict.fromkeys»
  dsimp only
  refine wpAny_bind (wpAny_of_eq (a := true) isType_dict ?_)
  refine KFB.if_not rfl ?_
  refine wpAny_bind (wpAny_of_eq (a := true) sub_dict ?_)
  refine KFB.if_not rfl ?_
  refine KFB.if_not rfl ?_
  refine wpAny_bind (wpAny_rule ?_)
  refine wpAny_bind (wpAny_pure ?_)
  refine wpAny_bind (call_dict0 fun h1 hd k1 => ?_)
  refine wpAny_holding ?_
  have hla : h1.IsList a vs.toArray := ⟨_, k1 _ _ (N _ ha).1, rfl, _, rfl⟩
  refine wpAny_bind (wpAny_typeOf hla.typeIs ?_)
  refine wpAny_bind (wpAny_typeOf hd.typeIs ?_)
  refine KFB.if_not rfl ?_
  refine wpAny_bind (wpAny_typeOf hd.typeIs ?_)
  refine KFB.if_not rfl ?_
  have hDl : s.heap.objs.size < h1.objs.size := by obtain ⟨o, es, ep, ho, _⟩ := hd; exact Heap.lt_size ho
  have hal : a < s.heap.objs.size := Heap.lt_size (N _ ha).1
  refine wpAny_bind (wpAny_pyIter_list hla ?_)
  have k2 : ∀ b o, h1.get? b = some o → (h1.push { cls := .type "list_iterator", data := .fields #[.ref a, .int 0 0] }).get? b = some o := fun b o e => Heap.get?_push_of_some _ e
  refine wpAny_pure ⟨plainId_quiet plain_fkl _, ?_⟩
  refine codeAny_builtin entry_fkl ?_
  rw [Around.under_plainId plain_fkl _]
  show wpAny _ _ (pyNext (.ref h1.objs.size) >>= _) _ _ _
  refine wpAny_bind (wpAny_pyNext_list_item (i := 0) (l := a) (items := vs.toArray) ⟨_, Heap.get?_push_size _ rfl, rfl, rfl⟩ (hla.push _) (x := .ref b) (by simpa using hv) fun h3 hit3 hs3 => ?_)
  have old : ∀ b o, s.heap.get? b = some o → h3.get? b = some o := fun b o e => hs3.extBut b o (Nat.ne_of_lt (Nat.lt_trans (Heap.lt_size e) hDl)) (k2 _ _ (k1 _ _ e))
  have hd3 : ({ s with heap := h3 } : Shared).TypeIs (.ref s.heap.objs.size) "dict" := by
    obtain ⟨o, es, ep, ho, hc, _⟩ := hd
    exact ⟨o, hs3.extBut _ _ (Nat.ne_of_lt hDl) (k2 _ _ ho), hc.1⟩
  refine wpAny_bind (wpAny_typeOf hd3 ?_)
  rw [if_pos (show (Value.type "dict" == Value.type "dict") = true by decide)]
  refine wpAny_bind (m := Builtin.Dict.addrOf (.ref s.heap.objs.size)) (wpAny_pure ?_)
  refine wpAny_bind (wpAny_holding ?_)
  unfold dictSet
  refine wpAny_holding (wpAny_bind (hash_list_err hh (old _ _ hb) hc ?_ fun h' tk e hx' => ?_))
  · show A.units + _ < cLine
    omega
  · have none_ : ∀ q, h3.get? q = none → s.heap.get? q = none := fun q e => by
      cases z : s.heap.get? q with
      | none => rfl
      | some o => rw [old _ _ z] at e; cases e
    exact h h' tk e ⟨fun b o q => hx'.keeps b o (old b o q), none_ e hx'.new, hx'.there⟩
def HandAll (e : Addr) (h : Heap) (X : List (Addr × Obj)) : Prop := ∀ A' : Around, A'.handled = some (.ref e) → HandX A' h X
theorem lineE4_1 : True := by
  (k_with "call ref" => (k_here; (with_reducible show wpAny _ _ (call (Value.ref 59) _) _ _ _); (with_reducible rename HandAll _ _ _ => hX9); refine hold ?_))
  trivial
def FkErr (X : List (Addr × Obj)) (vs : List Value) (a : Addr) : Prop := ∃ b ob, vs[0]? = some (.ref b) ∧ (b, ob) ∈ X ∧ ob.cls = .type "list"
theorem fr_whole {s : Shared} {g h : Heap} {L : Addr} {m : Str → Option Value} {X : List (Addr × Obj)} (kg : ∀ b o, b ∉ X.map (·.1) → s.heap.get? b = some o → g.get? b = some o) (hz : s.heap.objs.size ≤ L)
    (hX : ∀ p ∈ X, s.heap.get? p.1 = some p.2) (F : Fr g L h m) (N : News g L h X) : Fr s.heap L h m := ⟨F.ns, fun b o e => by
    by_cases hb : b ∈ X.map (·.1)
    · obtain ⟨p, hp, rfl⟩ := List.mem_map.mp hb
      rw [hX p hp] at e; cases e
      exact (N p hp).1
    · exact F.keep b o (kg b o hb e), hz⟩
set_option maxHeartbeats 4000000 in
theorem dedupFB_ok {w : World} {A : Around} {s : Shared} {mg mb : Str → Option Value} {R : Result → Shared → Prop} {h₀ : Heap} {outer : List Env} {X : List (Addr × Obj)} {a : Addr} {vs : List Value} {c : Nat} {ds : List Dat}
    (G₀ : Gd w mg mb h₀) (k₀ : ∀ b o, h₀.get? b = some o → s.heap.get? b = some o) (hX : ∀ p ∈ X, s.heap.get? p.1 = some p.2 ∧ h₀.get? p.1 = none)
    (hfr : A.frames = some outer) (hff : s.heap.FunFrames h₀ outer) (hfn : ∀ a ∈ frs outer, a ∉ X.map (·.1))
    (ha : (a, listOf vs.toArray c) ∈ X) (hd : DatAll X vs ds) (hok : ∀ d ∈ ds, kqdOk 8 d = true) (hsz : vs.length ≤ 1000) (hE : FkErr X vs a) (hh : A.handled = none) (hroom : A.depth < 860) (hu : A.units + 200 < cLine)
    (h : ∀ s' D us c', KeepsX (frs outer) [] s s' → s'.heap.get? D = some (listOf us.toArray c') → (∀ o, s.heap.get? D ≠ some o) → DatAll X us (dd [] ds) → us.length ≤ vs.length → R (.ok (.ret (.ref D))) s') :
    codeAny (model prog w) A (.call (.ref 52) ⟨[.ref a], [("unhashable_fallback", .bool true)]⟩) R s := by
  refine' call_ledL G₀ k₀ (news := X) hX ?ho ?hcd ?hr ?hb ?hl ?_ ?c1 ?c2 ?c3 ?c4
  case ho => k_dflt k_is
  case hcd => k_dflt k_is
  case hr => k_room
  case hb => exact BindsTo.of_eq (binds := [("params", .ref a), ("unhashable_fallback", .bool true)]) rfl
  case hl => exact locs rfl
  case c1 => rfl
  case c2 => rfl
  case c3 => rfl
  case c4 => decide
  intro g L h₁ kg hszL F N KX TT
  k_steps
  obtain ⟨b, ob, hv0, hbX, hbc⟩ := hE
  rename Fr g L _ _ => F5
  rename News g L _ _ => N5
  refine fk_err hh F5 N5 (.head _) (.tail _ ha) hv0 (N5 _ (.tail _ hbX)).1 hbc (by k_units) fun h6 tk6 e hx6 => ?_
  have F7 := fr_whole kg hszL (fun p hp => (hX p hp).1) F5 (fun p hp => N5 p (.tail _ hp))
  refine caught_ctx (mg := mg) (mb := mb) (h₀ := h₀) (g := s.heap) (T' := "TypeError") hfr G₀ k₀ hff F7 hx6 PyProof.Rows.Boot.«TypeError» PySem.F.isExc_TypeError PySem.F.notTuple_TypeError (by rw [isSubtype_type]; kernel_rfl) (fun h9 a0 kk9 sm9 F9 fl9 c9 => ?_)
  have kb : ∀ b o, h₀.get? b = some o → (hideAll s.heap (frs outer)).get? b = some o := fun b o q => hideAll_get _ (k₀ b o q) fun hm => by rw [(hff.mem hm).1] at q; cases q
  have KX9 : (Mine.hd.heap_39 w.params).In (hideAll s.heap (frs outer)) := G₀.K.keeps kb
  have TT9 : TopRead Mine.hd.view_39 LO mg mb (hideAll s.heap (frs outer)) := G₀.T.keeps kb
  have N9 : News (hideAll s.heap (frs outer)) L h9 [] := News.nil
  have heX : e ∉ X.map (·.1) := fun hm => by
    obtain ⟨p, hp, q⟩ := List.mem_map.mp hm
    have := (N5 p (.tail _ hp)).1
    rw [q, hx6.new] at this; cases this
  have hX9 : HandAll e h9 X := by
    obtain ⟨oe, fs, x, y, z⟩ := c9
    exact fun A' hA => .inr ⟨e, oe, fs, hA, x, y, z, heX⟩
  k_steps
  have hXf : ∀ p ∈ X, h9.get? p.1 = some p.2 := fun p hp => kk9 _ _ (fun hm => hfn _ hm (List.mem_map_of_mem hp)) (hX p hp).1
  have kb2 : ∀ b o, h₀.get? b = some o → (hideAll h9 (X.map (·.1))).get? b = some o := fun b o q => hideAll_get _ (kk9 b o (fun hm => by rw [(hff.mem hm).1] at q; cases q) (k₀ b o q)) fun hm => by
    obtain ⟨p, hp, z⟩ := List.mem_map.mp hm
    rw [← z, (hX p hp).2] at q; cases q
  rename HandAll _ _ _ => hX9
  refine hold_out (wpAny_call (dedupU_ok (mg := mg) (mb := mb) (h₀ := hideAll h9 (X.map (·.1))) (X := X) ⟨G₀.K.keeps kb2, G₀.T.keeps kb2⟩ (fun b o e => of_hideAll _ e) (fun p hp => ⟨hXf p hp, hideAll_none _ (List.mem_map_of_mem hp)⟩) ha hd hok hsz ((hX9 _ rfl).ok rfl) (by show A.depth + 1 < 870; omega) (by k_units) fun s' D us c' hk hD hD0 hda hul => ?_))
  obtain ⟨h7, tk7, rfl, kk7⟩ := hk
  have sl : ∀ b o, b ∈ frs outer → s.heap.get? b = some o → (∀ vs, o.data ≠ .fields vs) → ∃ sl, h9.get? b = some { o with slots := sl } := fun b o hm q hnf => sm9 b o (hx6.keeps b o (F7.keep b o q)) hnf
  refine h _ D us c' ⟨h7, tk7, rfl, fun b o n1 _ q => kk7 b o (kk9 b o n1 q), fun b o n1 _ q hnf => ?_⟩ hD (fun o q => ?_) hda hul
  · obtain ⟨sl, z⟩ := sl b o n1 q hnf
    exact ⟨sl, kk7 _ _ z⟩
  · by_cases hm : D ∈ frs outer
    · obtain ⟨o', ho', hnf⟩ := (hff.mem hm).2
      obtain ⟨_, z⟩ := sl D o' hm ho' hnf
      exact hD0 _ z
    · exact hD0 _ (kk9 D o hm q)
theorem call_ledLE {w : World} {A : Around} {s : Shared} {mg mb : Str → Option Value} {h₀ : Heap} {news : List (Addr × Obj)} {R : Result → Shared → Prop} {name qual : Str} {params : Arguments} {body : List Stmt} {scope : Scope} {dV kV doc pm cdv ct oc : Value} {an od : Option Addr} {osl : Array (Option Value)} {f : Addr} {args : Args} {binds : List (Str × Value)}
    (G₀ : Gd w mg mb h₀) (k₀ : ∀ b o, h₀.get? b = some o → s.heap.get? b = some o) (hn : ∀ p ∈ news, s.heap.get? p.1 = some p.2 ∧ h₀.get? p.1 = none)
    (ho : (Mine.hd.heap_39 w.params).lookup f = some ⟨oc, od, .func (fnOf name qual params body scope dV kV doc pm an cdv ct), osl⟩) (hcd : codeIn (Mine.hd.heap_39 w.params) cdv qual = true) (hroom : A.depth < recursionLimit)
    (hbind : BindsTo s (fnOf name qual params body scope dV kV doc pm an cdv ct) args binds) (hloc : ∀ y ∈ binds, scope.names.lookup y.1 = some .local)
    (h : ∀ g L h₁, (∀ b o, b ∉ news.map (·.1) → s.heap.get? b = some o → g.get? b = some o) → s.heap.objs.size ≤ L → Fr g L h₁ (fun y => binds.reverse.lookup y) → News g L h₁ news → (Mine.hd.heap_39 w.params).In g → TopRead Mine.hd.view_39 LO mg mb g →
      wpAny (model prog w) (A.deeper (envOf qual scope L f cdv)) (execs body (envOf qual scope L f cdv))
        (fun fl s' => R (.ok (.ret (match fl with | .ret v => v | _ => .none))) s')
        (fun e s' => wpAny (model prog w) (A.deeper (envOf qual scope L f cdv)) (leaving (envOf qual scope L f cdv) e) (fun _ s'' => R (.error e) s'') (fun e' s'' => R (.error e') s'') s') { s with heap := h₁, toks := s.toks + binds.length })
    (hco : scope.isCoroutine = false := by rfl) (hgen : scope.isGenerator = false := by rfl) (hk : scope.kind = .function := by rfl)
    (hcell : ∀ x ∈ scope.names, x.2 ≠ .cell := by decide) : codeAny (model prog w) A (.call (.ref f) args) R s := by
  have G := G₀.keeps k₀
  refine codeAny_call_def (fd := fnOf name qual params body scope dV kV doc pm an cdv ct) (body := body) (binds := binds) hroom (G.K _ _ ho) rfl G.T.nolimit (codeRec_of G.K hcd) rfl hbind hcell hloc (fun h₁ hns hk₁ => ?_) hco hgen hk
  have nm : ∀ b o, h₀.get? b = some o → b ∉ news.map (·.1) := fun b o e q => by
    obtain ⟨p, hp, rfl⟩ := List.mem_map.mp q
    rw [(hn p hp).2] at e; cases e
  have st : h₀.StaysIn (hideAll s.heap (news.map (·.1))) := fun b o e => hideAll_get _ (k₀ b o e) (nm b o e)
  exact (h (hideAll s.heap (news.map (·.1))) s.heap.objs.size h₁ (fun b o nb e => hideAll_get _ e nb) (Nat.le_refl _) ⟨hns, fun b o e => hk₁ b o (of_hideAll _ e), Nat.le_of_eq (hideAll_size _ _)⟩
    (fun p hp => ⟨hk₁ _ _ (hn p hp).1, Nat.ne_of_lt (Heap.lt_size (hn p hp).1), hideAll_none _ (List.mem_map_of_mem hp)⟩) (Frag.In.keeps G₀.K fun b o e => st b o e) (G₀.T.keeps fun b o e => st b o e))

theorem raise_bare {w : World} {A : Around} {E : Value → Shared → Prop} {s : Shared} {env : Env} {base : Heap} {l : List Env} {e L : Addr} {cls a0 : Value} {pos : Pos} {Q : Flow → Shared → Prop}
    (hh : A.handled = some (.ref e)) (hf : env.frame = some L) (fl : Heap.FlyingW base l e cls a0 s.heap)
    (h : ∀ h', Heap.HeldW base l e cls a0 L h' → s.heap.UpToSlots h' → E (.ref e) { s with heap := h' }) : wpAny (model prog w) A (exec (.Raise none none pos) env) Q E s := by
  rw [arm_exec_Raise]
  refine wpAny_bind (wpAny_standAt ?_)
  unfold raiseStmt
  refine wpAny_bind (wpAny_handled ?_)
  rw [hh]
  dsimp only
  obtain ⟨_, _, _, oe, vs, T, _, _, he, _, hd, h1, _⟩ := id fl
  refine wpAny_bind (wpAny_rule (wpAny_bind (wpAny_field he hd h1 ?_)))
  rw [if_neg (show ¬ ((Value.ref T == Value.none) = true) by simp)]
  refine wpAny_bind ?_
  rw [hf]
  exact setFlight_onW fl fun h' hh' hs => wpAny_throw (h h' hh' hs)
theorem lineE5_1 : True := by
  (k_with "call ref" => (k_here; (with_reducible show wpAny _ _ (call (Value.ref 52) _) _ _ _); (with_reducible rename FkErr _ _ _ => hE9); refine hold ?_))
  trivial
set_option maxHeartbeats 4000000 in
theorem dedup_raises {w : World} {A : Around} {s : Shared} {mg mb : Str → Option Value} {R : Result → Shared → Prop} {h₀ : Heap} {outer : List Env} {X : List (Addr × Obj)} {a : Addr} {vs : List Value} {c : Nat}
    (G₀ : Gd w mg mb h₀) (k₀ : ∀ b o, h₀.get? b = some o → s.heap.get? b = some o) (hX : ∀ p ∈ X, s.heap.get? p.1 = some p.2 ∧ h₀.get? p.1 = none)
    (hfr : A.frames = some outer) (hff : s.heap.FunFrames h₀ outer)
    (ha : (a, listOf vs.toArray c) ∈ X) (hE : FkErr X vs a) (hh : A.handled = none) (hroom : A.depth < 860) (hu : A.units + 200 < cLine)
    (h : ∀ h' tk e a0, Heap.FlyingW (hideAll s.heap (frs outer)) outer e (.type "TypeError") a0 h' → s.heap.UpToSlots h' → R (.error (.ref e)) { s with heap := h', toks := tk }) :
    codeAny (model prog w) A (.call (.ref 52) ⟨[.ref a], []⟩) R s := by
  have KXs := (G₀.keeps k₀).K
  refine' call_ledLE G₀ k₀ (news := X) hX ?ho ?hcd ?hr ?hb ?hl ?_ ?c1 ?c2 ?c3 ?c4
  case ho => k_dflt k_is
  case hcd => k_dflt k_is
  case hr => k_room
  case hb => exact binds52 (by k_dflt k_is) KXs
  case hl => exact locs rfl
  case c1 => rfl
  case c2 => rfl
  case c3 => rfl
  case c4 => decide
  intro g L h₁ kg hszL F N KX TT
  k_steps
  obtain ⟨b, ob, hv0, hbX, hbc⟩ := hE
  rename Fr g L _ _ => F5
  rename News g L _ _ => N5
  refine fk_err hh F5 N5 (.head _) (.tail _ ha) hv0 (N5 _ (.tail _ hbX)).1 hbc (by k_units) fun h6 tk6 e hx6 => ?_
  have F7 := fr_whole kg hszL (fun p hp => (hX p hp).1) F5 (fun p hp => N5 p (.tail _ hp))
  refine caught_ctx (mg := mg) (mb := mb) (h₀ := h₀) (g := s.heap) (T' := "TypeError") hfr G₀ k₀ hff F7 hx6 PyProof.Rows.Boot.«TypeError» PySem.F.isExc_TypeError PySem.F.notTuple_TypeError (by rw [isSubtype_type]; kernel_rfl) (fun h9 a0 kk9 sm9 F9 fl9 c9 => ?_)
  have N9 : News (hideAll s.heap (frs outer)) L h9 [] := News.nil
  k_steps
  refine raise_bare rfl rfl fl9 fun h7 hd7 u7 => ?_
  show wpAny _ _ (leaving _ _) _ _ _
  unfold leaving
  refine wpAny_bind (wpAny_noteFrame_againW rfl hd7.2.2.2 ?_)
  refine wpAny_landsW hd7 fun h8 fl8 u8 => ?_
  obtain ⟨k1, k2, ⟨_, _, k3⟩, k4⟩ := fl8
  exact h h8 tk6 e a0 ⟨k1, k2, k3, k4⟩ ((Heap.UpToSlots.of_keeps fun b o q => hx6.keeps b o (F7.keep b o q)).trans (Heap.UpToSlots.trans sm9 (Heap.UpToSlots.trans u7 u8)))
section
variable {w : World} {A₀ : Around} {E : Value → Shared → Prop} {s' : Shared} {base base2 : Heap} {outer : List Env} {L a e : Addr} {m : Str → Option Value} {name : Str} {scope : Scope} {cd a0 : Value}
  {b₁ : Stmt} {suite : List Stmt} {pos np : Pos} {rest : List ExceptHandler} {Q : Flow → Shared → Prop} {mg mb : Str → Option Value} {x : Str} {X T' : String}
theorem caught_fly (hfr : A₀.frames = some outer) (TT : TopRead Mine.hd.view_39 LO mg mb base2) (fl : Heap.FlyingW base (envOf name scope L a cd :: outer) e (.type X) a0 s'.heap) (F : Fr base2 L s'.heap m) (hb : ∀ b o, base2.get? b = some o → base.get? b = some o)
    (hv : bootBuiltins x = some (.type T'))
    (hexc : isSubtype (.type T') (.type "BaseException") = pure true) (hnt : isSubtype (.type ((Manifest.find? T').elim "type" fun y => y.metatype)) (.type "tuple") = pure false) (hsub : isSubtype (.type X) (.type T') = pure true)
    (k : ∀ h', s'.heap.UpToSlots h' → Fr base2 L h' m → base.StaysIn h' →
      wpAny (model prog w) ((A₀.deeper (envOf name scope L a cd)).mark (some (.ref e))) (execs (b₁ :: suite) (envOf name scope L a cd)) Q E { s' with heap := h' })
    (h1 : x ∉ startupNames := by decide +kernel) (h2 : x ∉ LO := by decide +kernel) (h3 : x ∉ (recsOf Mine.hd.view_39).map (·.name) := by decide +kernel) (h4 : x ∉ (litsOf Mine.hd.view_39).map (·.1) := by decide +kernel) (h4c : x ∉ (clssOf Mine.hd.view_39 LO).map (·.name) := by decide +kernel) (hn : x ≠ "__name__" := by decide +kernel)
    (hk : scope.kind = .function := by rfl) (hxk : (envOf name scope L a cd).kindOf x = some .globalImplicit := by rfl) (hd : (x == ("__debug__" : Str)) = false := by decide)
    (hE : PassesOwnAt (model prog w) ((A₀.deeper (envOf name scope L a cd)).mark (some (.ref e))) (A₀.deeper (envOf name scope L a cd)) (envOf name scope L a cd) E := by passes_own) :
    wpAny (model prog w) (A₀.deeper (envOf name scope L a cd)) (noteFrame (.ref e) (envOf name scope L a cd))
      (fun _ s₂ => wpAny (model prog w) (A₀.deeper (envOf name scope L a cd)) (setFlight (.ref e) none) (fun _ s₃ =>
        wpAny (model prog w) (A₀.deeper (envOf name scope L a cd)) (handleBy (.ref e) (envOf name scope L a cd) (.ExceptHandler (some (.Name x np)) none (b₁ :: suite) pos :: rest)) Q E s₃) E s₂) E s' := by
  have hfrD : (A₀.deeper (envOf name scope L a cd)).frames = some (envOf name scope L a cd :: outer) := Around.frames_deeper hfr
  refine wpAny_looks_onW hfrD rfl fl fun h₄ hheld n4 => ?_
  refine wpAny_landsW hheld fun h₅ hfl hsm₅ => ?_
  have hsm5 : s'.heap.UpToSlots h₅ := Heap.UpToSlots.trans n4 hsm₅
  have F₅ : Fr base2 L h₅ m := F.of_stays (fun b o q => hfl.1 b o (hb b o q)) hsm5
  obtain ⟨o5, ho5, hc5⟩ := hfl.there
  refine wpAny_handleBy_builtin (X := X) (T := T') (b := true) hexc hnt hsub (ld_builtin_at F₅ TT.g (TT.free x h1 h2 h3 h4 h4c) TT.b ((TT.builtins x hn).trans hv) ⟨rfl, ⟨o5, ho5, hc5⟩, ?_⟩ hk hxk hd)
  refine lands_againW hfl fun h₆ hfl₆ hsm₆ => ?_
  exact wpAny_passesOwnAt hE (k h₆ (hsm5.trans hsm₆) (F.of_stays (fun b o q => hfl₆.1 b o (hb b o q)) (hsm5.trans hsm₆)) hfl₆.1)
end
set_option maxHeartbeats 4000000 in
theorem refused_ok {w : World} {A : Around} {s : Shared} {mg mb : Str → Option Value} {R : Result → Shared → Prop} {h₀ : Heap} {outer : List Env} {X : List (Addr × Obj)} {a : Addr} {vs : List Value} {c : Nat}
    (G₀ : Gd w mg mb h₀) (k₀ : ∀ b o, h₀.get? b = some o → s.heap.get? b = some o) (hX : ∀ p ∈ X, s.heap.get? p.1 = some p.2 ∧ h₀.get? p.1 = none)
    (hfr : A.frames = some outer) (hff : s.heap.FunFrames h₀ outer) (hfn : ∀ a ∈ frs outer, a ∉ X.map (·.1))
    (ha : (a, listOf vs.toArray c) ∈ X) (hE : FkErr X vs a) (hh : A.handled = none) (hroom : A.depth < 850) (hu : A.units + 300 < cLine)
    (h : ∀ s', KeepsX (frs outer) [] s s' → R (.ok (.ret (.bool true))) s') :
    codeAny (model prog w) A (.call (.ref 805) ⟨[.ref a], []⟩) R s := by
  refine' call_ledL G₀ k₀ (news := X) hX ?ho ?hcd ?hr ?hb ?hl ?_ ?c1 ?c2 ?c3 ?c4
  case ho => k_dflt k_is
  case hcd => k_dflt k_is
  case hr => k_room
  case hb => exact BindsTo.of_eq rfl
  case hl => exact locs rfl
  case c1 => rfl
  case c2 => rfl
  case c3 => rfl
  case c4 => decide
  intro g L h₁ kg hszL F N KX TT
  have kb : ∀ b o, h₀.get? b = some o → (hideAll s.heap (frs outer)).get? b = some o := fun b o q => hideAll_get _ (k₀ b o q) fun hm => by rw [(hff.mem hm).1] at q; cases q
  k_steps
  rename Fr g L _ _ => F5
  rename News g L _ _ => N5
  have F7 := fr_whole kg hszL (fun p hp => (hX p hp).1) F5 N5
  have B := Below.push (⟨hfr, k₀, hff⟩ : Below A h₀ outer s.heap) F7 (name := "_law_refused") (scope := { kind := .function, names := [("rows", .local), ("_deduplicate", .globalImplicit), ("TypeError", .globalImplicit)], isGenerator := false, isCoroutine := false }) (a := 805) (cd := .ref 804) rfl
  have hTT : TopRead Mine.hd.view_39 LO mg mb (hideAll s.heap (frs outer)) := G₀.T.keeps kb
  refine hold_out (wpAny_call (dedup_raises (mg := mg) (mb := mb) (h₀ := h₀) (X := X) G₀ B.stays (fun p hp => ⟨(N5 p hp).1, (hX p hp).2⟩) B.stack B.frames ha (by assumption) hh (by show A.depth + 1 < 860; omega) (by k_units) fun h8 tk8 e a0 fl u8 => ?_))
  have hlt : ∀ b o, (hideAll s.heap (frs outer)).get? b = some o → b ∉ frs outer ∧ b ≠ L ∧ s.heap.get? b = some o := fun b o q => by
    refine ⟨(fun hm => by rw [hideAll_none _ hm] at q; exact nomatch q), Nat.ne_of_lt (Nat.lt_of_lt_of_le (Heap.lt_size (of_hideAll _ q)) hszL), of_hideAll _ q⟩
  have hbb : ∀ b o, (hideAll s.heap (frs outer)).get? b = some o → (hideAll h₁ (frs (envOf "_law_refused" { kind := .function, names := [("rows", .local), ("_deduplicate", .globalImplicit), ("TypeError", .globalImplicit)], isGenerator := false, isCoroutine := false } L 805 (.ref 804) :: outer))).get? b = some o := fun b o q => by
    obtain ⟨x, y, z⟩ := hlt b o q
    refine hideAll_get _ (F7.keep b o z) fun hm => ?_
    obtain ⟨env, he, hf⟩ := List.mem_filterMap.mp hm
    rcases List.mem_cons.mp he with rfl | he
    · exact y (Option.some.inj hf).symm
    · exact x (List.mem_filterMap.mpr ⟨env, he, hf⟩)
  have F9 : Fr (hideAll s.heap (frs outer)) L h8 _ := ⟨u8.ns F5.ns, fun b o q => fl.1 b o (hbb b o q), by rw [hideAll_size]; exact hszL⟩
  refine caught_fly (T' := "TypeError") hfr hTT fl F9 hbb PyProof.Rows.Boot.«TypeError» PySem.F.isExc_TypeError PySem.F.notTuple_TypeError (by rw [isSubtype_type]; kernel_rfl) (fun h9 u9 F10 st9 => ?_)
  have N9 : News (hideAll s.heap (frs outer)) L h9 [] := News.nil
  k_steps
  refine h _ ⟨h9, _, rfl, fun b o n1 _ q => F10.keep b o (hideAll_get _ q n1), fun b o n1 _ q hnf => ?_⟩
  obtain ⟨sl, z⟩ := u8 b o (F7.keep b o q) hnf
  obtain ⟨sl2, z2⟩ := u9 b _ z hnf
  exact ⟨sl2, z2⟩
theorem stored_keys (kvs : List (Str × Value)) (x : Str) (v : Value) : (stored kvs x v).map (·.1) = if x ∈ kvs.map (·.1) then kvs.map (·.1) else kvs.map (·.1) ++ [x] := by
  unfold stored
  by_cases hx : x ∈ kvs.map (·.1)
  · rw [if_pos hx, if_pos]
    · rw [List.map_map]
      apply List.map_congr_left
      intro kv _
      show (if kv.1 = x then (kv.1, v) else kv).1 = kv.1
      split <;> rfl
    · obtain ⟨kv, hm, rfl⟩ := List.mem_map.mp hx
      exact List.any_eq_true.mpr ⟨kv, hm, by simp⟩
  · rw [if_neg hx, if_neg]
    · simp
    · intro h
      obtain ⟨kv, hm, e⟩ := List.any_eq_true.mp h
      exact hx (List.mem_map.mpr ⟨kv, hm, by simpa using e⟩)
theorem dd_fkv : ∀ (ws : List Str) (kvs : List (Str × Value)), dd ((kvs.map (·.1)).map Dat.str) (ws.map Dat.str) = ((fkv kvs ws).map (·.1)).map Dat.str
  | [], kvs => by simp [dd, fkv]
  | x :: r, kvs => by
    have ih := dd_fkv r (stored kvs x .none)
    rw [List.map_cons, dd]
    have e : fkv kvs (x :: r) = fkv (stored kvs x .none) r := rfl
    rw [e, ← ih, stored_keys]
    by_cases hx : x ∈ kvs.map (·.1)
    · rw [if_pos hx, if_pos (List.mem_map.mpr ⟨x, hx, rfl⟩)]
    · rw [if_neg hx, if_neg]
      · simp
      · intro h
        obtain ⟨y, hy, e⟩ := List.mem_map.mp h
        cases e
        exact hx hy
theorem fkv_len : ∀ (ws : List Str) (kvs : List (Str × Value)), (fkv kvs ws).length ≤ kvs.length + ws.length
  | [], kvs => by simp [fkv]
  | x :: r, kvs => by
    have := fkv_len r (stored kvs x .none)
    have := stored_len kvs x .none
    show (fkv (stored kvs x .none) r).length ≤ _
    simp only [List.length_cons]
    omega
theorem dedup_K {w : World} {A : Around} {E : Value → Shared → Prop} {s : Shared} {mg mb : Str → Option Value} {h₀ : Heap} {L a : Addr} {m : Str → Option Value} {news : List (Addr × Obj)} {vs : List Value} {c : Nat} {ws : List Str} {Q : Value → Shared → Prop}
    (F : Fr h₀ L s.heap m) (KX : (Mine.hd.heap_39 w.params).In h₀) (TT : TopRead Mine.hd.view_39 LO mg mb h₀) (N : News h₀ L s.heap news) (ha : (a, listOf vs.toArray c) ∈ news) (hs : StrAre vs ws) (hsz : vs.length ≤ 1000) (hh : A.handled = none) (hroom : A.depth < 870)
    (h : ∀ D o h' tk, Fr h₀ L h' m → News h₀ L h' ((D, o) :: news) → o.IsDictOf (PySem.strKind prog w) (fkv [] ws) → (D == sysModules) = false → (∀ p ∈ news, p.1 ≠ D) → Q (.ref D) { s with heap := h', toks := tk }) :
    wpAny (model prog w) A (call (.ref 52) [.ref a]) Q E s := by
  refine wpAny_call (dedup_ok (mg := mg) (mb := mb) (h₀ := h₀) ⟨KX, TT⟩ F.keep (N _ ha).1 (N _ ha).2.2 hs hsz hh hroom fun s' D hk hd hD0 h3 => ?_)
  obtain ⟨h', tk, rfl, F', N'⟩ := Keeps.use hk F N
  obtain ⟨o, ho, hdo⟩ := Heap.dictOf_iff.mp hd
  have hne : ∀ p ∈ news, p.1 ≠ D := fun p hp q => hD0 p.2 (q ▸ (N p hp).1)
  refine h D o h' tk F' (fun p hp => ?_) hdo ?_ hne
  · rcases List.mem_cons.mp hp with rfl | hp
    · refine ⟨ho, fun q => ?_, ?_⟩
      · obtain ⟨oL, _, _, hL, _⟩ := F.ns
        exact hD0 oL (by rw [show D = L from q]; exact hL)
      · cases e : h₀.get? D with
        | none => rfl
        | some o => exact absurd (F.keep _ _ e) (hD0 o)
    · exact N' p hp
  · show (D == 1) = false
    rw [Bool.eq_false_iff]
    intro q
    have q1 : D = 1 := eq_of_beq q
    subst q1
    exact absurd h3 (by decide)
theorem datStrs {X : List (Addr × Obj)} : ∀ {vs : List Value} {ws : List Str}, StrAre vs ws → DatAll X vs (ws.map Dat.str)
  | [], [], _ => .nil
  | _ :: _, _ :: _, h => by
    obtain ⟨⟨k, rfl⟩, r⟩ := h
    exact .cons (DatIn.str _ _) (datStrs r)
  | [], _ :: _, h => h.elim
  | _ :: _, [], h => h.elim
theorem strAre_of : ∀ {vs : List Value} {ws : List Str}, vs.length = ws.length → (∀ (j : Nat) (v : Value), vs[j]? = some v → ∃ t, v = Value.str (ws.getD j ("" : Str)) t) → StrAre vs ws
  | [], [], _, _ => trivial
  | v :: vs, x :: ws, hl, h => by
    refine ⟨?_, strAre_of (by simpa using hl) fun j y hy => ?_⟩
    · obtain ⟨t, e⟩ := h 0 v rfl
      exact ⟨t, by simpa using e⟩
    · have := h (j + 1) y (by simpa using hy)
      simpa using this
  | [], _ :: _, hl, _ => by simp at hl
  | _ :: _, [], hl, _ => by simp at hl
theorem listd_K {w : World} {A : Around} {E : Value → Shared → Prop} {s : Shared} {h₀ : Heap} {L D : Addr} {o : Obj} {m : Str → Option Value} {news : List (Addr × Obj)} {ws : List Str} {Q : Value → Shared → Prop}
    (F : Fr h₀ L s.heap m) (N : News h₀ L s.heap news) (hm : (D, o) ∈ news) (hd : o.IsDictOf (PySem.strKind prog w) (fkv [] ws)) (lo : (D == sysModules) = false) (hsz : ws.length ≤ 1000) (hh : A.handled = none)
    (h : ∀ D2 c h' tk vs, Fr h₀ L h' m → News h₀ L h' ((D2, listOf vs.toArray c) :: news) → (∀ p ∈ news, p.1 < D2) → StrAre vs ((fkv [] ws).map (·.1)) → vs.length ≤ 1000 → Q (.ref D2) { s with heap := h', toks := tk }) :
    wpAny (model prog w) A (call (.type "list") [.ref D]) Q E s := by
  have hl := fkv_len ws []
  simp only [List.length_nil, Nat.zero_add] at hl
  obtain ⟨es, ep, hc, hdd, hk, hp, hn⟩ := hd
  refine kdl_N (kdl_dict (knd := PySem.strKind prog w) (kvs := fkv [] ws) (ep := ep) lo) hh F N ⟨o, es, (N _ hm).1, hc, hdd, hk, hp, hn⟩ (by rw [sizeLine_eq]; omega) fun D2 c h' tk vs F' N' l1 hvl hv => ?_
  refine h D2 c h' tk vs F' N' l1 (strAre_of (by rw [hvl, List.length_map]) fun j v e => ?_) (by omega)
  obtain ⟨k, x, e1, e2⟩ := hv j v e
  have hkey : ((fkv [] ws).map (·.1)).getD j ("" : Str) = k := by
    rw [List.getD_eq_getElem?_getD, List.getElem?_map, e1]; rfl
  rw [hkey]
  cases v <;> simp [PySem.strKind, Value.isStrOf] at e2
  exact ⟨_, by rw [e2]⟩
def menuW (r : Int) : Str := if r = 0 then Str.ofString "a" else if r = 1 then Str.ofString "" else if r = 2 then Str.ofString " " else if r = 3 then Str.ofString "'" else Str.ofString "\""
def lnStep (st : List (List Str) × List Str) (x : Int) : List (List Str) × List Str :=
  if x % 7 = 5 then (st.1 ++ [st.2], []) else if x % 7 = 6 then (st.1, st.2 ++ st.2.drop (st.2.length - 1)) else (st.1, st.2 ++ [menuW (x % 7)])
def lnOf (ns : List Int) : List (List Str) × List Str := ns.foldl lnStep ([], [])
theorem lnOf_snoc (ns : List Int) (x : Int) : lnOf (ns ++ [x]) = lnStep (lnOf ns) x := by unfold lnOf; rw [List.foldl_append]; rfl
def lineD (ws : List Str) : Dat := Dat.list (ws.map Dat.str)
def linesOf (ns : List Int) : List (List Str) := (lnOf ns).1 ++ [(lnOf ns).2]
theorem item_back {w : World} {A : Around} {E : Value → Shared → Prop} {s : Shared} {h₀ : Heap} {L a : Addr} {news : List (Addr × Obj)} {us : List Value} {x : Value} {c : Nat} {t : Tok} {value slice : Expr} {Q : Value → Shared → Prop} (N : News h₀ L s.heap news) (hm : (a, listOf (us ++ [x]).toArray c) ∈ news)
    (h : Q x s) (hs : subscripted slice false (.ref a) (.int (-1) t) = operate [.ref a, .int (-1) t] (getItem (.ref a) (.int (-1) t)) := by with_unfolding_all rfl)
    (hg : ∀ r, letTemporaryGo value (.ref a) r = pure () := by intro _; with_unfolding_all rfl) : wpAny (model prog w) A (subscriptTail value slice (.ref a) (.int (-1) t)) Q E s :=
  kim_back N hm rfl rfl (by decide) (by simp; omega) (by decide) (by rw [show ((-1 : Int) + ((us ++ [x]).length : Int)).toNat = us.length by simp; omega]; simp) h hs hg
theorem lineN1_1 : True := by
  (k_with "subscriptTail" => (k_here; (with_reducible show wpAny _ _ (subscriptTail _ _ (Value.ref _) (Value.int (-1) _)) _ _ _); k_dflt (refine' item_back ?zqN ?zqm ?_; (case zqN => k_asm); (case zqm => (repeat (first | exact List.mem_cons_self | refine List.mem_cons_of_mem _ ?_))))))
  trivial
theorem menu_item {w : World} {A : Around} {E : Value → Shared → Prop} {s : Shared} {h₀ : Heap} {L a : Addr} {news : List (Addr × Obj)} {t1 t2 t3 t4 t5 : Tok} {c : Nat} {r : Int} {t : Tok} {value slice : Expr} {Q : Value → Shared → Prop} (N : News h₀ L s.heap news)
    (hm : (a, listOf #[.str (Str.ofString "a") t1, .str (Str.ofString "") t2, .str (Str.ofString " ") t3, .str (Str.ofString "'") t4, .str (Str.ofString "\"") t5] c) ∈ news) (h0 : 0 ≤ r) (h5 : r < 5)
    (h : ∀ t, Q (.str (menuW r) t) s) (hs : subscripted slice false (.ref a) (.int r t) = operate [.ref a, .int r t] (getItem (.ref a) (.int r t)) := by with_unfolding_all rfl)
    (hg : ∀ r', letTemporaryGo value (.ref a) r' = pure () := by intro _; with_unfolding_all rfl) : wpAny (model prog w) A (subscriptTail value slice (.ref a) (.int r t)) Q E s := by
  have h5' : r = 0 ∨ r = 1 ∨ r = 2 ∨ r = 3 ∨ r = 4 := by omega
  rcases h5' with rfl | rfl | rfl | rfl | rfl
  · exact kim_list (l := [_, _, _, _, _]) N hm rfl rfl (by decide) (by decide) rfl (h t1) hs hg
  · exact kim_list (l := [_, _, _, _, _]) N hm rfl rfl (by decide) (by decide) rfl (h t2) hs hg
  · exact kim_list (l := [_, _, _, _, _]) N hm rfl rfl (by decide) (by decide) rfl (h t3) hs hg
  · exact kim_list (l := [_, _, _, _, _]) N hm rfl rfl (by decide) (by decide) rfl (h t4) hs hg
  · exact kim_list (l := [_, _, _, _, _]) N hm rfl rfl (by decide) (by decide) rfl (h t5) hs hg
theorem lineN1_2 : True := by
  (k_with "subscriptTail" => (k_here; (with_reducible show wpAny _ _ (subscriptTail _ _ (Value.ref _) (Value.int (Int.fmod _ _) _)) _ _ _); k_dflt ((refine' menu_item ?zqN ?zqm ?zqh0 ?zqh5 ?_; (case zqN => k_asm); (case zqm => (repeat (first | exact List.mem_cons_self | refine List.mem_cons_of_mem _ ?_))); (case zqh0 => with_reducible assumption); (case zqh5 => with_reducible assumption)); intro _)))
  trivial
theorem IntsAre.at : ∀ {vs : List Value} {ns : List Int}, IntsAre vs ns → ∀ (i : Nat) (v : Value), vs[i]? = some v → ∃ n t, v = .int n t ∧ ns[i]? = some n := by
  intro vs ns h
  induction h with
  | nil => intro i v e; simp at e
  | cons n t _ ih =>
    intro i v e
    cases i with
    | zero => cases e; exact ⟨n, t, rfl, rfl⟩
    | succ i => simpa using ih i v (by simpa using e)
theorem fmod7 {n : Int} : n.fmod 7 = n % 7 := Int.fmod_eq_emod_of_nonneg _ (by decide)
theorem slice_back {w : World} {A : Around} {E : Value → Shared → Prop} {h : Heap} {gs : Array GenState} {dr : Drawn} {tk : Nat} {os : OsState} {h₀ : Heap} {L a : Addr} {m : Str → Option Value} {news : List (Addr × Obj)} {vs : List Value} {c : Nat} {t : Tok} {value slice : Expr} {Q : Value → Shared → Prop}
    (F : Fr h₀ L h m) (N : News h₀ L h news) (hm : (a, listOf vs.toArray c) ∈ news) (hz : vs.length ≤ 100000)
    (k : ∀ h' D, Fr h₀ L h' m → News h₀ L h' ((D, listOf (vs.drop (vs.length - 1)).toArray 0) :: news) → (∀ p ∈ news, p.1 ≠ D) → Q (.ref D) ⟨h', gs, dr, tk, os⟩)
    (hs : subscripted slice false (.ref a) (.ref h.objs.size) = operate [.ref h.objs.size, .ref a] (getItem (.ref a) (.ref h.objs.size)) := by with_unfolding_all rfl)
    (ht : ∀ r, letTemporaryGo value (.ref a) r = pure () := by intro _; with_unfolding_all rfl) :
    wpAny (model prog w) A (subscriptTail value slice (.ref a) (.ref h.objs.size)) Q E ⟨h.push { cls := .type "slice", data := .fields #[.int (-1) t, .none, .none] }, gs, dr, tk, os⟩ := by
  refine slice_list (s := ⟨h, gs, dr, tk, os⟩) (items := vs.toArray) (vl := .int (-1) t) (vu := .none) F N ⟨_, (N _ hm).1, rfl, _, rfl⟩ (.int _ _) .none (fun h' F' N' => ?_) hs ht (by rw [sizeLine_eq]; simp; omega)
  rw [show slicePick vs.toArray (some (-1)) none none = (vs.drop (vs.length - 1)).toArray by rw [show (-1 : Int) = -((1 : Nat) : Int) by decide, slicePick_last _ 1 (Nat.le_refl _)]; simp] at N'
  exact k h' _ F' N' fun p hp => Nat.ne_of_lt (Nat.lt_succ_of_lt (Heap.lt_size (N p hp).1))
theorem lineN1_3 : True := by
  (k_with "subscriptTail Name Slice ref ref" => (k_here; (with_reducible show wpAny _ _ (subscriptTail _ (Expr.Slice (some _) none none _) (Value.ref _) (Value.ref _)) _ _ _); k_dflt ((refine' slice_back ?zqF ?zqN ?zqm ?zqz ?_; (case zqF => k_asm); (case zqN => k_asm); (case zqm => (repeat (first | exact List.mem_cons_self | refine List.mem_cons_of_mem _ ?_))); (case zqz => omega)); intro _ _ _ _ _)))
  trivial
theorem mod_as {w : World} {A : Around} {E : Value → Shared → Prop} {s : Shared} {a b r : Int} {t u : Tok} {Q : Value → Shared → Prop} (hr : a.fmod b = r) (hb : b ≠ 0) (h : Q (.int r s.toks) { s with toks := s.toks + 1 }) : wpAny (model prog w) A (binaryOp .Mod (.int a t) (.int b u)) Q E s :=
  mod_int' hb (by rw [hr]; exact h)
theorem lineN1_4 : True := by
  (k_with "binaryOp Mod int int" => (k_here; (with_reducible refine' mod_as ?zqhr ?zqhb ?_); (case zqhr => with_reducible assumption); (case zqhb => decide)))
  trivial
theorem eq_no {w : World} {A : Around} {E : Value → Shared → Prop} {s : Shared} {a b : Int} {t u : Tok} {Q : Value → Shared → Prop} (hr : ¬ a = b) (h : Q (.bool false) s) : wpAny (model prog w) A (compareOp .Eq (.int a t) (.int b u)) Q E s :=
  eq_int (by rw [show (a == b) = false by simpa using hr]; exact h)
theorem lineN1_5 : True := by
  (k_with "compareOp Eq int int" => (k_here; (with_reducible refine' eq_no ?zqhr ?_); (case zqhr => with_reducible assumption)))
  trivial
theorem StrAre.append : ∀ {vs : List Value} {ts : List Str} {vs' : List Value} {ts' : List Str}, StrAre vs ts → StrAre vs' ts' → StrAre (vs ++ vs') (ts ++ ts')
  | [], [], _, _, _, k => k
  | _ :: _, _ :: _, _, _, h, k => ⟨h.1, StrAre.append h.2 k⟩
  | [], _ :: _, _, _, h, _ => h.elim
  | _ :: _, [], _, _, h, _ => h.elim
theorem StrAre.drop : ∀ {vs : List Value} {ts : List Str} (_ : StrAre vs ts) (n : Nat), StrAre (vs.drop n) (ts.drop n)
  | _, _, h, 0 => h
  | [], [], _, _ + 1 => trivial
  | _ :: _, _ :: _, h, n + 1 => StrAre.drop h.2 n
  | [], _ :: _, h, _ => h.elim
  | _ :: _, [], h, _ => h.elim
theorem news_drop1 {h₀ h : Heap} {L : Addr} {p : Addr × Obj} {l : List (Addr × Obj)} (N : News h₀ L h (p :: l)) : News h₀ L h l := fun q hq => N q (.tail _ hq)
set_option maxHeartbeats 4000000 in
theorem lines_ok {w : World} {A : Around} {s : Shared} {mg mb : Str → Option Value} {R : Result → Shared → Prop} {h₀ : Heap} {a : Addr} {vn : List Value} {c0 : Nat} {ns : List Int}
    (G₀ : Gd w mg mb h₀) (k₀ : ∀ b o, h₀.get? b = some o → s.heap.get? b = some o) (hl : s.heap.get? a = some (listOf vn.toArray c0)) (hl0 : h₀.get? a = none)
    (hi : IntsAre vn ns) (hsz : vn.length ≤ 1000) (hh : A.handled = none) (hroom : A.depth < 870) (hu : A.units + 100 < cLine)
    (h : ∀ s' D us c X, Keeps s s' → (D, listOf us.toArray c) ∈ X → (∀ p ∈ X, s'.heap.get? p.1 = some p.2 ∧ ∀ o, s.heap.get? p.1 ≠ some o) → DatAll X us ((linesOf ns).map lineD) → us.length ≤ vn.length + 1 → R (.ok (.ret (.ref D))) s') :
    codeAny (model prog w) A (.call (.ref 788) ⟨[.ref a], []⟩) R s := by
  have hX : ∀ p ∈ [(a, listOf vn.toArray c0)], s.heap.get? p.1 = some p.2 ∧ h₀.get? p.1 = none := fun p hp => by
    rcases List.mem_cons.mp hp with rfl | hp
    · exact ⟨hl, hl0⟩
    · cases hp
  refine' call_led G₀ k₀ (news := [(a, listOf vn.toArray c0)]) hX ?ho ?hcd ?hr ?hb ?hl ?_ ?c1 ?c2 ?c3 ?c4
  case ho => k_dflt k_is
  case hcd => k_dflt k_is
  case hr => k_room
  case hb => exact BindsTo.of_eq rfl
  case hl => exact locs rfl
  case c1 => rfl
  case c2 => rfl
  case c3 => rfl
  case c4 => decide
  intro g L h₁ kg F N KX TT
  k_steps
  rename_i tk1 lA h2 q1 lB h3 q2 h4 F0 N0
  refine hold_out (for_list (h₀ := g) (l := a) (items := vn.toArray) (J := fun i m Y gs dr os => ∃ Dl us c d vs c2 X pre last, m "lines" = some (.ref Dl) ∧ m "numbers" = some (.ref a) ∧ Y = (Dl, listOf (us ++ [.ref d]).toArray c) :: (d, listOf vs.toArray c2) :: (X ++ [(a, listOf vn.toArray c0)]) ∧ (Dl ≠ d ∧ (∀ p ∈ X, p.1 ≠ Dl ∧ p.1 ≠ d ∧ p.1 ≠ a) ∧ a ≠ Dl ∧ a ≠ d) ∧ DatAll X us (pre.map lineD) ∧ StrAre vs last ∧ lnOf (ns.take i) = (pre, last) ∧ us.length + vs.length ≤ i ∧ gs = s.gens ∧ dr = s.drawn ∧ os = s.os) (.inl hh) ?_ ?_ ?_ ?_)
  · rintro i m Y gs dr os hp _ N ⟨Dl, us, c, d, vs, c2, X, pre, last, _, _, rfl, _⟩
    exact ⟨_, (N _ (.tail _ (.tail _ (List.mem_append.mpr (.inr (.head _)))))).1, rfl, _, rfl⟩
  · refine ld F0 rfl ⟨_, _, rfl, F0, N0, _, [], _, _, [], _, [], [], [], rfl, rfl, rfl, ⟨?_, (fun p hp => nomatch hp), ?_, ?_⟩, DatAll.nil, trivial, rfl, Nat.zero_le _, rfl, rfl, rfl⟩
    · exact Nat.ne_of_gt q2.1
    · exact Nat.ne_of_lt q2.2
    · exact Nat.ne_of_lt q1
  · rintro i x m Y s' I o hx ⟨Dl, us, c, d, vs, c2, X, pre, last, hm1, hm2, rfl, ⟨hne1, hneX, hne2, hne3⟩, hda, hst, hln, hlen, hg, hdr, ho⟩ F2 N2 hI
    have hi' : vn[i]? = some x := by simpa using hx
    obtain ⟨n, t, rfl, hn⟩ := hi.at i x hi'
    have hvl := (List.getElem?_eq_some_iff.mp hi').1
    have hpI : I ≠ Dl := Ne.symm (hI (Dl, _) (.head _))
    have hpI2 : I ≠ d := Ne.symm (hI (d, _) (.tail _ (.head _)))
    have htk : lnOf (ns.take (i + 1)) = lnStep (pre, last) n := by rw [List.take_add_one, hn]; simp only [Option.toList_some]; rw [lnOf_snoc, hln]
    have hXd : ∀ p ∈ X ++ [(a, listOf vn.toArray c0)], p.1 ≠ d := fun p hp => by
      rcases List.mem_append.mp hp with q | q
      · exact (hneX p q).2.1
      · rw [List.mem_singleton.mp q]; exact hne3
    have hXD : ∀ p ∈ X ++ [(a, listOf vn.toArray c0)], p.1 ≠ Dl := fun p hp => by
      rcases List.mem_append.mp hp with q | q
      · exact (hneX p q).1
      · rw [List.mem_singleton.mp q]; exact hne2
    have h7 : (0 ≤ n.fmod 7 ∧ n.fmod 7 < 5) ∨ n.fmod 7 = 5 ∨ n.fmod 7 = 6 := by
      rw [Int.fmod_eq_emod_of_nonneg _ (by decide)]
      omega
    rcases h7 with ⟨h70, h75⟩ | h7 | h7
    · have h76 : ¬ n.fmod 7 = 5 := by omega
      have h77 : ¬ n.fmod 7 = 6 := by omega
      k_steps
      rename Fr g L _ _ => F3
      rename News g L _ _ => N3
      rename _ ∧ _ ∧ _ ∧ AllLt _ _ => l3
      refine app_K (pre := [_, _, _]) (D := d) (us := vs) (X := X ++ [(a, listOf vn.toArray c0)]) F3 N3 ?_ ?_ (by omega) fun h4 c4 F4 N4 => ?_
      · intro p hp
        simp only [List.mem_cons, List.mem_nil_iff, or_false] at hp
        rcases hp with rfl | rfl | rfl
        · exact Nat.ne_of_gt l3.2.2.1
        · exact hpI2
        · exact hne1
      · exact hXd
      k_steps
      have N5 := news_drop1 N4
      refine ⟨_, _, F4, N5, ?_, Dl, us, c, d, vs ++ [Value.str (menuW (n.fmod 7)) _], c4, X, pre, last ++ [menuW (n.fmod 7)], hm1, hm2, rfl, ⟨hne1, hneX, hne2, hne3⟩, hda, hst.snoc, ?_, by simp; omega, hg, hdr, ho⟩
      · intro p hp
        rcases List.mem_cons.mp hp with rfl | hp
        · exact Ne.symm hpI
        · rcases List.mem_cons.mp hp with rfl | hp
          · exact Ne.symm hpI2
          · exact hI p (.tail _ (.tail _ hp))
      · rw [htk, lnStep, ← fmod7, if_neg h76, if_neg h77]
    · k_steps
      rename Fr g L _ _ => F3
      rename News g L _ _ => N3
      rename _ ∧ _ ∧ _ ∧ AllLt _ _ => l3
      refine app_K (pre := [_, _]) (D := Dl) (us := us ++ [Value.ref d]) (X := (d, listOf vs.toArray c2) :: (X ++ [(a, listOf vn.toArray c0)])) F3 N3 ?_ ?_ (by simp; omega) fun h4 c4 F4 N4 => ?_
      · intro p hp
        simp only [List.mem_cons, List.mem_nil_iff, or_false] at hp
        rcases hp with rfl | rfl
        · exact Nat.ne_of_gt l3.2.1
        · exact hpI
      · intro p hp
        rcases List.mem_cons.mp hp with rfl | hp
        · exact Ne.symm hne1
        · exact hXD p hp
      k_steps
      have hAX := ktn_ltOf l3.2.2.2
      refine ⟨_, (Dl, listOf (us ++ [Value.ref d] ++ [Value.ref _]).toArray c4) :: (_, listOf (([] : List Value)).toArray 0) :: (((d, listOf vs.toArray c2) :: X) ++ [(a, listOf vn.toArray c0)]), F4, fun p hp => N4 p ?_, ?_, Dl, us ++ [Value.ref d], c4, _, [], 0, (d, listOf vs.toArray c2) :: X, pre ++ [last], [], hm1, hm2, rfl, ⟨Nat.ne_of_lt l3.2.1, ?_, hne2, ?_⟩, ?_, trivial, ?_, by simp; omega, hg, hdr, ho⟩
      · rcases List.mem_cons.mp hp with rfl | hp
        · exact .tail _ (.head _)
        · rcases List.mem_cons.mp hp with rfl | hp
          · exact .tail _ (.tail _ (.head _))
          · rcases List.mem_cons.mp hp with rfl | hp
            · exact .head _
            · exact .tail _ (.tail _ (.tail _ hp))
      · intro p hp
        rcases List.mem_cons.mp hp with rfl | hp
        · exact Ne.symm hpI
        · rcases List.mem_cons.mp hp with rfl | hp
          · exact Nat.ne_of_gt l3.1
          · exact hI p (.tail _ hp)
      · intro p hp
        rcases List.mem_cons.mp hp with rfl | hp
        · exact ⟨Ne.symm hne1, Nat.ne_of_lt l3.2.2.1, Ne.symm hne3⟩
        · exact ⟨(hneX p hp).1, Nat.ne_of_lt (hAX p (List.mem_append.mpr (.inl hp))), (hneX p hp).2.2⟩
      · exact Nat.ne_of_lt (hAX _ (List.mem_append.mpr (.inr (.head _))))
      · rw [List.map_append]
        exact (hda.mono fun p hp => .tail _ hp).append (.one (.list (.head _) (datStrs hst)))
      · rw [htk, lnStep, ← fmod7, if_pos h7]
    · k_steps
      rename Fr g L _ _ => F3
      rename News g L _ _ => N3
      rename ∀ p, p ∈ (I, o) :: _ → p.1 ≠ _ => l3
      refine extend_in (own := [_, _, _]) (D := d) (ys := vs) (rest := X ++ [(a, listOf vn.toArray c0)]) F3 N3 ?_ hXd (N3 _ (.head _)).1 (fun h4 c4 F4 N4 => ?_) (by rw [sizeLine_eq]; simp; omega)
      · intro p hp
        simp only [List.mem_cons, List.mem_nil_iff, or_false] at hp
        rcases hp with rfl | rfl | rfl
        · exact Ne.symm (l3 _ (.tail _ (.tail _ (.head _))))
        · exact hpI2
        · exact hne1
      k_steps
      have N5 := news_drop1 N4
      refine ⟨_, _, F4, N5, ?_, Dl, us, c, d, vs ++ vs.drop (vs.length - 1), c4, X, pre, last ++ last.drop (last.length - 1), hm1, hm2, rfl, ⟨hne1, hneX, hne2, hne3⟩, hda, hst.append (by rw [hst.length]; exact hst.drop _), ?_, by simp; omega, hg, hdr, ho⟩
      · intro p hp
        rcases List.mem_cons.mp hp with rfl | hp
        · exact Ne.symm hpI
        · rcases List.mem_cons.mp hp with rfl | hp
          · exact Ne.symm hpI2
          · exact hI p (.tail _ (.tail _ hp))
      · rw [htk, lnStep, ← fmod7, if_neg (by omega), if_pos h7]
  · rintro m Y s' ⟨Dl, us, c, d, vs, c2, X, pre, last, hm1, hm2, rfl, ⟨hne1, hneX, hne2, hne3⟩, hda, hst, hln, hlen, hg, hdr, ho⟩ F2 N2
    k_steps
    dsimp only
    have hnl : vn.toArray.size = ns.length := by rw [List.size_toArray]; exact hi.length
    rw [hnl, List.take_length] at hln
    have hs := shared_eq hg hdr ho
    rw [hs]
    have hna : ∀ p ∈ (Dl, listOf (us ++ [Value.ref d]).toArray c) :: (d, listOf vs.toArray c2) :: X, p.1 ≠ a ∧ p ∈ (Dl, listOf (us ++ [Value.ref d]).toArray c) :: (d, listOf vs.toArray c2) :: (X ++ [(a, listOf vn.toArray c0)]) := fun p hp => by
      rcases List.mem_cons.mp hp with rfl | hp
      · exact ⟨Ne.symm hne2, .head _⟩
      · rcases List.mem_cons.mp hp with rfl | hp
        · exact ⟨Ne.symm hne3, .tail _ (.head _)⟩
        · exact ⟨(hneX p hp).2.2, .tail _ (.tail _ (List.mem_append.mpr (.inl hp)))⟩
    refine h _ Dl (us ++ [Value.ref d]) c ((Dl, listOf (us ++ [Value.ref d]).toArray c) :: (d, listOf vs.toArray c2) :: X) ?_ (.head _) (fun p hp => ⟨(N2 p (hna p hp).2).1, fun o e => ?_⟩) ?_ (by rw [List.size_toArray] at hlen; simp; omega)
    · exact keeps_ledX (X := [(a, listOf vn.toArray c0)]) kg F2 N2 (fun p hp => (hX p hp).1) fun p hp => .tail _ (.tail _ (List.mem_append.mpr (.inr hp)))
    · have h1 := (N2 p (hna p hp).2).2.2
      rw [kg p.1 o (fun hm => (hna p hp).1 (by simpa using hm)) e] at h1
      cases h1
    · unfold linesOf
      rw [hln, List.map_append]
      exact (hda.mono fun p hp => .tail _ (.tail _ hp)).append (.one (.list (.tail _ (.head _)) (datStrs hst)))
section
variable {w : World} {A : Around} {E : Value → Shared → Prop} {s : Shared} {h₀ : Heap} {L l : Addr} {m : Str → Option Value} {env : Env} {items : Array Value} {Q : Value → Shared → Prop}
def CompIn (h₀ : Heap) (L : Addr) (m : Str → Option Value) (l : Addr) (J : List (Addr × Obj) → Array GenState → Drawn → OsState → Prop) (xv : Value) (s₁ : Shared) : Prop := ∃ X, xv = .ref l ∧ Fr h₀ L s₁.heap m ∧ News h₀ L s₁.heap X ∧ J X s₁.gens s₁.drawn s₁.os
def CompOut (h₀ : Heap) (L : Addr) (m : Str → Option Value) (I : Addr) (oI : Obj) (C : Addr) (oC : Obj) (D : Addr) (ys : List Value) (J : Value → List (Addr × Obj) → Array GenState → Drawn → OsState → Prop) (y : Value) (s₂ : Shared) : Prop :=
  ∃ X', Fr h₀ L s₂.heap m ∧ News h₀ L s₂.heap ((I, oI) :: (C, oC) :: (D, LCg.lst ys) :: X') ∧ LCg.Off3 I C D X' ∧ J y X' s₂.gens s₂.drawn s₂.os
theorem comp_J {elt iter : Expr} {x : Str} {px : Pos} {scope : Scope} {pos : Pos} (F₀ : Fr h₀ L s.heap m) (J : Nat → List Value → List (Addr × Obj) → Array GenState → Drawn → OsState → Prop) (hh : A.handled = none) (hsz : items.size ≤ 100000)
    (hclos : closureFor scope env = pure []) (hcell : ∀ y ∈ scope.names, y.2 ≠ .cell) (hkind : scope.kind = .function)
    (hnames : ∀ y ∈ scope.names, y.2 = .local → scope.names.lookup y.1 = some .local) (hx : scope.names.lookup x = some .local)
    (hL : ∀ i ys X g d o h, Fr h₀ L h m → News h₀ L h X → J i ys X g d o → h.IsList l items)
    (h : wpAny (model prog w) A (eval iter env) (CompIn h₀ L m l (J 0 [])) E s)
    (turn : ∀ i v ys X s' I oI C oC D m₂ (E' : Value → Shared → Prop), items[i]? = some v → J i ys X s'.gens s'.drawn s'.os → LCg.NsObj oC m₂ → m₂ x = some v → Fr h₀ L s'.heap m → News h₀ L s'.heap ((I, oI) :: (C, oC) :: (D, LCg.lst ys) :: X) → LCg.Off3 I C D X → (I ≠ C ∧ I ≠ D ∧ C ≠ D) →
      wpAny (model prog w) A (eval elt (compEnvC scope [] C env)) (CompOut h₀ L m I oI C oC D ys fun y => J (i + 1) (ys ++ [y])) E' s')
    (done : ∀ D ys X s', J items.size ys X s'.gens s'.drawn s'.os → Fr h₀ L s'.heap m → News h₀ L s'.heap ((D, LCg.lst ys) :: X) → (∀ p ∈ X, p.1 ≠ D) → Q (.ref D) s')
    (hs : ∀ x, foldedSetIterable iter env x = pure x := by intro _; rfl) :
    wpAny (model prog w) A (eval (.ListComp elt [⟨.Name x px, iter, [], 0⟩] scope pos) env) Q E s := by
  rw [eval_ListComp]
  refine wpAny_comprehension_free (use := none) rfl hs hclos hkind hnames (wpAny_mono h (fun xv s₁ h₁ => ?_) fun _ _ e => e)
  obtain ⟨X, rfl, F, N, hJ⟩ := h₁
  have hl := hL _ _ _ _ _ _ _ F N hJ
  have hlt : l < s₁.heap.objs.size := by obtain ⟨_, e, _⟩ := hl; exact Heap.lt_size e
  refine wpAny_pyIter_list hl ?_
  refine wpAny_newObj_type (wpAny_newFunctionEnv hcell (by intro y hy; simp at hy) (fun h₁ hns₁ hsb₁ => ?_) hkind)
  dsimp only at hns₁ hsb₁ ⊢
  have up1 : ∀ b o, s₁.heap.get? b = some o → (s₁.heap.push { cls := .type "list_iterator", data := .fields #[.ref l, .int 0 0] }).get? b = some o := fun b o e => Heap.get?_push_of_some _ e
  have hI1 : (s₁.heap.push { cls := .type "list_iterator", data := .fields #[.ref l, .int 0 0] }).get? s₁.heap.objs.size = some { cls := .type "list_iterator", data := .fields #[.ref l, .int 0 0] } := Heap.get?_push_size _ rfl
  generalize hHI : s₁.heap.push { cls := .type "list_iterator", data := .fields #[.ref l, .int 0 0] } = HI at hns₁ hsb₁ up1 hI1 ⊢
  have hIs : HI.objs.size = s₁.heap.objs.size + 1 := by rw [← hHI, Heap.size_push]
  have hsI : ∀ b o, s₁.heap.get? b = some o → b < s₁.heap.objs.size := fun b o e => Heap.lt_size e
  have hLI : L < s₁.heap.objs.size := F.ns.lt
  generalize s₁.heap.objs.size = I at *
  have up2 : ∀ b o, HI.get? b = some o → (HI.push { cls := .type "list", dict := none, data := .seq ([] : List Value).toArray }).get? b = some o := fun b o e => Heap.get?_push_of_some _ e
  have hD1 : (HI.push { cls := .type "list", dict := none, data := .seq ([] : List Value).toArray }).get? HI.objs.size = some (LCg.lst []) := Heap.get?_push_size _ rfl
  generalize hHD : HI.push { cls := .type "list", dict := none, data := .seq ([] : List Value).toArray } = HD at hns₁ hsb₁ up2 hD1 ⊢
  have hDs : HD.objs.size = HI.objs.size + 1 := by rw [← hHD, Heap.size_push]
  generalize hD : HI.objs.size = D at *
  generalize hC : HD.objs.size = C at *
  have hID : I < D := by omega
  have hDC : D < C := by omega
  have hIC : I < C := Nat.lt_trans hID hDC
  have up3 : ∀ b o, b < C → HD.get? b = some o → h₁.get? b = some o := fun b o hb e => hsb₁.extBut b o (Nat.ne_of_lt hb) (Heap.get?_push_of_some _ e)
  have old : ∀ b o, s₁.heap.get? b = some o → h₁.get? b = some o := fun b o e => up3 b o (Nat.lt_trans (hsI _ _ e) hIC) (up2 b o (up1 b o e))
  have fresh : ∀ a, I ≤ a → h₀.get? a = none := fun a ha => by
    cases e : h₀.get? a with
    | none => rfl
    | some o' => exact absurd (hsI _ _ (F.keep a o' e)) (Nat.not_lt.mpr ha)
  have hXI : ∀ p ∈ X, p.1 < I := fun p hp => hsI _ _ (N p hp).1
  have hlI : l ≠ I := Nat.ne_of_lt hlt
  have hCn : h₀.get? C = none := fresh _ (Nat.le_of_lt hIC)
  have hDn : h₀.get? D = none := fresh _ (Nat.le_of_lt hID)
  have hIn : h₀.get? I = none := fresh _ (Nat.le_refl _)
  have hCL : C ≠ L := Nat.ne_of_gt (Nat.lt_trans hLI hIC)
  have hDL : D ≠ L := Nat.ne_of_gt (Nat.lt_trans hLI hID)
  have hIL : I ≠ L := Nat.ne_of_gt hLI
  have loop : ∀ s₃ : Shared, s₃ = { s₁ with heap := h₁, toks := s₁.toks + ([] : List (Str × Value)).length } →
      codeAny (model prog w) A (.compLoop (.ListComp elt [⟨.Name x px, iter, [], 0⟩] scope pos) 0 (.ref I) (.ref D) (compEnvC scope [] C env)) (compPost (model prog w) A E none Q (.ref D) C) s₃ := by
    rintro s₃ rfl
    refine codeAny_compLoop_tests
      (fun k s' => ∃ i ys X m' oI, i ≤ items.size ∧ k = items.size + 1 - i ∧ ys.length = i ∧ Fr h₀ L s'.heap m ∧ s'.heap.Ns C m' ∧ News h₀ L s'.heap ((I, oI) :: (D, LCg.lst ys) :: X) ∧ LCg.Off3 I C D X ∧ iterO oI l i ∧ J i ys X s'.gens s'.drawn s'.os) ?_ (items.size + 1)
      ⟨0, [], X, _, { cls := .type "list_iterator", data := .fields #[.ref l, .int 0 0] }, Nat.zero_le _, rfl, rfl, F.keeps old, hns₁, fun p hp => ?_, LCg.Off3.of fun p hp => ?_, ⟨rfl, rfl⟩, hJ⟩
    · rintro k s' ⟨i, ys, X, m', oI, hi, rfl, hyl, F', hn', N', off, hIt, hJ'⟩
      have NI := N' _ (.head _)
      have NX : News h₀ L s'.heap X := fun p hp => N' p (.tail _ (.tail _ hp))
      have hit : s'.heap.IsListIter I l i := ⟨oI, NI.1, hIt.1, hIt.2⟩
      have hlist := hL _ _ _ _ _ _ _ F' NX hJ'
      by_cases hlt : i < items.size
      · refine wpAny_pyNext_list_item hit hlist (x := items[i]) (by simp [hlt]) fun h₂ hit₂ hs₂ => ?_
        obtain ⟨oI₂, heI, hcI, hdI⟩ := hit₂
        have F₂ := fr_but F' (fun b o hb e => hs₂.extBut b o hb e) hIL hIn
        have N₂ : News h₀ L h₂ ((D, LCg.lst ys) :: X) := news_but (fun p hp => N' p (.tail _ hp)) (fun b o hb e => hs₂.extBut b o hb e) fun p hp => by
          rcases List.mem_cons.mp hp with rfl | hp
          · exact Nat.ne_of_gt hID
          · exact (off.mem p hp).1
        refine wpAny_assign_Name (wpAny_storeName_local (lookup_relabel_local hx) (hn'.at' fun o e => hs₂.extBut _ o (Nat.ne_of_gt hIC) e) (fun h₃ hn₃ hs₃ => ?_) (by simp [compEnvC, relabel, hkind]))
        refine wpAny_tests_nil ?_
        simp only [if_true]
        obtain ⟨oC, heC, hoC⟩ := LCg.ns_obj hn₃
        have F₃ : Fr h₀ L h₃ m := F₂.change hs₃ hCL hCn
        have N₃ : News h₀ L h₃ ((I, oI₂) :: (C, oC) :: (D, LCg.lst ys) :: X) := fun p hp => by
          rcases List.mem_cons.mp hp with rfl | hp
          · exact ⟨hs₃.extBut _ _ (Nat.ne_of_lt hIC) heI, hIL, hIn⟩
          · rcases List.mem_cons.mp hp with rfl | hp
            · exact ⟨heC, hCL, hCn⟩
            · have z := N₂ p hp
              refine ⟨hs₃.extBut _ _ ?_ z.1, z.2⟩
              rcases List.mem_cons.mp hp with rfl | hp
              · exact Nat.ne_of_lt hDC
              · exact (off.mem p hp).2.1
        refine wpAny_mono (turn i items[i] ys X _ I oI₂ C oC D _ _ (by simp [hlt]) hJ' hoC (by simp) F₃ N₃ off ⟨Nat.ne_of_lt hIC, Nat.ne_of_lt hID, Nat.ne_of_gt hDC⟩) (fun y s₄ h₄ => ?_) fun _ _ e => e
        obtain ⟨X', F₄, N₄, off', hJ₄⟩ := h₄
        have zD := (N₄ (D, LCg.lst ys) (.tail _ (.tail _ (.head _)))).1
        have zC := (N₄ (C, oC) (.tail _ (.head _))).1
        refine append_at (hsz := by show ys.toArray.size ≤ sizeLine; rw [List.size_toArray, hyl, sizeLine_eq]; omega) zD fun h₅ hs₅ hD₅ => ?_
        refine ⟨items.size + 1 - (i + 1), by omega, i + 1, ys ++ [y], X', _, oI₂, hlt, rfl, by rw [List.length_append, List.length_singleton, hyl], F₄.change hs₅ hDL hDn, (hoC.ns zC).sameBut hs₅ (Nat.ne_of_gt hDC), fun p hp => ?_, off', ⟨hcI, hdI⟩, hJ₄⟩
        rcases List.mem_cons.mp hp with rfl | hp
        · exact ⟨hs₅.extBut _ _ (Nat.ne_of_lt hID) (N₄ _ (.head _)).1, hIL, hIn⟩
        · rcases List.mem_cons.mp hp with rfl | hp
          · exact ⟨hD₅.trans (congrArg some (LCg.lst_snoc ys y)), hDL, hDn⟩
          · exact ⟨hs₅.extBut _ _ (off'.mem p hp).2.2 (N₄ p (.tail _ (.tail _ (.tail _ hp)))).1, (N₄ p (.tail _ (.tail _ (.tail _ hp)))).2⟩
      · obtain rfl : i = items.size := Nat.le_antisymm hi (Nat.not_lt.mp hlt)
        refine wpAny_pyNext_list_end hh hit hlist (by simp) fun h₂ hx₂ => ?_
        refine ⟨m', hn'.at' fun o e => hx₂ _ o (Nat.ne_of_gt hIC) e, fun h₃ hs₃ => ?_⟩
        have F₂ := fr_but F' (fun b o hb e => hx₂ b o hb e) hIL hIn
        refine done D ys X _ hJ' (F₂.change hs₃ hCL hCn) (fun p hp => ?_) fun p hp => (off.mem p hp).2.2
        have z := N' p (.tail _ hp)
        refine ⟨hs₃.extBut _ _ ?_ (hx₂ _ _ ?_ z.1), z.2⟩
        · rcases List.mem_cons.mp hp with rfl | hp
          · exact Nat.ne_of_lt hDC
          · exact (off.mem p hp).2.1
        · rcases List.mem_cons.mp hp with rfl | hp
          · exact Nat.ne_of_gt hID
          · exact (off.mem p hp).1
    · rcases List.mem_cons.mp hp with rfl | hp
      · exact ⟨up3 _ _ hIC (up2 _ _ hI1), hIL, hIn⟩
      · rcases List.mem_cons.mp hp with rfl | hp
        · exact ⟨up3 _ _ hDC hD1, hDL, hDn⟩
        · exact ⟨old _ _ (N p hp).1, (N p hp).2⟩
    · have := hXI p hp
      exact ⟨Nat.ne_of_lt this, Nat.ne_of_lt (Nat.lt_trans this hIC), Nat.ne_of_lt (Nat.lt_trans this hID)⟩
  exact codeAny_compStart_list (loop _ rfl) (wpAny_pyIter_listiter ⟨_, up3 _ _ hIC (up2 _ _ hI1), rfl, rfl⟩ (loop _ rfl))
end
def ForIn (h₀ : Heap) (L l : Addr) (J : (Str → Option Value) → List (Addr × Obj) → Array GenState → Drawn → OsState → Prop) (xv : Value) (s₁ : Shared) : Prop := ∃ m X, xv = .ref l ∧ Fr h₀ L s₁.heap m ∧ News h₀ L s₁.heap X ∧ J m X s₁.gens s₁.drawn s₁.os
section
variable {w : World} {A : Around} {E : Value → Shared → Prop} {s : Shared} {h₀ : Heap} {env : Env} {L l : Addr} {v : Str} {px pos : Pos} {iter : Expr} {body : List Stmt} {items : Array Value} {Q : Flow → Shared → Prop}
theorem for_gen (J : Nat → (Str → Option Value) → List (Addr × Obj) → Array GenState → Drawn → OsState → Prop) (hh : HandOk A h₀)
    (hL : ∀ i m X g d o h, Fr h₀ L h m → News h₀ L h X → J i m X g d o → h.IsList l items)
    (h : wpAny (model prog w) A (eval iter env) (ForIn h₀ L l (J 0)) E s)
    (turn : ∀ i x m X s' I o, items[i]? = some x → J i m X s'.gens s'.drawn s'.os → Fr h₀ L s'.heap m → News h₀ L s'.heap ((I, o) :: X) → (∀ p ∈ X, p.1 ≠ I) →
      wpAny (model prog w) A (assign (.Name v px) env x) (fun _ s₂ => wpAny (model prog w) A (execs body env) (ForPost h₀ L I o J Q i) E s₂) E s')
    (done : ∀ m X s', J items.size m X s'.gens s'.drawn s'.os → Fr h₀ L s'.heap m → News h₀ L s'.heap X → Q .next s')
    (hs : ∀ x, foldedSetIterable iter env x = pure x := by intro _; rfl)
    (hE : PassesOwn (model prog w) A env E := by passes_own) :
    wpAny (model prog w) A (exec (.For (.Name v px) iter body [] pos) env) Q E s := by
  refine wpAny_For (wpAny_mono h (fun xv s₁ h₁ => ?_) fun _ _ z => z) hs
  obtain ⟨m, X, rfl, F, N, hJ⟩ := h₁
  refine wpAny_pyIter_list (hL _ _ _ _ _ _ _ F N hJ) ?_
  have kp : ∀ b o, s₁.heap.get? b = some o → (s₁.heap.push { cls := .type "list_iterator", data := .fields #[.ref l, .int 0 0] }).get? b = some o := fun b o e => Heap.get?_push_of_some _ e
  have N₂ := N.push F { cls := .type "list_iterator", data := .fields #[.ref l, .int 0 0] }
  have hX₂ : ∀ p ∈ X, p.1 ≠ s₁.heap.objs.size := fun p hp => Nat.ne_of_lt (Heap.lt_size (N p hp).1)
  generalize hI : s₁.heap.objs.size = I at *
  refine codeAny_forLoop (R := fun r s' => match r with | .ok f' => Q f' s' | .error e => cameBackBy (model prog w) A env E e s')
    (fun k s' => ∃ i m X o, k + i = items.size ∧ Fr h₀ L s'.heap m ∧ News h₀ L s'.heap ((I, o) :: X) ∧ (∀ p ∈ X, p.1 ≠ I) ∧ iterO o l i ∧ J i m X s'.gens s'.drawn s'.os) ?_ items.size
    ⟨0, m, X, _, rfl, F.keeps kp, N₂, hX₂, ⟨rfl, rfl⟩, hJ⟩
  rintro k s' ⟨i, m, X, o, hk', F, N, hX, ho, hJ⟩
  have hI' := N _ (.head _)
  have NX : News h₀ L s'.heap X := fun p hp => N p (.tail _ hp)
  have hit : s'.heap.IsListIter I l i := ⟨o, hI'.1, ho.1, ho.2⟩
  have hlist := hL _ _ _ _ _ _ _ F NX hJ
  cases k with
  | zero =>
    have hi : i = items.size := by omega
    subst hi
    refine wpAny_passesOwn hE (next_endH ((hh.keeps F.keep).of rfl) hit hlist (by simp) (fun e he => ?_) fun h' hx => ?_)
    · rcases hh with q | ⟨e', oe, fs, a, b, c, d⟩
      · rw [show A.handled = some (.ref e) from he] at q; cases q
      · rw [show A.handled = some (.ref e) from he] at a
        cases a
        exact fun q => by rw [q, hI'.2.2] at b; cases b
    exact wpAny_execs_nil (done m X _ hJ (fr_but F (fun b o hb e => hx b o hb e) hI'.2.1 hI'.2.2) (news_but NX (fun b o hb e => hx b o hb e) hX))
  | succ k =>
    have hlt : i < items.size := by omega
    refine wpAny_passesOwn hE (wpAny_pyNext_list_item hit hlist (x := items[i]) (by simp [hlt]) fun h' hit' hs' => ?_)
    obtain ⟨o', ho', hc', hd'⟩ := hit'
    have F' := fr_but F (fun b o hb e => hs'.extBut b o hb e) hI'.2.1 hI'.2.2
    have N' : News h₀ L h' ((I, o') :: X) := fun p hp => by
      rcases List.mem_cons.mp hp with rfl | hp
      · exact ⟨ho', hI'.2⟩
      · exact news_but NX (fun b o hb e => hs'.extBut b o hb e) hX p hp
    refine wpAny_passesOwn hE (wpAny_mono (turn i items[i] m X _ I o' (by simp [hlt]) hJ F' N' hX) (fun _ s₂ h₂ => ?_) fun _ _ z => z)
    refine wpAny_passesOwn hE (wpAny_mono h₂ (fun fl s₃ h₃ => ?_) fun _ _ z => z)
    cases fl with
    | next =>
      obtain ⟨m', X', a, b, c, d⟩ := h₃
      exact ⟨k, Nat.lt_succ_self k, i + 1, m', X', o', by omega, a, b, c, ⟨hc', hd'⟩, d⟩
    | cont =>
      obtain ⟨m', X', a, b, c, d⟩ := h₃
      exact ⟨k, Nat.lt_succ_self k, i + 1, m', X', o', by omega, a, b, c, ⟨hc', hd'⟩, d⟩
    | brk => exact h₃
    | ret _ => exact h₃
end
theorem in_hide {w : World} {h : Heap} (X : (Mine.hd.heap_39 w.params).In h) : (Mine.hd.heap_39 w.params).In (hideAll h [768]) := fun a o e =>
  hideAll_get _ (X a o e) fun hm => by
    have h768 : (Mine.hd.heap_39 w.params).lookup 768 = none := by first | rfl | kernel_rfl
    rw [List.mem_singleton.mp hm, h768] at e
    cases e
theorem ns_hide {h : Heap} {a : Addr} {m : Str → Option Value} (x : h.Ns a m) (ha : a ≠ 768) : (hideAll h [768]).Ns a m := by
  obtain ⟨o, es, ep, ho, r⟩ := x
  exact ⟨o, es, ep, hideAll_get _ ho (fun hm => ha (List.mem_singleton.mp hm)), r⟩
theorem top_hide {mg mb : Str → Option Value} {h : Heap} (T : TopRead Mine.hd.view_39 LO mg mb h) : TopRead Mine.hd.view_39 LO mg mb (hideAll h [768]) :=
  ⟨ns_hide T.g (by decide), ns_hide T.b (by decide), (by obtain ⟨mc, h1, h2⟩ := T.nolimit; exact ⟨mc, ns_hide h1 (by decide), h2⟩), T.builtins, T.free⟩
theorem hideAll_le_none {h : Heap} {as : List Addr} {a : Addr} (e : h.get? a = none) : (hideAll h as).get? a = none := by
  cases q : (hideAll h as).get? a with
  | none => rfl
  | some o => have := of_hideAll _ q; rw [e] at this; cases this
theorem use_J {s s' : Shared} {g : Heap} {L : Addr} {m : Str → Option Value} {ps : Array Value} {Y : List (Addr × Obj)} (F : Fr g L s.heap m) (N : News g L s.heap ((768, tabO ps) :: Y)) (hY : ∀ p ∈ Y, p.1 ≠ 768) (k : KpJ s s') :
    ∃ ps', Fr g L s'.heap m ∧ News g L s'.heap ((768, tabO ps') :: Y) ∧ TabOk ps' ∧ AllBare s'.gens ∧ s'.os = s.os := by
  obtain ⟨k1, ⟨ps', h1, h2⟩, h3, h4⟩ := k
  have z := N _ (.head _)
  refine ⟨ps', ⟨F.ns.at fun o e => k1 _ o (Ne.symm z.2.1) e, fun b o e => k1 b o (fun q => by rw [q, z.2.2] at e; cases e) (F.keep b o e), F.above⟩, fun p hp => ?_, h2, h3, h4⟩
  rcases List.mem_cons.mp hp with rfl | hp
  · exact ⟨h1, z.2⟩
  · exact ⟨k1 _ _ (hY p hp) (N p (.tail _ hp)).1, (N p (.tail _ hp)).2⟩
theorem use_X {s s' : Shared} {g : Heap} {L : Addr} {m : Str → Option Value} {env : Env} {news : List (Addr × Obj)} (hf : env.frame = some L) (F : Fr g L s.heap m) (N : News g L s.heap news) (k : KeepsX (frs [env]) [] s s') :
    ∃ h' tk, s' = { s with heap := h', toks := tk } ∧ Fr g L h' m ∧ News g L h' news := by
  obtain ⟨h', tk, rfl, k1, k2⟩ := k
  have hfr : frs [env] = [L] := by simp [frs, hf]
  rw [hfr] at k1 k2
  obtain ⟨o, es, ep, ho, hd, r⟩ := F.ns
  obtain ⟨sl, e⟩ := k2 L o (.head _) (fun q => nomatch q) ho (fun vs q => by rw [hd] at q; cases q)
  have hLn : g.get? L = none := Heap.get?_none_of_le F.above
  refine ⟨h', tk, rfl, ⟨⟨_, es, ep, e, hd, r⟩, fun b o q => k1 b o (fun hm => by rw [List.mem_singleton.mp hm, hLn] at q; cases q) (fun q => nomatch q) (F.keep b o q), F.above⟩, fun p hp => ?_⟩
  exact ⟨k1 _ _ (fun hm => (N p hp).2.1 (List.mem_singleton.mp hm)) (fun q => nomatch q) (N p hp).1, (N p hp).2⟩
theorem frames_one {h g : Heap} {L : Addr} {m : Str → Option Value} {env : Env} (F : Fr g L h m) (hf : env.frame = some L) (hk : env.scope.kind = .function) : h.FunFrames g [env] := by
  obtain ⟨o, es, ep, ho, hd, r⟩ := F.ns
  exact ⟨by rw [hk]; decide, ⟨L, o, hf, Heap.get?_none_of_le F.above, ho, fun vs q => by rw [hd] at q; cases q⟩, trivial⟩
theorem join_tab {w : World} {mean : ExcName → Option Value} {mg mb : Str → Option Value} {h : Heap} (KX : (Mine.hd.heap_39 w.params).In h) (T : Top Mine.hd.view_39 LO mean mg mb h) : h.get? 768 = some (tabO #[]) ∧ isCodeTable h 768 := by
  have hj : ∃ d ∈ recsOf Mine.hd.view_39, d.name = Str.ofString "join" := by
    have : Str.ofString "join" ∈ (recsOf Mine.hd.view_39).map (·.name) := by decide +kernel
    obtain ⟨d, hd, e⟩ := List.mem_map.mp this
    exact ⟨d, hd, e⟩
  obtain ⟨d, hd, e⟩ := hj
  obtain ⟨a, o, fd, c, P, h1, h2, h3, h4, h5, h6⟩ := T.tab d hd
  rw [e] at h1
  have hm : mg (Str.ofString "join") = some (.ref 773) := mg_of (v := .ref 773) KX T.g (by k_dflt k_is)
  rw [hm] at h1
  cases h1
  obtain ⟨oc, od, vs, sl, file, tf, flags, tg, inF, text, tt, hc, rfl, e1, e2, _⟩ := code772 (w := w)
  have hf : ∃ oc2 od2 name qual params body scope dV kV doc pm an ct osl, (Mine.hd.heap_39 w.params).lookup 773 = some ⟨oc2, od2, .func (fnOf name qual params body scope dV kV doc pm an (.ref 772) ct), osl⟩ := ⟨_, _, _, _, _, _, _, _, _, _, _, _, _, _, by k_dflt k_is⟩
  obtain ⟨oc2, od2, name, qual, params, body, scope, dV, kV, doc, pm, an, ct, osl, hf⟩ := hf
  rw [KX _ _ hf] at h2
  cases h2
  cases h3
  cases h4
  have h6' := h6.isCodeTable
  obtain ⟨⟨o2, vs2, q1, q2, q3, q4⟩, q5⟩ := h6
  rw [KX _ _ hc] at q1
  cases q1
  cases q3
  rw [e1] at q4
  cases q4
  exact ⟨q5, h6'⟩
theorem old_hide {h h' : Heap} {ps : Array Value} (ht : h.get? 768 = some (tabO #[])) (hc : isCodeTable h 768) (k : ∀ b o, (hideAll h [768]).get? b = some o → h'.get? b = some o) (h9 : h'.get? 768 = some (tabO ps)) : OldK h h' := by
  refine ⟨fun b o e => ?_, fun b o e => ?_⟩
  · by_cases hb : b = 768
    · subst hb
      rw [ht] at e
      cases e
      exact .inr (.inl ⟨hc, rfl, #[], ps, rfl, by simpa using h9⟩)
    · exact .inl (k b o (hideAll_get _ e fun hm => hb (List.mem_singleton.mp hm)))
  · by_cases hb : b = 768
    · exact ⟨_, hb ▸ h9⟩
    · exact ⟨o, k b o (hideAll_get _ e fun hm => hb (List.mem_singleton.mp hm))⟩
theorem str_app_list (x y : Str) : (x ++ y).cps.toList = x.cps.toList ++ y.cps.toList := by
  show (Str.append x y).cps.toList = _
  unfold Str.append
  simp
theorem join3 (sep a b : Str) (r : List Str) : Txt.join sep (a :: b :: r) = a ++ sep ++ Txt.join sep (b :: r) := by
  unfold Txt.join
  rw [StrLaws.glued_eq_join, StrLaws.glued_eq_join]
  rfl
theorem go_word {x : Str} (hw : W5 x) : ∃ b, (!b && (x == sE)) = false ∧ (∀ cs, Go sA x b (32 :: cs) (some sSP) x b 1) ∧ Go sA x b [] none x b 0 ∧
    ∀ cs f t q n, Go sA x b cs f t q n → Go sSP sE false ((qt x).cps.toList ++ cs) f t q (n + (qt x).cps.toList.length) := by
  have eSP : (sE ++ Str.mk #[32] : Str) = Str.ofString " " := by decide +kernel
  have eQ : (sE ++ Str.mk #[39] : Str) = Str.ofString "'" := by decide +kernel
  have eD : (sE ++ Str.mk #[34] : Str) = Str.ofString "\"" := by decide +kernel
  have l0 : sE.length < 100000 := by decide +kernel
  cases hw with
  | a =>
    have h1 : (qt (Str.ofString "a")).cps.toList = [97] := by decide +kernel
    have h2 : Str.ofString "a" = Str.mk #[97] := by decide +kernel
    refine ⟨false, by decide +kernel, fun cs => ?_, .a_end, fun cs f t q n h => ?_⟩
    · rw [h2]; exact .a_sp_f
    · rw [h1]; rw [h2] at h; exact .sp_a h
  | e =>
    have h1 : (qt (Str.ofString "")).cps.toList = [39, 39] := by decide +kernel
    refine ⟨true, by decide +kernel, fun cs => .a_sp_t (by decide +kernel), .a_end, fun cs f t q n h => ?_⟩
    rw [h1]
    exact .sp_q (.q_close h)
  | sp =>
    have h1 : (qt (Str.ofString " ")).cps.toList = [39, 32, 39] := by decide +kernel
    refine ⟨true, by decide +kernel, fun cs => .a_sp_t (by decide +kernel), .a_end, fun cs f t q n h => ?_⟩
    rw [h1]
    exact .sp_q (.q_sp l0 (.q_close (by rw [eSP]; exact h)))
  | q =>
    have h1 : (qt (Str.ofString "'")).cps.toList = [39, 39, 34, 39, 34, 39, 39] := by decide +kernel
    refine ⟨true, by decide +kernel, fun cs => .a_sp_t (by decide +kernel), .a_end, fun cs f t q n h => ?_⟩
    rw [h1]
    exact .sp_q (.q_close (.a_d (.d_q l0 (.d_close (.a_q (.q_close (by rw [eQ]; exact h)))))))
  | d =>
    have h1 : (qt (Str.ofString "\"")).cps.toList = [39, 34, 39] := by decide +kernel
    refine ⟨true, by decide +kernel, fun cs => .a_sp_t (by decide +kernel), .a_end, fun cs f t q n h => ?_⟩
    rw [h1]
    exact .sp_q (.q_d l0 (.q_close (by rw [eD]; exact h)))
theorem go_wordW {x : Str} (hw : W5 x) : ∃ b, (!b && (x == sE)) = false ∧ (∀ cs, Go sA x b (32 :: cs) (some sSP) x b 1) ∧ Go sA x b [] none x b 0 ∧
    ∀ cs f t q n, Go sA x b cs f t q n → Go sSP sE false ((wq x).cps.toList ++ cs) f t q (n + (wq x).cps.toList.length) := by
  have eSP : (sE ++ Str.mk #[32] : Str) = Str.ofString " " := by decide +kernel
  have eQ : (sE ++ Str.mk #[39] : Str) = Str.ofString "'" := by decide +kernel
  have eD : (sE ++ Str.mk #[34] : Str) = Str.ofString "\"" := by decide +kernel
  have eA : (sE ++ Str.mk #[97] : Str) = Str.ofString "a" := by decide +kernel
  have l0 : sE.length < 100000 := by decide +kernel
  cases hw with
  | a =>
    have h1 : (wq (Str.ofString "a")).cps.toList = [39, 97, 39] := by decide +kernel
    refine ⟨true, by decide +kernel, fun cs => .a_sp_t (by decide +kernel), .a_end, fun cs f t q n h => ?_⟩
    rw [h1]
    exact .sp_q (.q_a l0 (.q_close (by rw [eA]; exact h)))
  | e =>
    have h1 : (wq (Str.ofString "")).cps.toList = [39, 39] := by decide +kernel
    refine ⟨true, by decide +kernel, fun cs => .a_sp_t (by decide +kernel), .a_end, fun cs f t q n h => ?_⟩
    rw [h1]
    exact .sp_q (.q_close h)
  | sp =>
    have h1 : (wq (Str.ofString " ")).cps.toList = [39, 32, 39] := by decide +kernel
    refine ⟨true, by decide +kernel, fun cs => .a_sp_t (by decide +kernel), .a_end, fun cs f t q n h => ?_⟩
    rw [h1]
    exact .sp_q (.q_sp l0 (.q_close (by rw [eSP]; exact h)))
  | q =>
    have h1 : (wq (Str.ofString "'")).cps.toList = [34, 39, 34] := by decide +kernel
    refine ⟨true, by decide +kernel, fun cs => .a_sp_t (by decide +kernel), .a_end, fun cs f t q n h => ?_⟩
    rw [h1]
    exact .sp_d (.d_q l0 (.d_close (by rw [eQ]; exact h)))
  | d =>
    have h1 : (wq (Str.ofString "\"")).cps.toList = [39, 34, 39] := by decide +kernel
    refine ⟨true, by decide +kernel, fun cs => .a_sp_t (by decide +kernel), .a_end, fun cs f t q n h => ?_⟩
    rw [h1]
    exact .sp_q (.q_d l0 (.q_close (by rw [eD]; exact h)))
theorem rd_of {F : Str → Str} (HF : ∀ {x : Str}, W5 x → ∃ b, (!b && (x == sE)) = false ∧ (∀ cs, Go sA x b (32 :: cs) (some sSP) x b 1) ∧ Go sA x b [] none x b 0 ∧
    ∀ cs f t q n, Go sA x b cs f t q n → Go sSP sE false ((F x).cps.toList ++ cs) f t q (n + (F x).cps.toList.length)) :
    ∀ ws : List Str, (∀ x ∈ ws, W5 x) → Rd (some sSP) (Txt.join (Str.ofString " ") (ws.map F)).cps.toList ws
  | [], _ => .none .sp_end
  | [x], h => by
    obtain ⟨b, h1, h2, h3, h4⟩ := HF (h x (.head _))
    have h5 := h4 [] none x b 0 h3
    rw [List.append_nil] at h5
    refine Rd.tok (cs := (F x).cps.toList) h5 h1 ?_
    rw [List.drop_of_length_le (by omega)]
    exact .eof
  | x :: y :: r, h => by
    obtain ⟨b, h1, h2, h3, h4⟩ := HF (h x (.head _))
    have ih := rd_of HF (y :: r) fun z hz => h z (.tail _ hz)
    have e : (Txt.join (Str.ofString " ") ((x :: y :: r).map F)).cps.toList = (F x).cps.toList ++ (32 :: (Txt.join (Str.ofString " ") ((y :: r).map F)).cps.toList) := by
      rw [List.map_cons, List.map_cons, join3, ← List.map_cons]
      rw [str_app_list, str_app_list, show (Str.ofString " ").cps.toList = [32] by decide +kernel, List.append_assoc]
      rfl
    rw [e]
    refine Rd.tok (h4 _ _ _ _ _ (h2 _)) h1 ?_
    rw [show (F x).cps.toList ++ (32 :: (Txt.join (Str.ofString " ") ((y :: r).map F)).cps.toList) = ((F x).cps.toList ++ [32]) ++ (Txt.join (Str.ofString " ") ((y :: r).map F)).cps.toList by simp, List.drop_left' (by simp; omega)]
    exact ih
theorem rd_join (ws : List Str) (h : ∀ x ∈ ws, W5 x) : Rd (some sSP) (Txt.join (Str.ofString " ") (ws.map qt)).cps.toList ws := rd_of go_word ws h
theorem rd_written (ws : List Str) (h : ∀ x ∈ ws, W5 x) : Rd (some sSP) (Txt.join (Str.ofString " ") (ws.map wq)).cps.toList ws := rd_of go_wordW ws h
theorem join_len {F : Str → Str} (HF : ∀ x, (F x).length ≤ 7) : ∀ ws : List Str, (Txt.join (Str.ofString " ") (ws.map F)).length ≤ 8 * ws.length
  | [] => by
    show (Txt.join (Str.ofString " ") []).length ≤ 0
    decide +kernel
  | [x] => by
    show (F x).length ≤ _
    have := HF x
    simp only [List.length_cons, List.length_nil]
    omega
  | x :: y :: r => by
    have ih := join_len HF (y :: r)
    have e : (Txt.join (Str.ofString " ") ((x :: y :: r).map F)).length = (F x).length + 1 + (Txt.join (Str.ofString " ") ((y :: r).map F)).length := by
      have h1 : ∀ z : Str, z.length = z.cps.toList.length := fun z => by simp [Str.length]
      rw [h1]
      rw [List.map_cons, List.map_cons, join3, ← List.map_cons]
      rw [str_app_list, str_app_list, show (Str.ofString " ").cps.toList = [32] by decide +kernel, h1, h1]
      simp
      omega
    have := HF x
    rw [e]
    simp only [List.length_cons] at ih ⊢
    omega
theorem menuW_w5 (r : Int) : W5 (menuW r) := by
  unfold menuW
  split
  · exact .a
  · split
    · exact .e
    · split
      · exact .sp
      · split
        · exact .q
        · exact .d
theorem lnStep_w5 {st : List (List Str) × List Str} {x : Int} (h1 : ∀ l ∈ st.1, ∀ y ∈ l, W5 y) (h2 : ∀ y ∈ st.2, W5 y) : (∀ l ∈ (lnStep st x).1, ∀ y ∈ l, W5 y) ∧ ∀ y ∈ (lnStep st x).2, W5 y := by
  unfold lnStep
  split
  · refine ⟨fun l hl => ?_, fun y hy => nomatch hy⟩
    rcases List.mem_append.mp hl with q | q
    · exact h1 l q
    · rw [List.mem_singleton.mp q]; exact h2
  · split
    · refine ⟨h1, fun y hy => ?_⟩
      rcases List.mem_append.mp hy with q | q
      · exact h2 y q
      · exact h2 y (List.mem_of_mem_drop q)
    · refine ⟨h1, fun y hy => ?_⟩
      rcases List.mem_append.mp hy with q | q
      · exact h2 y q
      · rw [List.mem_singleton.mp q]; exact menuW_w5 _
theorem lnOf_w5 (ns : List Int) : (∀ l ∈ (lnOf ns).1, ∀ y ∈ l, W5 y) ∧ ∀ y ∈ (lnOf ns).2, W5 y := by
  have gen : ∀ (ns : List Int) (st : List (List Str) × List Str), (∀ l ∈ st.1, ∀ y ∈ l, W5 y) → (∀ y ∈ st.2, W5 y) → (∀ l ∈ (ns.foldl lnStep st).1, ∀ y ∈ l, W5 y) ∧ ∀ y ∈ (ns.foldl lnStep st).2, W5 y := by
    intro ns
    induction ns with
    | nil => exact fun st a b => ⟨a, b⟩
    | cons x r ih => exact fun st a b => ih _ (lnStep_w5 a b).1 (lnStep_w5 a b).2
  exact gen ns _ (fun _ h => nomatch h) fun _ h => nomatch h
theorem lines_w5 (ns : List Int) : ∀ l ∈ linesOf ns, ∀ y ∈ l, W5 y := fun l hl => by
  rcases List.mem_append.mp hl with q | q
  · exact (lnOf_w5 ns).1 l q
  · rw [List.mem_singleton.mp q]; exact (lnOf_w5 ns).2
theorem lnStep_len {st : List (List Str) × List Str} {x : Int} {n : Nat} (h1 : ∀ l ∈ st.1, l.length ≤ n) (h2 : st.2.length ≤ n) (h3 : st.1.length ≤ n) : (∀ l ∈ (lnStep st x).1, l.length ≤ n + 1) ∧ (lnStep st x).2.length ≤ n + 1 ∧ (lnStep st x).1.length ≤ n + 1 := by
  unfold lnStep
  split
  · refine ⟨fun l hl => ?_, by simp, by simp; omega⟩
    rcases List.mem_append.mp hl with q | q
    · exact Nat.le_succ_of_le (h1 l q)
    · rw [List.mem_singleton.mp q]; omega
  · split
    · exact ⟨fun l hl => Nat.le_succ_of_le (h1 l hl), by simp; omega, by simp; omega⟩
    · exact ⟨fun l hl => Nat.le_succ_of_le (h1 l hl), by simp; omega, by simp; omega⟩
theorem lines_len (ns : List Int) : (∀ l ∈ linesOf ns, l.length ≤ ns.length) ∧ (linesOf ns).length ≤ ns.length + 1 := by
  have gen : ∀ (ns : List Int) (st : List (List Str) × List Str) (n : Nat), (∀ l ∈ st.1, l.length ≤ n) → st.2.length ≤ n → st.1.length ≤ n → (∀ l ∈ (ns.foldl lnStep st).1, l.length ≤ n + ns.length) ∧ (ns.foldl lnStep st).2.length ≤ n + ns.length ∧ (ns.foldl lnStep st).1.length ≤ n + ns.length := by
    intro ns
    induction ns with
    | nil => exact fun st n a b c => ⟨a, b, c⟩
    | cons x r ih =>
      intro st n a b c
      obtain ⟨a', b', c'⟩ := lnStep_len (x := x) a b c
      have := ih _ _ a' b' c'
      rw [List.length_cons, show n + (r.length + 1) = n + 1 + r.length by omega]
      exact this
  obtain ⟨a, b, c⟩ := gen ns ([], []) 0 (fun _ h => nomatch h) (Nat.le_refl _) (Nat.le_refl _)
  simp only [Nat.zero_add] at a b c
  refine ⟨fun l hl => ?_, ?_⟩
  · rcases List.mem_append.mp hl with q | q
    · exact a l q
    · rw [List.mem_singleton.mp q]; exact b
  · show ((lnOf ns).1 ++ [(lnOf ns).2]).length ≤ _
    rw [List.length_append, List.length_singleton]
    exact Nat.succ_le_succ c
theorem w5_ok {x : Str} (h : W5 x) : PyData.strOk x = true := by
  cases h <;> decide +kernel
theorem kqd_words {ws : List Str} (h : ∀ x ∈ ws, W5 x) : ∀ d ∈ ws.map Dat.str, kqdOk 8 d = true := fun d hd => by
  obtain ⟨x, hx, rfl⟩ := List.mem_map.mp hd
  exact w5_ok (h x hx)
theorem kqd_line {ws : List Str} (h : ∀ x ∈ ws, W5 x) : kqdOk 8 (lineD ws) = true := by
  show (ws.map Dat.str).all (kqdOk 7) = true
  rw [List.all_eq_true]
  intro d hd
  obtain ⟨x, hx, rfl⟩ := List.mem_map.mp hd
  exact w5_ok (h x hx)
theorem kqd_lines {lss : List (List Str)} (h : ∀ l ∈ lss, ∀ x ∈ l, W5 x) : ∀ d ∈ lss.map lineD, kqdOk 8 d = true := fun d hd => by
  obtain ⟨l, hl, rfl⟩ := List.mem_map.mp hd
  exact kqd_line (h l hl)
theorem strs_of {X : List (Addr × Obj)} : ∀ {vs : List Value} {ws : List Str}, DatAll X vs (ws.map Dat.str) → StrAre vs ws
  | [], [], _ => trivial
  | _ :: _, _ :: _, .cons h r => by
    cases h with
    | str x t => exact ⟨⟨_, rfl⟩, strs_of r⟩
theorem line_of {X : List (Addr × Obj)} {v : Value} {ws : List Str} (h : DatIn X v (lineD ws)) : ∃ a vs c, v = .ref a ∧ (a, listOf vs.toArray c) ∈ X ∧ StrAre vs ws := by
  unfold lineD at h
  cases h with
  | list hm hd => exact ⟨_, _, _, rfl, hm, strs_of hd⟩
noncomputable def fw (ws : List Str) : List Str := (fkv [] ws).map (·.1)
theorem dd_words (ws : List Str) : dd [] (ws.map Dat.str) = (fw ws).map Dat.str := by
  have := dd_fkv ws []
  exact this
theorem fw_mem {ws : List Str} {x : Str} (h : x ∈ fw ws) : x ∈ ws := by
  have h1 : Dat.str x ∈ dd [] (ws.map Dat.str) := by rw [dd_words]; exact List.mem_map.mpr ⟨x, h, rfl⟩
  have h2 := (dd_iff (acc := []) _).mp h1
  rcases h2 with q | q
  · cases q
  · obtain ⟨y, hy, e⟩ := List.mem_map.mp q
    cases e
    exact hy
theorem fw_len (ws : List Str) : (fw ws).length ≤ ws.length := by
  unfold fw
  rw [List.length_map]
  simpa using fkv_len ws []
theorem add_fresh {h₀ h h' : Heap} {L D : Addr} {o : Obj} {m : Str → Option Value} {news : List (Addr × Obj)} (F : Fr h₀ L h m) (N : News h₀ L h news) (N' : News h₀ L h' news) (hD : h'.get? D = some o) (hD0 : ∀ o, h.get? D ≠ some o) :
    News h₀ L h' ((D, o) :: news) ∧ ∀ p ∈ news, p.1 ≠ D := by
  refine ⟨fun p hp => ?_, fun p hp q => hD0 p.2 (q ▸ (N p hp).1)⟩
  rcases List.mem_cons.mp hp with rfl | hp
  · refine ⟨hD, fun q => ?_, ?_⟩
    · obtain ⟨oL, _, _, hL, _⟩ := F.ns
      exact hD0 oL (by rw [show D = L from q]; exact hL)
    · cases e : h₀.get? D with
      | none => rfl
      | some o => exact absurd (F.keep _ _ e) (hD0 o)
  · exact N' p hp
open Classical in
noncomputable def flt (a b : List Str) : List Str := a.filter fun x => decide (x ∉ b)
theorem flt_snoc_in {a b : List Str} {x : Str} (h : x ∈ b) : flt (a ++ [x]) b = flt a b := by unfold flt; simp [List.filter_append, h]
theorem flt_snoc_out {a b : List Str} {x : Str} (h : x ∉ b) : flt (a ++ [x]) b = flt a b ++ [x] := by unfold flt; simp [List.filter_append, h]
theorem flt_mem {a b : List Str} {x : Str} (h : x ∈ flt a b) : x ∈ a ∧ x ∉ b := by
  unfold flt at h
  simpa using h
theorem flt_nil {a b : List Str} : flt a b = [] ↔ ∀ x ∈ a, x ∈ b := by
  unfold flt
  rw [List.filter_eq_nil_iff]
  constructor
  · intro h x hx
    simpa using h x hx
  · intro h x hx
    simpa using h x hx
theorem flt_len (a b : List Str) : (flt a b).length ≤ a.length := List.length_filter_le _ _
theorem str_mem {x : Str} {l : List Str} : Dat.str x ∈ l.map Dat.str ↔ x ∈ l := by
  constructor
  · intro h
    obtain ⟨y, hy, e⟩ := List.mem_map.mp h
    cases e
    exact hy
  · exact fun h => List.mem_map.mpr ⟨x, h, rfl⟩
open Classical in
theorem cmp_words (a b : List Str) : cmpD (a.map Dat.str) (b.map Dat.str) = decide ((flt a b ++ flt b a).map Dat.str = []) := by
  have : (cmpD (a.map Dat.str) (b.map Dat.str) = true) ↔ ((flt a b ++ flt b a).map Dat.str = []) := by
    rw [cmpD_iff, List.map_eq_nil_iff, List.append_eq_nil_iff, flt_nil, flt_nil]
    constructor
    · rintro ⟨h1, h2⟩
      exact ⟨fun x hx => str_mem.mp (h1 _ (str_mem.mpr hx)), fun x hx => str_mem.mp (h2 _ (str_mem.mpr hx))⟩
    · rintro ⟨h1, h2⟩
      refine ⟨fun d hd => ?_, fun d hd => ?_⟩
      · obtain ⟨x, hx, rfl⟩ := List.mem_map.mp hd
        exact str_mem.mpr (h1 x hx)
      · obtain ⟨x, hx, rfl⟩ := List.mem_map.mp hd
        exact str_mem.mpr (h2 x hx)
  cases h : cmpD (a.map Dat.str) (b.map Dat.str) with
  | true => exact (decide_eq_true (this.mp h)).symm
  | false => exact (decide_eq_false fun z => by rw [this.mpr z] at h; cases h).symm
theorem cmp_rev (ds : List Dat) : cmpD ds ds.reverse = true := cmpD_iff.mpr ⟨fun d hd => List.mem_reverse.mpr hd, fun d hd => List.mem_reverse.mp hd⟩
open Classical in
theorem cmp_init {ds : List Dat} {x : Dat} (hx : ds[ds.length - 1]? = some x) : cmpD ds (ds.take (ds.length - 1)) = decide (x ∈ ds.take (ds.length - 1)) := by
  have hlt := (List.getElem?_eq_some_iff.mp hx).1
  have e : ds = ds.take (ds.length - 1) ++ [x] := by
    have h1 : ds.take (ds.length - 1 + 1) = ds.take (ds.length - 1) ++ [x] := by rw [List.take_add_one, hx]; rfl
    rw [← h1, List.take_of_length_le (by omega)]
  have : cmpD ds (ds.take (ds.length - 1)) = true ↔ x ∈ ds.take (ds.length - 1) := by
    rw [cmpD_iff]
    constructor
    · rintro ⟨h1, _⟩
      exact h1 x (List.mem_of_getElem? hx)
    · intro h
      refine ⟨fun d hd => ?_, fun d hd => List.mem_of_mem_take hd⟩
      rw [e] at hd
      rcases List.mem_append.mp hd with q | q
      · exact q
      · rw [List.mem_singleton.mp q]; exact h
  cases hc : cmpD ds (ds.take (ds.length - 1)) with
  | true => exact (decide_eq_true (this.mp hc)).symm
  | false => exact (decide_eq_false fun z => by rw [this.mpr z] at hc; cases hc).symm
theorem lines_pos (ns : List Int) : 0 < (linesOf ns).length := by unfold linesOf; simp
theorem datAll_rev {X : List (Addr × Obj)} : ∀ {us : List Value} {es : List Dat}, DatAll X us es → DatAll X us.reverse es.reverse
  | _, _, .nil => .nil
  | _, _, .cons h r => by
    rw [List.reverse_cons, List.reverse_cons]
    exact (datAll_rev r).append (.one h)
theorem lineLB_1 : True := by
  (k_with "call ref" => (k_here; (with_reducible show wpAny _ _ (call (Value.ref 788) _) _ _ _); refine hold ?_))
  trivial
theorem lineLB_2 : True := by
  (k_with "call ref" => (k_here; (with_reducible show wpAny _ _ (call (Value.ref 773) _) _ _ _); refine hold ?_))
  trivial
theorem lineLB_3 : True := by
  (k_with "call ref" => (k_here; (with_reducible show wpAny _ _ (call (Value.ref 766) _) _ _ _); refine hold ?_))
  trivial
theorem lineLB_4 : True := by
  (k_with "call ref" => (k_here; (with_reducible show wpAny _ _ (call (Value.ref 793) _) _ _ _); refine hold ?_))
  trivial
theorem lineLB_5 : True := by
  (k_with "call ref" => (k_here; (with_reducible show wpAny _ _ (call (Value.ref 798) _) _ _ _); refine hold ?_))
  trivial
theorem lineLB_6 : True := by
  (k_with "call ref" => (k_here; (with_reducible show wpAny _ _ (call (Value.ref 66) _) _ _ _); refine hold ?_))
  trivial
theorem lineLB_7 : True := by
  (k_with "call ref" => (k_here; (with_reducible show wpAny _ _ (call (Value.ref 805) _) _ _ _); refine hold ?_))
  trivial
theorem lineLB_8 : True := by
  (k_with "call ref" => (k_here; (with_reducible show wpAny _ _ (call (Value.ref 52) _) _ _ _); refine hold ?_))
  trivial
theorem lineLB_9 : True := by
  (k_with "call ref" => (k_here; (with_reducible show wpAny _ _ (call (Value.ref 59) _) _ _ _); refine hold ?_))
  trivial
theorem lineLB_10 : True := by
  (k_with "call ref" => (k_here; (with_reducible show wpAny _ _ (call (Value.ref 52) _ _) _ _ _); refine hold ?_))
  trivial
theorem lineLB_11 : True := by
  (k_with "call type:list" => (k_here; (with_reducible show wpAny _ _ (call (Value.type _) [Value.ref _]) _ _ _); refine hold ?_))
  trivial
theorem fr_congr {h₀ h : Heap} {L : Addr} {m m' : Str → Option Value} (F : Fr h₀ L h m) (e : ∀ y, m' y = m y) : Fr h₀ L h m' := by
  have : m' = m := funext e
  rw [this]; exact F
theorem frs_off {g h : Heap} {L : Addr} {env : Env} {news : List (Addr × Obj)} (hf : env.frame = some L) (N : News g L h news) : ∀ b ∈ frs [env], b ∉ news.map (·.1) := fun b hb hm => by
  obtain ⟨p, hp, e⟩ := List.mem_map.mp hm
  have hbL : b = L := by
    have hfr : frs [env] = [L] := by simp [frs, hf]
    rw [hfr] at hb
    exact List.mem_singleton.mp hb
  exact (N p hp).2.1 (e.trans hbL)
theorem slice_rev {w : World} {A : Around} {E : Value → Shared → Prop} {h : Heap} {gs : Array GenState} {dr : Drawn} {tk : Nat} {os : OsState} {h₀ : Heap} {L a : Addr} {m : Str → Option Value} {news : List (Addr × Obj)} {vs : List Value} {c : Nat} {t : Tok} {value slice : Expr} {ops : List Value} {Q : Value → Shared → Prop}
    (F : Fr h₀ L h m) (N : News h₀ L h news) (hm : (a, listOf vs.toArray c) ∈ news) (hz : vs.length ≤ 100000)
    (k : ∀ h' D, Fr h₀ L h' m → News h₀ L h' ((D, listOf vs.reverse.toArray 0) :: news) → (∀ p ∈ news, p.1 < D) → Q (.ref D) ⟨h', gs, dr, tk, os⟩)
    (hs : subscripted slice false (.ref a) (.ref h.objs.size) = operate ops (getItem (.ref a) (.ref h.objs.size)))
    (ht : ∀ r, letTemporaryGo value (.ref a) r = pure () := by intro _; with_unfolding_all rfl) :
    wpAny (model prog w) A (subscriptTail value slice (.ref a) (.ref h.objs.size)) Q E ⟨h.push { cls := .type "slice", data := .fields #[.none, .none, .int (-1) t] }, gs, dr, tk, os⟩ :=
  krv_lit (s := ⟨h, gs, dr, tk, os⟩) (its := vs.toArray) F N ⟨_, (N _ hm).1, rfl, _, rfl⟩ (.int _ _) rfl (fun D h' F' N' l => k h' D F' N' l) hs ht (by rw [sizeLine_eq]; simp; omega)
theorem slice_init {w : World} {A : Around} {E : Value → Shared → Prop} {h : Heap} {gs : Array GenState} {dr : Drawn} {tk : Nat} {os : OsState} {h₀ : Heap} {L a : Addr} {m : Str → Option Value} {news : List (Addr × Obj)} {vs : List Value} {c : Nat} {t : Tok} {value slice : Expr} {Q : Value → Shared → Prop}
    (F : Fr h₀ L h m) (N : News h₀ L h news) (hm : (a, listOf vs.toArray c) ∈ news) (hz : vs.length ≤ 100000)
    (k : ∀ h' D, Fr h₀ L h' m → News h₀ L h' ((D, listOf (vs.take (vs.length - 1)).toArray 0) :: news) → (∀ p ∈ news, p.1 < D) → Q (.ref D) ⟨h', gs, dr, tk, os⟩)
    (hs : subscripted slice false (.ref a) (.ref h.objs.size) = operate [.ref h.objs.size, .ref a] (getItem (.ref a) (.ref h.objs.size)) := by with_unfolding_all rfl)
    (ht : ∀ r, letTemporaryGo value (.ref a) r = pure () := by intro _; with_unfolding_all rfl) :
    wpAny (model prog w) A (subscriptTail value slice (.ref a) (.ref h.objs.size)) Q E ⟨h.push { cls := .type "slice", data := .fields #[.none, .int (-1) t, .none] }, gs, dr, tk, os⟩ := by
  refine slice_list (s := ⟨h, gs, dr, tk, os⟩) (items := vs.toArray) (vl := .none) (vu := .int (-1) t) F N ⟨_, (N _ hm).1, rfl, _, rfl⟩ .none (.int _ _) (fun h' F' N' => ?_) hs ht (by rw [sizeLine_eq]; simp; omega)
  rw [show slicePick vs.toArray none (some (-1)) none = (vs.take (vs.length - 1)).toArray by rw [show (-1 : Int) = -((1 : Nat) : Int) by decide, slicePick_butLast _ 1 (Nat.le_refl _)]; simp] at N'
  exact k h' _ F' N' fun p hp => Nat.lt_succ_of_lt (Heap.lt_size (N p hp).1)
theorem add_led {w : World} {A : Around} {E : Value → Shared → Prop} {s : Shared} {h₀ : Heap} {L a b : Addr} {m : Str → Option Value} {news : List (Addr × Obj)} {vs ws : List Value} {c c2 : Nat} {Q : Value → Shared → Prop}
    (F : Fr h₀ L s.heap m) (N : News h₀ L s.heap news) (ha : (a, listOf vs.toArray c) ∈ news) (hb : (b, listOf ws.toArray c2) ∈ news) (h1 : vs.length ≤ 1000) (h2 : ws.length ≤ 1000)
    (h : ∀ D h', Fr h₀ L h' m → News h₀ L h' ((D, listOf (vs ++ ws).toArray 0) :: news) → (∀ p ∈ news, p.1 < D) → Q (.ref D) { s with heap := h' }) :
    wpAny (model prog w) A (binaryOp .Add (.ref a) (.ref b)) Q E s :=
  add_lists F N ⟨_, (N _ ha).1, rfl, _, rfl⟩ ⟨_, (N _ hb).1, rfl, _, rfl⟩ (fun h' F' N' => h _ h' F' N' fun p hp => Heap.lt_size (N p hp).1) (by rw [sizeLine_eq]; omega)
theorem lineLB_12 : True := by
  (k_with "compareOp NotEq ref ref" => (k_here; (with_reducible show wpAny _ _ (compareOp CmpOp.NotEq (Value.ref _) (Value.ref _)) _ _ _); k_dflt (refine' kqd_ne ?zqN ?zqa ?zqb ?zqc ?zqd ?zqe ?zqf ?zqg ?zqi ?zqj ?zqk ?zql ?zqm ?zqn ?_; (case zqN => k_asm); (case zqa => (repeat (first | exact List.mem_cons_self | with_reducible assumption | refine List.mem_cons_of_mem _ ?_))); (case zqb => exact rfl); (case zqc => exact rfl); (case zqd => with_reducible assumption); (case zqe => (intro p hp; repeat (first | exact hp | refine List.mem_cons_of_mem _ ?_))); (case zqf => (repeat (first | exact List.mem_cons_self | with_reducible assumption | refine List.mem_cons_of_mem _ ?_))); (case zqg => exact rfl); (case zqi => exact rfl); (case zqj => with_reducible assumption); (case zqk => (intro p hp; repeat (first | exact hp | refine List.mem_cons_of_mem _ ?_))); (case zql => with_reducible assumption); (case zqm => with_reducible assumption); (case zqn => k_units)); (try simp only [eq_self, decide_true, Bool.not_true, decide_false, Bool.not_false])))
  trivial
theorem lineLB_13 : True := by
  (k_with "compareOp Eq ref ref" => (k_here; (with_reducible show wpAny _ _ (compareOp CmpOp.Eq (Value.ref _) (Value.ref _)) _ _ _); k_dflt (refine' kqd_eq ?zqN ?zqa ?zqb ?zqc ?zqd ?zqe ?zqf ?zqg ?zqi ?zqj ?zqk ?zql ?zqm ?zqn ?_; (case zqN => k_asm); (case zqa => (repeat (first | exact List.mem_cons_self | with_reducible assumption | refine List.mem_cons_of_mem _ ?_))); (case zqb => exact rfl); (case zqc => exact rfl); (case zqd => with_reducible assumption); (case zqe => (intro p hp; repeat (first | exact hp | refine List.mem_cons_of_mem _ ?_))); (case zqf => (repeat (first | exact List.mem_cons_self | with_reducible assumption | refine List.mem_cons_of_mem _ ?_))); (case zqg => exact rfl); (case zqi => exact rfl); (case zqj => with_reducible assumption); (case zqk => (intro p hp; repeat (first | exact hp | refine List.mem_cons_of_mem _ ?_))); (case zql => with_reducible assumption); (case zqm => with_reducible assumption); (case zqn => k_units)); (try simp only [eq_self, decide_true, Bool.not_true, decide_false, Bool.not_false])))
  trivial
theorem lineLB_14 : True := by
  (k_with "compareOp NotIn" => (k_here; (with_reducible show wpAny _ _ (compareOp CmpOp.NotIn _ (Value.ref _)) _ _ _); k_dflt (refine' kqd_notIn ?zqN ?zqma ?zqca ?zqda ?zqDa ?zqsa ?zqDx ?zqsx ?zqha ?zqhd ?zqhu ?_; (case zqN => k_asm); (case zqma => (repeat (first | exact List.mem_cons_self | with_reducible assumption | refine List.mem_cons_of_mem _ ?_))); (case zqca => exact rfl); (case zqda => exact rfl); (case zqDa => with_reducible assumption); (case zqDx => with_reducible assumption); (case zqsa => (intro p hp; repeat (first | exact hp | refine List.mem_cons_of_mem _ ?_))); (case zqsx => (intro p hp; repeat (first | exact hp | refine List.mem_cons_of_mem _ ?_))); (case zqha => with_reducible assumption); (case zqhd => with_reducible assumption); (case zqhu => k_units))))
  trivial
theorem lineLB_15 : True := by
  (k_with "subscriptTail Name Slice ref ref" => (k_here; (with_reducible show wpAny _ _ (subscriptTail _ (Expr.Slice none (some (Expr.UnaryOp _ _ _)) none _) (Value.ref _) (Value.ref _)) _ _ _); refine hold ?_))
  trivial
theorem lineLB_16 : True := by
  (k_with "compareOp In" => (k_here; (with_reducible show wpAny _ _ (compareOp CmpOp.In _ (Value.ref _)) _ _ _); k_dflt (refine' kqd_isIn ?zqN ?zqma ?zqca ?zqda ?zqDa ?zqsa ?zqDx ?zqsx ?zqha ?zqhd ?zqhu ?_; (case zqN => k_asm); (case zqma => (repeat (first | exact List.mem_cons_self | with_reducible assumption | refine List.mem_cons_of_mem _ ?_))); (case zqca => exact rfl); (case zqda => exact rfl); (case zqDa => with_reducible assumption); (case zqDx => with_reducible assumption); (case zqsa => (intro p hp; repeat (first | exact hp | refine List.mem_cons_of_mem _ ?_))); (case zqsx => (intro p hp; repeat (first | exact hp | refine List.mem_cons_of_mem _ ?_))); (case zqha => with_reducible assumption); (case zqhd => with_reducible assumption); (case zqhu => k_units))))
  trivial
set_option maxHeartbeats 8000000 in
theorem law_body {w : World} {A : Around} {s : Shared} {mean : ExcName → Option Value} {mg mb : Str → Option Value} {Q : Flow → Shared → Prop} {s₀ : Heap} {L sa : Addr} {o1 o2 : Obj} {vn : List Value} {ns : List Int}
    {name qual : Str} {params : Arguments} {body : List Stmt} {scope : Scope} {dV kV doc pm cdv ct oc : Value} {an od : Option Addr} {osl : Array (Option Value)} {nm : Str} {f : Addr} {cd : Value}
    (ho : (Mine.hd.heap_39 w.params).lookup 810 = some ⟨oc, od, .func (fnOf name qual params body scope dV kV doc pm an cdv ct), osl⟩)
    (KX₀ : (Mine.hd.heap_39 w.params).In s₀) (T₀ : Top Mine.hd.view_39 LO mean mg mb s₀) (F₀ : Fr s₀ L s.heap (fun y => if y = "script" then some (.ref sa) else none)) (N₀ : News s₀ L s.heap [(L + 1 + 1, o2), (L + 1, o1)]) (hc1 : o1.data = .cell none) (hc2 : o2.data = .cell none)
    (hl : s₀.IsList sa vn.toArray) (hi : IntsAre vn ns) (hvn : vn.length ≤ 100000) (hgs : s.gens = #[]) (hfr : A.frames = some []) (hh : A.handled = none) (hroom : A.depth < 500) (hu : A.units + 1000 < cLine)
    (h : ∀ s', OldK s₀ s'.heap → s'.os = s.os → AllBare s'.gens → Q (.ret (.bool true)) s') :
    wpAny (model prog w) (A.deeper (envOfC nm scope L f cd)) (execs body (envOfC nm scope L f cd)) Q FalseE s := by
  have ee := ho.symm.trans (by k_dflt k_is)
  cases ee
  obtain ⟨ht, hct⟩ := join_tab KX₀ T₀
  have KX := in_hide KX₀
  have TT := top_hide (topRead_of T₀)
  have hLgt : 768 < L := Nat.lt_of_lt_of_le (Heap.lt_size ht) F₀.above
  have F : Fr (hideAll s₀ [768]) L s.heap (fun y => if y = "script" then some (.ref sa) else none) := ⟨F₀.ns, fun b o e => F₀.keep b o (of_hideAll _ e), by rw [hideAll_size]; exact F₀.above⟩
  have hsa : sa ≠ 768 := fun q => by obtain ⟨o, e, hc, _⟩ := hl; rw [q, ht] at e; cases e; cases hc
  have hl' : (hideAll s₀ [768]).IsList sa vn.toArray := by obtain ⟨o, e, r⟩ := hl; exact ⟨o, hideAll_get _ e (fun hm => hsa (List.mem_singleton.mp hm)), r⟩
  have N : News (hideAll s₀ [768]) L s.heap [(L + 1 + 1, o2), (L + 1, o1), (768, tabO #[])] := fun p hp => by
    rcases List.mem_cons.mp hp with rfl | hp
    · exact ⟨(N₀ _ (.head _)).1, (N₀ _ (.head _)).2.1, hideAll_le_none (N₀ _ (.head _)).2.2⟩
    · rcases List.mem_cons.mp hp with rfl | hp
      · exact ⟨(N₀ _ (.tail _ (.head _))).1, (N₀ _ (.tail _ (.head _))).2.1, hideAll_le_none (N₀ _ (.tail _ (.head _))).2.2⟩
      · rw [List.mem_singleton.mp hp]
        exact ⟨F₀.keep _ _ ht, Nat.ne_of_lt hLgt, hideAll_none _ (.head _)⟩
  clear F₀ N₀
  generalize hg : hideAll s₀ [768] = g at *
  have hvl : vn.length ≤ 100000 := hvn
  k_steps
  rename Fr g L _ _ => F2
  rename News g L _ _ => N2
  rename IntsAre _ (_ ++ _) => hi2
  have hn2 := hi2.length
  generalize hnn : List.take 10 ns ++ [1, 2, 1, 5, 3, 4, 3, 5, 2, 1, 2, 5, 6, 3] = nn at hi2 hn2
  have hnl : nn.length ≤ 24 := by rw [← hnn]; simp; omega
  refine hold_out (wpAny_call (lines_ok (mg := mg) (mb := mb) (h₀ := g) ⟨KX, TT⟩ F2.keep (N2 _ (.head _)).1 (N2 _ (.head _)).2.2 hi2 (by omega) hh (by show A.depth + 1 < 870; omega) (by k_units) fun s' Dl us c X hk hDm hX hda hul => ?_))
  obtain ⟨h3, tk3, rfl, F3, N3⟩ := Keeps.use hk F2 N2
  have hXn : ∀ p ∈ X, h3.get? p.1 = some p.2 ∧ p.1 ≠ L ∧ g.get? p.1 = none ∧ p.1 ≠ 768 ∧ p.1 ≠ L + 1 ∧ p.1 ≠ L + 1 + 1 := fun p hp => by
    obtain ⟨x, y⟩ := hX p hp
    refine ⟨x, fun q => ?_, ?_, fun q => ?_, fun q => ?_, fun q => ?_⟩
    · obtain ⟨oL, _, _, hL, _⟩ := F2.ns
      exact y oL (q ▸ hL)
    · cases e : g.get? p.1 with
      | none => rfl
      | some o => exact absurd (F2.keep _ _ e) (y o)
    · exact y _ (q ▸ (N2 (768, tabO #[]) (by simp)).1)
    · exact y _ (q ▸ (N2 (L + 1, o1) (by simp)).1)
    · exact y _ (q ▸ (N2 (L + 1 + 1, o2) (by simp)).1)
  have N4 : News g L h3 ((768, tabO #[]) :: (L + 1, o1) :: (L + 1 + 1, o2) :: X) := fun p hp => by
    rcases List.mem_cons.mp hp with rfl | hp
    · exact N3 _ (by simp)
    · rcases List.mem_cons.mp hp with rfl | hp
      · exact N3 _ (by simp)
      · rcases List.mem_cons.mp hp with rfl | hp
        · exact N3 _ (by simp)
        · exact ⟨(hXn p hp).1, (hXn p hp).2.1, (hXn p hp).2.2.1⟩
  have hX7 : ∀ p ∈ X, p.1 ≠ 768 ∧ p.1 ≠ L + 1 ∧ p.1 ≠ L + 1 + 1 := fun p hp => (hXn p hp).2.2.2
  clear N3 N2 F2 hX hXn
  have hlen : us.length ≤ 25 := by omega
  clear hul hn2 hk
  have hpos := lines_pos nn
  have hW5 := lines_w5 nn
  have hLL := (lines_len nn).1
  have hLn := (lines_len nn).2
  generalize linesOf nn = lss at hda hW5 hLL hLn hpos
  have hul := hda.length
  rw [List.length_map] at hul
  have AB0 : AllBare s.gens := AllBare.of_eq hgs
  have h768 : g.get? 768 = none := by rw [← hg]; exact hideAll_none _ (.head _)
  have BM : BMain mg g := by
    obtain ⟨bm, ob, e1, e2, e3, e4, e5, e6⟩ := T₀.bmain
    refine ⟨bm, ob, e1, e2, ?_, e4, e5, e6⟩
    rw [← hg]
    refine hideAll_get _ e3 fun hm => ?_
    rw [List.mem_singleton.mp hm, ht] at e3
    cases e3
    cases e4
  k_steps
  rename Fr g L _ _ => FA
  rename News g L _ _ => NA
  refine hold_out (comp_J FA (l := Dl) (items := us.toArray) (J := fun i ys X' gs dr os => ∃ ps Y, X' = (768, tabO ps) :: (Y ++ ((L + 1, o1) :: (L + 1 + 1, o2) :: X)) ∧ TabOk ps ∧ AllBare gs ∧ os = s.os ∧ DatAll Y ys ((lss.take i).map lineD) ∧ ∀ p ∈ Y, p.1 ≠ 768 ∧ p.1 ≠ L + 1 ∧ p.1 ≠ L + 1 + 1) hh (by simp; omega) (by with_unfolding_all rfl) (by decide) (by rfl) (by decide) (by rfl) ?_ ?_ ?_ ?_)
  · rintro i ys X' gs dr os hp _ N ⟨ps, Y, rfl, _⟩
    exact ⟨_, (N _ (.tail _ (List.mem_append.mpr (.inr (.tail _ (.tail _ hDm)))))).1, rfl, _, rfl⟩
  · k_steps
    exact ⟨_, rfl, FA, NA, #[], [], rfl, .inl rfl, AB0, rfl, DatAll.nil, fun p hp => nomatch hp⟩
  · rintro i v ys X' s' I oI C oC D m₂ E' hv ⟨ps, Y, rfl, htp, AB, hos, hda', hY⟩ hC hx F5 N5 off ne
    have hi' : i < lss.length := by
      have := (Array.getElem?_eq_some_iff.mp hv).1
      simpa [hul] using this
    obtain ⟨v', hv', hdv⟩ := hda.get (k := i) (by simpa using hi')
    have hvv : v = v' := by
      have h1 : us[i]? = some v := by simpa using hv
      rw [h1] at hv'; exact Option.some.inj hv'
    subst hvv
    rw [List.getElem_map] at hdv
    obtain ⟨a9, vs9, c9, rfl, ha9, hst⟩ := line_of hdv
    have hw9 := hW5 _ (List.getElem_mem hi')
    have hl9 := hLL _ (List.getElem_mem hi')
    have htk : lss.take (i + 1) = lss.take i ++ [lss[i]] := take_snoc hi'
    generalize lss[i] = ws9 at hst hw9 hl9 htk
    k_steps
    rename Fr g L _ _ => F6
    rename News g L _ _ => N6
    have hN6 := N6 _ (.tail _ (.tail _ (.tail _ (.tail _ (List.mem_append.mpr (.inr (.tail _ (.tail _ ha9))))))))
    refine hold_out (wpAny_call (join_ok (mg := mg) (mb := mb) (h₀ := g) (ps := ps) ⟨KX, TT⟩ F6.keep h768 BM (N6 _ (.tail _ (.tail _ (.tail _ (.head _))))).1 htp AB hN6.1 hst hw9 (by omega) hh (by show A.depth + 1 < 870; omega) fun s7 t7 kj => ?_))
    have off' := off.mem
    have hN7 : News g L _ ((768, tabO ps) :: (I, oI) :: (C, oC) :: (D, LCg.lst ys) :: (Y ++ ((L + 1, o1) :: (L + 1 + 1, o2) :: X))) := fun p hp => N6 p (by
      rcases List.mem_cons.mp hp with rfl | hp
      · exact .tail _ (.tail _ (.tail _ (.head _)))
      · rcases List.mem_cons.mp hp with rfl | hp
        · exact .head _
        · rcases List.mem_cons.mp hp with rfl | hp
          · exact .tail _ (.head _)
          · rcases List.mem_cons.mp hp with rfl | hp
            · exact .tail _ (.tail _ (.head _))
            · exact .tail _ (.tail _ (.tail _ (.tail _ hp))))
    have off7 := off' (768, tabO ps) (.head _)
    obtain ⟨ps7, F7, N7, htp7, AB7, os7⟩ := use_J F6 hN7 (fun p hp => by
      rcases List.mem_cons.mp hp with rfl | hp
      · exact Ne.symm off7.1
      · rcases List.mem_cons.mp hp with rfl | hp
        · exact Ne.symm off7.2.1
        · rcases List.mem_cons.mp hp with rfl | hp
          · exact Ne.symm off7.2.2
          · rcases List.mem_append.mp hp with q | q
            · exact (hY p q).1
            · rcases List.mem_cons.mp q with rfl | q
              · exact Nat.ne_of_gt (Nat.lt_succ_of_lt hLgt)
              · rcases List.mem_cons.mp q with rfl | q
                · exact Nat.ne_of_gt (Nat.lt_succ_of_lt (Nat.lt_succ_of_lt hLgt))
                · exact (hX7 p q).1) kj
    clear N6 F6 hN7 kj hN6
    k_steps
    have hlj := join_len qt_len ws9
    refine hold_out (wpAny_call (split_ok (mg := mg) (mb := mb) (h₀ := g) ⟨KX, TT⟩ F7.keep (Around.frames_deeper hfr) (frames_one F7 rfl rfl) hh (by show A.depth + 1 < 800; omega) (rd_join ws9 hw9) (by omega) (by omega) fun s8 D8 vs8 c8 kx hD8 hge8 hs8 => ?_))
    obtain ⟨h8, tk8, rfl, F8, N8⟩ := use_X rfl F7 N7 kx
    have hnew : ∀ p ∈ (768, tabO ps7) :: (I, oI) :: (C, oC) :: (D, LCg.lst ys) :: (Y ++ ((L + 1, o1) :: (L + 1 + 1, o2) :: X)), p.1 < D8 := fun p hp => Nat.lt_of_lt_of_le (Heap.lt_size (N7 p hp).1) hge8
    have N9 := News.add F7 N8 hD8 hge8
    refine ⟨(768, tabO ps7) :: (((D8, listOf vs8.toArray c8) :: Y) ++ ((L + 1, o1) :: (L + 1 + 1, o2) :: X)), F8, fun p hp => N9 p ?_, LCg.Off3.of fun p hp => ?_, ps7, (D8, listOf vs8.toArray c8) :: Y, rfl, htp7, AB7, os7.trans hos, ?_, ?_⟩
    · rcases List.mem_cons.mp hp with rfl | hp
      · exact .tail _ (.tail _ (.head _))
      · rcases List.mem_cons.mp hp with rfl | hp
        · exact .tail _ (.tail _ (.tail _ (.head _)))
        · rcases List.mem_cons.mp hp with rfl | hp
          · exact .tail _ (.tail _ (.tail _ (.tail _ (.head _))))
          · rcases List.mem_cons.mp hp with rfl | hp
            · exact .tail _ (.head _)
            · rcases List.mem_cons.mp hp with rfl | hp
              · exact .head _
              · exact .tail _ (.tail _ (.tail _ (.tail _ (.tail _ hp))))
    · rcases List.mem_cons.mp hp with rfl | hp
      · exact off7
      · rcases List.mem_cons.mp hp with rfl | hp
        · exact ⟨Nat.ne_of_gt (hnew _ (.tail _ (.head _))), Nat.ne_of_gt (hnew _ (.tail _ (.tail _ (.head _)))), Nat.ne_of_gt (hnew _ (.tail _ (.tail _ (.tail _ (.head _)))))⟩
        · exact off' p (.tail _ hp)
    · rw [htk, List.map_append]
      exact (hda'.mono fun p hp => .tail _ hp).append (.one (.list (.head _) (datStrs hs8)))
    · intro p hp
      rcases List.mem_cons.mp hp with rfl | hp
      · have h1 := hnew (768, tabO ps7) (.head _)
        have h2 := hnew (L + 1, o1) (.tail _ (.tail _ (.tail _ (.tail _ (List.mem_append.mpr (.inr (.head _)))))))
        have h3 := hnew (L + 1 + 1, o2) (.tail _ (.tail _ (.tail _ (.tail _ (List.mem_append.mpr (.inr (.tail _ (.head _))))))))
        exact ⟨Nat.ne_of_gt h1, Nat.ne_of_gt h2, Nat.ne_of_gt h3⟩
      · exact hY p hp
  · rintro D ys X' s' ⟨ps, Y, rfl, htp, AB, hos, hdr, hY⟩ F5 N5 hne
    rw [List.take_of_length_le (by simp [hul])] at hdr
    have hO : ∀ p ∈ (D, listOf ys.toArray ys.length) :: (Y ++ X), p.1 ≠ 768 ∧ p.1 ≠ L + 1 ∧ p.1 ≠ L + 1 + 1 := fun p hp => by
      rcases List.mem_cons.mp hp with rfl | hp
      · exact ⟨Ne.symm (hne (768, tabO ps) (.head _)), Ne.symm (hne (L + 1, o1) (.tail _ (List.mem_append.mpr (.inr (.head _))))), Ne.symm (hne (L + 1 + 1, o2) (.tail _ (List.mem_append.mpr (.inr (.tail _ (.head _))))))⟩
      · rcases List.mem_append.mp hp with q | q
        · exact hY p q
        · exact hX7 p q
    have N6 : News g L s'.heap ((768, tabO ps) :: (L + 1, o1) :: (L + 1 + 1, o2) :: ((D, listOf ys.toArray ys.length) :: (Y ++ X))) := fun p hp => N5 p (by
      rcases List.mem_cons.mp hp with rfl | hp
      · exact .tail _ (.head _)
      · rcases List.mem_cons.mp hp with rfl | hp
        · exact .tail _ (.tail _ (List.mem_append.mpr (.inr (.head _))))
        · rcases List.mem_cons.mp hp with rfl | hp
          · exact .tail _ (.tail _ (List.mem_append.mpr (.inr (.tail _ (.head _)))))
          · rcases List.mem_cons.mp hp with rfl | hp
            · exact .head _
            · rcases List.mem_append.mp hp with q | q
              · exact .tail _ (.tail _ (List.mem_append.mpr (.inl q)))
              · exact .tail _ (.tail _ (List.mem_append.mpr (.inr (.tail _ (.tail _ q))))))
    have hDm2 : (Dl, listOf us.toArray c) ∈ (D, listOf ys.toArray ys.length) :: (Y ++ X) := .tail _ (List.mem_append.mpr (.inr hDm))
    have hDr : (D, listOf ys.toArray ys.length) ∈ (D, listOf ys.toArray ys.length) :: (Y ++ X) := .head _
    have hda2 : DatAll ((D, listOf ys.toArray ys.length) :: (Y ++ X)) us (lss.map lineD) := hda.mono fun p hp => .tail _ (List.mem_append.mpr (.inr hp))
    have hdr2 : DatAll ((D, listOf ys.toArray ys.length) :: (Y ++ X)) ys (lss.map lineD) := hdr.mono fun p hp => .tail _ (List.mem_append.mpr (.inl hp))
    clear hda hdr hDm hne hY hX7 N5 NA FA
    generalize hcr : ys.length = cr at *
    have hyl : ys.length = lss.length := by rw [hdr2.length, List.length_map]
    generalize (D, listOf ys.toArray cr) :: (Y ++ X) = O at *
    k_steps
    rename Fr g L _ _ => FA
    rename News g L _ _ => NA
    refine hold_out (comp_J FA (l := Dl) (items := us.toArray) (J := fun i zs X' gs dr os => ∃ Z, X' = Z ++ ((768, tabO ps) :: (L + 1, o1) :: (L + 1 + 1, o2) :: O) ∧ AllBare gs ∧ os = s.os ∧ DatAll Z zs ((lss.take i).map lineD) ∧ ∀ p ∈ Z, p.1 ≠ 768 ∧ p.1 ≠ L + 1 ∧ p.1 ≠ L + 1 + 1) hh (by simp; omega) (by with_unfolding_all rfl) (by decide) (by rfl) (by decide) (by rfl) ?_ ?_ ?_ ?_)
    · rintro i zs X' gs dr os hp _ N ⟨Z, rfl, _⟩
      exact ⟨_, (N _ (List.mem_append.mpr (.inr (.tail _ (.tail _ (.tail _ hDm2)))))).1, rfl, _, rfl⟩
    · k_steps
      exact ⟨_, rfl, FA, NA, [], rfl, AB, hos, DatAll.nil, fun p hp => nomatch hp⟩
    · rintro i v zs X' s' I oI C oC E m₂ E' hv ⟨Z, rfl, AB, hos, hda', hZ⟩ hC hx F5 N5 off ne
      have hi' : i < lss.length := by
        have := (Array.getElem?_eq_some_iff.mp hv).1
        simpa [hul] using this
      obtain ⟨v', hv', hdv⟩ := hda2.get (k := i) (by simpa using hi')
      have hvv : v = v' := by
        have h1 : us[i]? = some v := by simpa using hv
        rw [h1] at hv'; exact Option.some.inj hv'
      subst hvv
      rw [List.getElem_map] at hdv
      obtain ⟨a9, vs9, c9, rfl, ha9, hst⟩ := line_of hdv
      have hw9 := hW5 _ (List.getElem_mem hi')
      have hl9 := hLL _ (List.getElem_mem hi')
      have htk : lss.take (i + 1) = lss.take i ++ [lss[i]] := take_snoc hi'
      generalize lss[i] = ws9 at hst hw9 hl9 htk
      have hvl9 := hst.length
      k_steps
      rename Fr g L _ _ => F6
      rename News g L _ _ => N6
      have hN6 := N6 _ (.tail _ (.tail _ (.tail _ (List.mem_append.mpr (.inr (.tail _ (.tail _ (.tail _ ha9))))))))
      refine hold_out (wpAny_call (written_ok (mg := mg) (mb := mb) (h₀ := g) ⟨KX, TT⟩ F6.keep hN6.1 hN6.2.2 hst hw9 (by omega) hh (by show A.depth + 1 < 870; omega) fun s7 t7 kj => ?_))
      obtain ⟨h7, tk7, rfl, F7, N7⟩ := Keeps.use kj F6 N6
      clear N6 F6 hN6 kj
      k_steps
      have hlj := join_len wq_len ws9
      refine hold_out (wpAny_call (split_ok (mg := mg) (mb := mb) (h₀ := g) ⟨KX, TT⟩ F7.keep (Around.frames_deeper hfr) (frames_one F7 rfl rfl) hh (by show A.depth + 1 < 800; omega) (rd_written ws9 hw9) (by omega) (by omega) fun s8 D8 vs8 c8 kx hD8 hge8 hs8 => ?_))
      obtain ⟨h8, tk8, rfl, F8, N8⟩ := use_X rfl F7 N7 kx
      have hnew : ∀ p ∈ (I, oI) :: (C, oC) :: (E, LCg.lst zs) :: (Z ++ ((768, tabO ps) :: (L + 1, o1) :: (L + 1 + 1, o2) :: O)), p.1 < D8 := fun p hp => Nat.lt_of_lt_of_le (Heap.lt_size (N7 p hp).1) hge8
      have N9 := News.add F7 N8 hD8 hge8
      refine ⟨((D8, listOf vs8.toArray c8) :: Z) ++ ((768, tabO ps) :: (L + 1, o1) :: (L + 1 + 1, o2) :: O), F8, fun p hp => N9 p ?_, LCg.Off3.of fun p hp => ?_, (D8, listOf vs8.toArray c8) :: Z, rfl, AB, hos, ?_, ?_⟩
      · rcases List.mem_cons.mp hp with rfl | hp
        · exact .tail _ (.head _)
        · rcases List.mem_cons.mp hp with rfl | hp
          · exact .tail _ (.tail _ (.head _))
          · rcases List.mem_cons.mp hp with rfl | hp
            · exact .tail _ (.tail _ (.tail _ (.head _)))
            · rcases List.mem_cons.mp hp with rfl | hp
              · exact .head _
              · exact .tail _ (.tail _ (.tail _ (.tail _ hp)))
      · rcases List.mem_cons.mp hp with rfl | hp
        · exact ⟨Nat.ne_of_gt (hnew _ (.head _)), Nat.ne_of_gt (hnew _ (.tail _ (.head _))), Nat.ne_of_gt (hnew _ (.tail _ (.tail _ (.head _))))⟩
        · exact off.mem p hp
      · rw [htk, List.map_append]
        exact (hda'.mono fun p hp => .tail _ hp).append (.one (.list (.head _) (datStrs hs8)))
      · intro p hp
        rcases List.mem_cons.mp hp with rfl | hp
        · have h1 := hnew (768, tabO ps) (.tail _ (.tail _ (.tail _ (List.mem_append.mpr (.inr (.head _))))))
          have h2 := hnew (L + 1, o1) (.tail _ (.tail _ (.tail _ (List.mem_append.mpr (.inr (.tail _ (.head _)))))))
          have h3 := hnew (L + 1 + 1, o2) (.tail _ (.tail _ (.tail _ (List.mem_append.mpr (.inr (.tail _ (.tail _ (.head _))))))))
          exact ⟨Nat.ne_of_gt h1, Nat.ne_of_gt h2, Nat.ne_of_gt h3⟩
        · exact hZ p hp
    · rintro E zs X' s' ⟨Z, rfl, AB, hos, hdw, hZ⟩ F5 N5 hne
      rw [List.take_of_length_le (by simp [hul])] at hdw
      k_steps
      rename Fr g L _ _ => F6
      rename News g L _ _ => N6
      refine unpackItemsN_ F6 N6 ⟨_, (N6 _ (.head _)).1, rfl, _, rfl⟩ hh rfl fun h7 F7 N7 => ?_
      have hO2 : ∀ p ∈ (E, listOf zs.toArray zs.length) :: (Z ++ O), p.1 ≠ 768 ∧ p.1 ≠ L + 1 ∧ p.1 ≠ L + 1 + 1 := fun p hp => by
        rcases List.mem_cons.mp hp with rfl | hp
        · exact ⟨Ne.symm (hne (768, tabO ps) (List.mem_append.mpr (.inr (.head _)))), Ne.symm (hne (L + 1, o1) (List.mem_append.mpr (.inr (.tail _ (.head _))))), Ne.symm (hne (L + 1 + 1, o2) (List.mem_append.mpr (.inr (.tail _ (.tail _ (.head _))))))⟩
        · rcases List.mem_append.mp hp with q | q
          · exact hZ p q
          · exact hO p q
      have N8 : News g L h7 ((768, tabO ps) :: (L + 1, o1) :: (L + 1 + 1, o2) :: ((E, listOf zs.toArray zs.length) :: (Z ++ O))) := fun p hp => N7 p (.tail _ (by
        rcases List.mem_cons.mp hp with rfl | hp
        · exact .tail _ (List.mem_append.mpr (.inr (.head _)))
        · rcases List.mem_cons.mp hp with rfl | hp
          · exact .tail _ (List.mem_append.mpr (.inr (.tail _ (.head _))))
          · rcases List.mem_cons.mp hp with rfl | hp
            · exact .tail _ (List.mem_append.mpr (.inr (.tail _ (.tail _ (.head _)))))
            · rcases List.mem_cons.mp hp with rfl | hp
              · exact .head _
              · rcases List.mem_append.mp hp with q | q
                · exact .tail _ (List.mem_append.mpr (.inl q))
                · exact .tail _ (List.mem_append.mpr (.inr (.tail _ (.tail _ (.tail _ q)))))))
      have hdl : DatAll ((E, listOf zs.toArray zs.length) :: (Z ++ O)) us (lss.map lineD) := hda2.mono fun p hp => .tail _ (List.mem_append.mpr (.inr hp))
      have hdr : DatAll ((E, listOf zs.toArray zs.length) :: (Z ++ O)) ys (lss.map lineD) := hdr2.mono fun p hp => .tail _ (List.mem_append.mpr (.inr hp))
      have hdw' : DatAll ((E, listOf zs.toArray zs.length) :: (Z ++ O)) zs (lss.map lineD) := hdw.mono fun p hp => .tail _ (List.mem_append.mpr (.inl hp))
      have hml : (Dl, listOf us.toArray c) ∈ (E, listOf zs.toArray zs.length) :: (Z ++ O) := .tail _ (List.mem_append.mpr (.inr hDm2))
      have hmr : (D, listOf ys.toArray cr) ∈ (E, listOf zs.toArray zs.length) :: (Z ++ O) := .tail _ (List.mem_append.mpr (.inr hDr))
      have hmw : (E, listOf zs.toArray zs.length) ∈ (E, listOf zs.toArray zs.length) :: (Z ++ O) := .head _
      have hzl : zs.length = lss.length := by rw [hdw.length, List.length_map]
      clear hda2 hdr2 hDm2 hDr hdw hne hZ hO N7 N6 F6
      generalize zs.length = cw at *
      generalize (E, listOf zs.toArray cw) :: (Z ++ O) = P at *
      have hokL := kqd_lines hW5
      k_steps
      rename Fr g L _ _ => F6
      rename News g L _ _ => N6
      refine hold_out (for_gen (h₀ := g) (L := L) (l := D) (items := ys.toArray) (J := fun i m' Y gs dr os => ∃ ps oL oO vL vO fa sa', Y = (768, tabO ps) :: (L + 1, oL) :: (L + 1 + 1, oO) :: P ∧ (TabOk ps ∧ AllBare gs ∧ os = s.os ∧ oL.data = .cell vL ∧ oO.data = .cell vO) ∧
        m' = fun (y : Str) => if y = "same" then sa' else if y = "firsts" then fa else if y = "read" then some (Value.ref D) else if y = "written" then some (Value.ref E) else if y = "lines" then some (Value.ref Dl) else if y = "script" then some (Value.ref sa) else none) (.inl hh) ?_ ?_ ?_ ?_)
      · rintro i m' Y gs dr os hp _ N ⟨ps, oL, oO, vL, vO, fa, sa', rfl, _⟩
        exact ⟨_, (N _ (.tail _ (.tail _ (.tail _ hmr)))).1, rfl, _, rfl⟩
      · k_steps
        refine ⟨_, _, rfl, fr_congr F6 (fun y => ?_), N6, ps, o1, o2, none, none, none, none, rfl, ⟨htp, AB, hos, hc1, hc2⟩, rfl⟩
        by_cases h1 : y = "same"
        · subst h1; rfl
        · by_cases h2 : y = "firsts"
          · subst h2; rfl
          · simp only [if_neg h1, if_neg h2]
      · rintro i x m' Y s' I oI hx ⟨ps, oL, oO, vL, vO, fa, sa', rfl, ⟨htp, AB, hos, hcL, hcO⟩, rfl⟩ F7 N7 hne7
        have hi' : i < lss.length := by
          have := (Array.getElem?_eq_some_iff.mp hx).1
          simpa [hyl] using this
        obtain ⟨v', hv', hdv⟩ := hdr.get (k := i) (by simpa using hi')
        have hvv : x = v' := by
          have h1 : ys[i]? = some x := by simpa using hx
          rw [h1] at hv'; exact Option.some.inj hv'
        subst hvv
        rw [List.getElem_map] at hdv
        obtain ⟨a9, vs9, c9, rfl, ha9, hst⟩ := line_of hdv
        have hw9 := hW5 _ (List.getElem_mem hi')
        have hl9 := hLL _ (List.getElem_mem hi')
        generalize lss[i] = ws9 at hst hw9 hl9
        have hvl9 := hst.length
        have h768a : (768 : Addr) ≠ L + 1 := Nat.ne_of_lt (Nat.lt_succ_of_lt hLgt)
        have h768b : (768 : Addr) ≠ L + 1 + 1 := Nat.ne_of_lt (Nat.lt_succ_of_lt (Nat.lt_succ_of_lt hLgt))
        have hI7 : I ≠ 768 ∧ I ≠ L + 1 ∧ I ≠ L + 1 + 1 := ⟨Ne.symm (hne7 _ (.head _)), Ne.symm (hne7 _ (.tail _ (.head _))), Ne.symm (hne7 _ (.tail _ (.tail _ (.head _))))⟩
        have hPI : ∀ p ∈ P, p.1 ≠ I := fun p hp => hne7 p (.tail _ (.tail _ (.tail _ hp)))
        clear hne7
        k_steps
        refine stCN (own := [(I, oI), (768, tabO ps)]) (c := L + 1) (rest := (L + 1 + 1, oO) :: P) F7 N7 (by rfl) hcL ?_ ?_ fun h8 oL8 F8 N8 hL8 => ?_
        · intro p hp
          simp only [List.mem_cons, List.mem_nil_iff, or_false] at hp
          rcases hp with rfl | rfl
          · exact hI7.2.1
          · exact h768a
        · intro p hp
          rcases List.mem_cons.mp hp with rfl | hp
          · exact Nat.succ_ne_self _
          · exact (hO2 p hp).2.1
        simp only [List.cons_append, List.nil_append] at N8
        clear F7 N7
        k_steps
        rename Fr g L _ _ => F9
        rename News g L _ _ => N9
        have hok9 := kqd_words hw9
        have hdt9 : DatAll P vs9 (ws9.map Dat.str) := datStrs hst
        have sub3 : ∀ p ∈ P, p ∈ (I, oI) :: (768, tabO ps) :: (L + 1, oL8) :: (L + 1 + 1, oO) :: P := fun p hp => .tail _ (.tail _ (.tail _ (.tail _ hp)))
        refine hold_out (wpAny_call (firsts_ok (mg := mg) (mb := mb) (h₀ := g) (X := P) ⟨KX, TT⟩ F9.keep (fun p hp => ⟨(N9 p (sub3 p hp)).1, (N9 p (sub3 p hp)).2.2⟩) ha9 hdt9 hok9 (by omega) hh (by show A.depth + 1 < 870; omega) (by k_units) fun s10 Df uf cf hk hDf hDf0 hdf hful => ?_))
        obtain ⟨h10, tk10, rfl, F10, N10⟩ := Keeps.use hk F9 N9
        obtain ⟨N11, hneF⟩ := add_fresh F9 N9 N10 hDf hDf0
        rw [dd_words] at hdf
        have hsf := strs_of hdf
        have hwf : ∀ x ∈ fw ws9, W5 x := fun x hx => hw9 x (fw_mem hx)
        have hlf := fw_len ws9
        have hokf := kqd_words hwf
        clear N10 hk F9 N9 hDf hDf0
        k_steps
        rename Fr g L _ _ => F12
        rename News g L _ _ => N12
        refine hold_out (dedup_K (mg := mg) (mb := mb) F12 KX TT N12 (.tail _ (.tail _ (.tail _ (.tail _ (.tail _ ha9))))) hst (by omega) hh (by show A.depth + 1 < 870; omega) fun D3 o3 h13 tk13 F13 N13 hd3 lo3 hne3 => ?_)
        clear F12 N12
        k_steps
        refine hold_out (listd_K F13 N13 (.head _) hd3 lo3 (by omega) hh fun D4 c4 h14 tk14 vs4 F14 N14 l14 hs4 hl4 => ?_)
        have hd4 : DatAll P vs4 ((fw ws9).map Dat.str) := datStrs hs4
        clear F13 N13
        k_steps
        rename Fr g L _ _ => F15
        rename News g L _ _ => N15
        have sub6 : ∀ p ∈ P, p ∈ (D4, listOf vs4.toArray c4) :: (D3, o3) :: (Df, listOf uf.toArray cf) :: (I, oI) :: (768, tabO ps) :: (L + 1, oL8) :: (L + 1 + 1, oO) :: P := fun p hp => .tail _ (.tail _ (.tail _ (.tail _ (.tail _ (.tail _ (.tail _ hp))))))
        refine hold_out (wpAny_call (dedupU_ok (mg := mg) (mb := mb) (h₀ := g) (X := P) ⟨KX, TT⟩ F15.keep (fun p hp => ⟨(N15 p (sub6 p hp)).1, (N15 p (sub6 p hp)).2.2⟩) ha9 hdt9 hok9 (by omega) (.inl hh) (by show A.depth + 1 < 870; omega) (by k_units) fun s16 D6 u6 c6 hk hD6 hD60 hd6 hul6 => ?_))
        obtain ⟨h16, tk16, rfl, F16, N16⟩ := Keeps.use hk F15 N15
        obtain ⟨N17, hne6⟩ := add_fresh F15 N15 N16 hD6 hD60
        rw [dd_words] at hd6
        clear N16 hk F15 N15 hD6 hD60
        k_steps
        rename Fr g L _ _ => F18
        rename News g L _ _ => N18
        have N19 : News g L _ ((768, tabO ps) :: (Df, listOf uf.toArray cf) :: (I, oI) :: (L + 1, oL8) :: (L + 1 + 1, oO) :: P) := fun p hp => N18 p (by
          simp only [List.mem_cons] at hp ⊢
          rcases hp with h | h | h | h | h | h <;> simp only [h, true_or, or_true])
        clear N18
        refine hold_out (wpAny_call (join_ok (mg := mg) (mb := mb) (h₀ := g) (ps := ps) ⟨KX, TT⟩ F18.keep h768 BM (N19 _ (.head _)).1 htp AB (N19 _ (.tail _ (.head _))).1 hsf hwf (by omega) hh (by show A.depth + 1 < 870; omega) fun s20 t20 kj => ?_))
        have hDf8 : Df ≠ 768 ∧ Df ≠ L + 1 ∧ Df ≠ L + 1 + 1 := ⟨Ne.symm (hneF _ (.tail _ (.head _))), Ne.symm (hneF _ (.tail _ (.tail _ (.head _)))), Ne.symm (hneF _ (.tail _ (.tail _ (.tail _ (.head _)))))⟩
        have hDfP : ∀ p ∈ P, p.1 ≠ Df := fun p hp => hneF p (sub3 p hp)
        have hDfI : I ≠ Df := hneF _ (.head _)
        obtain ⟨ps20, F20, N20, htp20, AB20, os20⟩ := use_J F18 N19 (fun p hp => by
          rcases List.mem_cons.mp hp with rfl | hp
          · exact hDf8.1
          · rcases List.mem_cons.mp hp with rfl | hp
            · exact hI7.1
            · rcases List.mem_cons.mp hp with rfl | hp
              · exact Ne.symm h768a
              · rcases List.mem_cons.mp hp with rfl | hp
                · exact Ne.symm h768b
                · exact (hO2 p hp).1) kj
        clear F18 N19 kj hneF
        k_steps
        have hlj := join_len qt_len (fw ws9)
        refine hold_out (wpAny_call (split_ok (mg := mg) (mb := mb) (h₀ := g) ⟨KX, TT⟩ F20.keep (Around.frames_deeper hfr) (frames_one F20 rfl rfl) hh (by show A.depth + 1 < 800; omega) (rd_join (fw ws9) hwf) (by omega) (by omega) fun s21 D21 vs21 c21 kx hD21 hge21 hs21 => ?_))
        obtain ⟨h21, tk21, rfl, F21, N21⟩ := use_X rfl F20 N20 kx
        have N22 := News.add F20 N21 hD21 hge21
        have hd21 : DatAll P vs21 ((fw ws9).map Dat.str) := datStrs hs21
        clear kx F20 N20 N21 hD21 hge21
        k_steps
        rename Fr g L _ _ => F23
        rename News g L _ _ => N23
        have F24 := fr_congr F23 (m' := fun (y : Str) => if y = "same" then sa' else if y = "firsts" then some (Value.ref Df) else if y = "read" then some (Value.ref D) else if y = "written" then some (Value.ref E) else if y = "lines" then some (Value.ref Dl) else if y = "script" then some (Value.ref sa) else none) (fun y => by
          by_cases h1 : y = "firsts"
          · subst h1; rfl
          · simp only [if_neg h1])
        have N24 : News g L _ ((I, oI) :: (768, tabO ps20) :: (L + 1, oL8) :: (L + 1 + 1, oO) :: P) := fun p hp => N23 p (by
          simp only [List.mem_cons] at hp ⊢
          rcases hp with h | h | h | h | h <;> simp only [h, true_or, or_true])
        clear F23 N23
        refine hold_out (for_gen (h₀ := g) (L := L) (l := E) (items := zs.toArray) (J := fun j m' Y gs dr os => ∃ oO vO sa2, Y = (I, oI) :: (768, tabO ps20) :: (L + 1, oL8) :: (L + 1 + 1, oO) :: P ∧ (AllBare gs ∧ os = s.os ∧ oO.data = .cell vO) ∧
          m' = fun (y : Str) => if y = "same" then sa2 else if y = "firsts" then some (Value.ref Df) else if y = "read" then some (Value.ref D) else if y = "written" then some (Value.ref E) else if y = "lines" then some (Value.ref Dl) else if y = "script" then some (Value.ref sa) else none) (.inl hh) ?_ ?_ ?_ ?_)
        · rintro j m' Y gs dr os hp _ N ⟨oO, vO, sa2, rfl, _⟩
          exact ⟨_, (N _ (.tail _ (.tail _ (.tail _ (.tail _ hmw))))).1, rfl, _, rfl⟩
        · k_steps
          exact ⟨_, _, rfl, F24, N24, oO, vO, sa', rfl, ⟨AB20, os20.trans hos, hcO⟩, rfl⟩
        · clear F24 N24 hcO
          rintro j x m' Y s' I2 oI2 hx2 ⟨oO, vO, sa2, rfl, ⟨AB2, hos2, hcO⟩, rfl⟩ F7 N7 hne7
          have hj' : j < lss.length := by
            have := (Array.getElem?_eq_some_iff.mp hx2).1
            have hz9 := hdw'.length
            rw [List.length_map] at hz9
            simpa [hz9] using this
          obtain ⟨v', hv', hdv⟩ := hdw'.get (k := j) (by simpa using hj')
          have hvv : x = v' := by
            have h1 : zs[j]? = some x := by simpa using hx2
            rw [h1] at hv'; exact Option.some.inj hv'
          subst hvv
          rw [List.getElem_map] at hdv
          obtain ⟨b9, vsb, cb, rfl, hb9, hstb⟩ := line_of hdv
          have hwb := hW5 _ (List.getElem_mem hj')
          have hlb := hLL _ (List.getElem_mem hj')
          generalize lss[j] = wsb at hstb hwb hlb
          have hvlb := hstb.length
          have hneJ : ∀ (oq : Obj) (p : Addr × Obj), p ∈ (I, oI) :: (768, tabO ps20) :: (L + 1, oL8) :: (L + 1 + 1, oq) :: P → p.1 ≠ I2 := fun oq p hp => by
            rcases List.mem_cons.mp hp with rfl | hp
            · exact hne7 _ (.head _)
            · rcases List.mem_cons.mp hp with rfl | hp
              · exact hne7 _ (.tail _ (.head _))
              · rcases List.mem_cons.mp hp with rfl | hp
                · exact hne7 _ (.tail _ (.tail _ (.head _)))
                · rcases List.mem_cons.mp hp with rfl | hp
                  · exact hne7 (L + 1 + 1, oO) (.tail _ (.tail _ (.tail _ (.head _))))
                  · exact hne7 p (.tail _ (.tail _ (.tail _ (.tail _ hp))))
          have hI2 : I2 ≠ 768 ∧ I2 ≠ L + 1 ∧ I2 ≠ L + 1 + 1 ∧ I2 ≠ I := ⟨Ne.symm (hne7 _ (.tail _ (.head _))), Ne.symm (hne7 _ (.tail _ (.tail _ (.head _)))), Ne.symm (hne7 _ (.tail _ (.tail _ (.tail _ (.head _))))), Ne.symm (hne7 _ (.head _))⟩
          k_steps
          refine stCN (own := [(I2, oI2), (I, oI), (768, tabO ps20), (L + 1, oL8)]) (c := L + 1 + 1) (rest := P) F7 N7 (by rfl) hcO ?_ ?_ fun h8 oO8 F8 N8 hO8 => ?_
          · intro p hp
            simp only [List.mem_cons, List.mem_nil_iff, or_false] at hp
            rcases hp with rfl | rfl | rfl | rfl
            · exact hI2.2.2.1
            · exact hI7.2.2
            · exact h768b
            · exact Ne.symm (Nat.succ_ne_self _)
          · exact fun p hp => (hO2 p hp).2.2
          simp only [List.cons_append, List.nil_append] at N8
          clear F7 N7
          have hdb : DatAll P vsb (wsb.map Dat.str) := datStrs hstb
          have hokb := kqd_words hwb
          k_steps
          rename Fr g L _ _ => F9
          rename News g L _ _ => N9
          refine hold_out (LCt.ListComp_T (cl := [("other", L + 1 + 1)]) F9 (by with_unfolding_all rfl) (by decide) (by rfl) (by decide) (by rfl) ?_)
          k_steps
          refine hold_out (LCt.CompSrcT.ledger hh F9 N9 (.tail _ (.tail _ (.tail _ (.tail _ (.tail _ ha9))))) (by rw [sizeLine_eq]; simp; omega) fun gg => ?_)
          rw [show vs9.toArray.size = vs9.length by simp]
          refine (?_ : ∀ k i us9, k + i = vs9.length → StrAre us9 (flt (ws9.take i) wsb) → LCt.CompRestT prog w _ g L _ _ _ _ _ _ _ _ _ _ _ k i us9 _) vs9.length 0 [] (by omega) trivial
          intro k
          induction k with
          | zero =>
            intro i us9 hki hus9
            refine LCt.CompRestT.zero fun D9 h9 tk9 F10 N10 o10 => ?_
            rw [List.take_of_length_le (by omega)] at hus9
            k_steps
            rename Fr g L _ _ => F11
            rename News g L _ _ => N11
            refine hold_out (LCt.ListComp_T (cl := [("line", L + 1)]) F11 (by with_unfolding_all rfl) (by decide) (by rfl) (by decide) (by rfl) ?_)
            k_steps
            refine hold_out (LCt.CompSrcT.ledger hh F11 N11 (.tail _ (.tail _ (.tail _ (.tail _ (.tail _ (.tail _ hb9)))))) (by rw [sizeLine_eq]; simp; omega) fun gg2 => ?_)
            rw [show vsb.toArray.size = vsb.length by simp]
            refine (?_ : ∀ k i usb, k + i = vsb.length → StrAre usb (flt (wsb.take i) ws9) → LCt.CompRestT prog w _ g L _ _ _ _ _ _ _ _ _ _ _ k i usb _) vsb.length 0 [] (by omega) trivial
            intro k
            induction k with
            | zero =>
              intro i usb hki husb
              refine LCt.CompRestT.zero fun D12 h12 tk12 F12 N12 o12 => ?_
              rw [List.take_of_length_le (by omega)] at husb
              k_steps
              rename Fr g L _ _ => F13
              rename News g L _ _ => N13
              have hl9s := hus9.length
              have hlbs := husb.length
              have hf9 := flt_len ws9 wsb
              have hfb := flt_len wsb ws9
              refine add_led F13 N13 (.tail _ (.head _)) (.head _) (by omega) (by omega) fun D14 h14 F14 N14 l14 => ?_
              have hsum : DatAll P (us9 ++ usb) ((flt ws9 wsb ++ flt wsb ws9).map Dat.str) := by rw [List.map_append]; exact (datStrs hus9).append (datStrs husb)
              have hokS : ∀ d ∈ (flt ws9 wsb ++ flt wsb ws9).map Dat.str, kqdOk 8 d = true := kqd_words fun x hx => by
                rcases List.mem_append.mp hx with q | q
                · exact hw9 x (flt_mem q).1
                · exact hwb x (flt_mem q).1
              have hnil : DatAll P [] [] := .nil
              have hokN : ∀ d ∈ ([] : List Dat), kqdOk 8 d = true := fun _ h => nomatch h
              clear F13 N13
              k_steps
              rename Fr g L _ _ => F15
              rename News g L _ _ => N15
              have N16 : News g L _ ((I2, oI2) :: (I, oI) :: (768, tabO ps20) :: (L + 1, oL8) :: (L + 1 + 1, oO8) :: P) := news_drop1 (news_drop1 (news_drop1 (news_drop1 N15)))
              clear N15
              refine hold_out (wpAny_call (compare_ok (mg := mg) (mb := mb) (h₀ := g) (X := P) ⟨KX, TT⟩ F15.keep (fun p hp => ⟨(N16 p (.tail _ (.tail _ (.tail _ (.tail _ (.tail _ hp)))))).1, (N16 p (.tail _ (.tail _ (.tail _ (.tail _ (.tail _ hp)))))).2.2⟩) (Around.frames_deeper hfr) (frames_one F15 rfl rfl) (fun b hb hm => ?_) ha9 hdt9 hok9 (by omega) hb9 hdb hokb (by omega) hh (by show A.depth + 1 < 860; omega) (by k_units) fun s17 kx => ?_))
              · obtain ⟨p, hp, e⟩ := List.mem_map.mp hm
                have hbL : b = L := List.mem_singleton.mp hb
                exact (N16 p (.tail _ (.tail _ (.tail _ (.tail _ (.tail _ hp)))))).2.1 (e.trans hbL)
              obtain ⟨h17, tk17, rfl, F17, N17⟩ := use_X rfl F15 N16 kx
              rw [cmp_words]
              clear kx F15 N16
              k_steps
              · rename (_ != _) = true => hq
                simp at hq
              · rename Fr g L _ _ => F18
                rename News g L _ _ => N18
                exact ⟨_, _, fr_congr F18 (fun y => by
                  by_cases h1 : y = "same"
                  · subst h1; rfl
                  · simp only [if_neg h1]), N18, fun p hp => hneJ _ p hp, oO8, some (Value.ref b9), _, rfl, ⟨AB2, hos2, hO8⟩, rfl⟩
            | succ k ih =>
              intro i usb hki husb
              refine LCt.CompRestT.succ ?_
              intro v I3 oI3 C3 oC3 D3 m₂ h2 tk2 E' hv hC hx F3 N3 off ne
              have hv' : vsb[i]? = some v := by simpa using hv
              obtain ⟨t9, rfl, hin⟩ := hstb.get i v hv'
              generalize wsb.getD i "" = x9 at *
              have htk9 : wsb.take (i + 1) = wsb.take i ++ [x9] := by rw [List.take_add_one, hin]; rfl
              have hdx9 : DatIn P (Value.str x9 t9) (Dat.str x9) := .str _ _
              have hkx9 : kqdOk 8 (Dat.str x9) = true := w5_ok (hwb _ (List.mem_of_getElem? hin))
              k_steps
              · rename (decide _ = true) => hq
                have hq := str_mem.mp (by simpa only [decide_eq_true_eq] using hq)
                rename Fr g L _ _ => F5
                rename News g L _ _ => N5
                exact LCg.CompEnd.intro F5 N5 _ (fun p hp => hp) off (.inr ⟨_, .tail _ (.tail _ (.tail _ (.tail _ (.tail _ (.tail _ hb9))))), rfl, _, rfl⟩) (ih (i + 1) usb (by omega) (by rw [htk9, flt_snoc_in hq]; exact husb))
              · rename (decide _ = false) => hq
                have hq : ¬ _ := fun z => (by simpa only [decide_eq_false_iff_not] using hq : ¬ _) (str_mem.mpr z)
                rename Fr g L _ _ => F5
                rename News g L _ _ => N5
                exact LCg.CompEnd.intro F5 N5 _ (fun p hp => hp) off (.inr ⟨_, .tail _ (.tail _ (.tail _ (.tail _ (.tail _ (.tail _ hb9))))), rfl, _, rfl⟩) (ih (i + 1) (usb ++ [Value.str x9 t9]) (by omega) (by rw [htk9, flt_snoc_out hq]; exact husb.snoc))
          | succ k ih =>
            intro i us9 hki hus9
            refine LCt.CompRestT.succ ?_
            intro v I3 oI3 C3 oC3 D3 m₂ h2 tk2 E' hv hC hx F3 N3 off ne
            have hv' : vs9[i]? = some v := by simpa using hv
            obtain ⟨t9, rfl, hin⟩ := hst.get i v hv'
            generalize ws9.getD i "" = x9 at *
            have htk9 : ws9.take (i + 1) = ws9.take i ++ [x9] := by rw [List.take_add_one, hin]; rfl
            have hdx9 : DatIn P (Value.str x9 t9) (Dat.str x9) := .str _ _
            have hkx9 : kqdOk 8 (Dat.str x9) = true := w5_ok (hw9 _ (List.mem_of_getElem? hin))
            k_steps
            · rename (decide _ = true) => hq
              have hq := str_mem.mp (by simpa only [decide_eq_true_eq] using hq)
              rename Fr g L _ _ => F5
              rename News g L _ _ => N5
              exact LCg.CompEnd.intro F5 N5 _ (fun p hp => hp) off (.inr ⟨_, .tail _ (.tail _ (.tail _ (.tail _ (.tail _ ha9)))), rfl, _, rfl⟩) (ih (i + 1) us9 (by omega) (by rw [htk9, flt_snoc_in hq]; exact hus9))
            · rename (decide _ = false) => hq
              have hq : ¬ _ := fun z => (by simpa only [decide_eq_false_iff_not] using hq : ¬ _) (str_mem.mpr z)
              rename Fr g L _ _ => F5
              rename News g L _ _ => N5
              exact LCg.CompEnd.intro F5 N5 _ (fun p hp => hp) off (.inr ⟨_, .tail _ (.tail _ (.tail _ (.tail _ (.tail _ ha9)))), rfl, _, rfl⟩) (ih (i + 1) (us9 ++ [Value.str x9 t9]) (by omega) (by rw [htk9, flt_snoc_out hq]; exact hus9.snoc))
        · rintro m' Y s' ⟨oO, vO, sa2, rfl, ⟨AB2, hos2, hcO⟩, rfl⟩ F7 N7
          k_steps
          refine ⟨_, _, F7, N7, fun p hp => ?_, ps20, oL8, oO, some (Value.ref a9), vO, some (Value.ref Df), sa2, rfl, ⟨htp20, AB2, hos2, hL8, hcO⟩, rfl⟩
          rcases List.mem_cons.mp hp with rfl | hp
          · exact Ne.symm hI7.1
          · rcases List.mem_cons.mp hp with rfl | hp
            · exact Ne.symm hI7.2.1
            · rcases List.mem_cons.mp hp with rfl | hp
              · exact Ne.symm hI7.2.2
              · exact hPI p hp
      · rintro m' Y s' ⟨ps9, oL, oO, vL, vO, fa, sa', rfl, ⟨htp9, AB9, hos9, hcL, hcO⟩, rfl⟩ F7 N7
        have hFk : FkErr P us Dl := by
          obtain ⟨v0, hv0, hd0⟩ := hdl.get (k := 0) (by simpa using hpos)
          rw [List.getElem_map] at hd0
          obtain ⟨a0, vs0, c0', rfl, ha0, _⟩ := line_of hd0
          exact ⟨a0, _, hv0, ha0, rfl⟩
        k_steps
        refine' slice_rev F7 N7 (.tail _ (.tail _ (.tail _ hml))) ?hzq ?_ ?hsq
        case hzq => omega
        case hsq => with_unfolding_all rfl
        intro h8 D8 F8 N8 l8
        clear F7 N7
        k_steps
        rename Fr g L _ _ => F9
        rename News g L _ _ => N9
        have N10 : News g L _ ((D8, listOf us.reverse.toArray 0) :: P) := fun p hp => N9 p (by
          simp only [List.mem_cons] at hp ⊢
          rcases hp with h | h <;> simp only [h, true_or, or_true])
        refine hold_out (wpAny_call (compare_ok (mg := mg) (mb := mb) (h₀ := g) (X := (D8, listOf us.reverse.toArray 0) :: P) (ds := lss.map lineD) (es := (lss.map lineD).reverse) ⟨KX, TT⟩ F9.keep (fun p hp => ⟨(N10 p hp).1, (N10 p hp).2.2⟩) (Around.frames_deeper hfr) (frames_one F9 rfl rfl) (frs_off rfl N10) (.tail _ hmr) (hdr.mono fun p hp => .tail _ hp) hokL (by omega) (.head _) (datAll_rev (hdl.mono fun p hp => .tail _ hp)) (fun d hd => hokL d (List.mem_reverse.mp hd)) (by simp; omega) hh (by show A.depth + 1 < 860; omega) (by k_units) fun s11 kx => ?_))
        obtain ⟨h11, tk11, rfl, F11, N11⟩ := use_X rfl F9 N9 kx
        rw [cmp_rev]
        clear kx F9 N9 N10
        k_steps
        rename Fr g L _ _ => F12
        rename News g L _ _ => N12
        have N13 : News g L _ ((768, tabO ps9) :: (L + 1, oL) :: (L + 1 + 1, oO) :: P) := news_drop1 N12
        have sub3 : ∀ p ∈ P, p ∈ (768, tabO ps9) :: (L + 1, oL) :: (L + 1 + 1, oO) :: P := fun p hp => .tail _ (.tail _ (.tail _ hp))
        clear N12
        refine hold_out (wpAny_call (dedupFB_ok (mg := mg) (mb := mb) (h₀ := g) (X := P) ⟨KX, TT⟩ F12.keep (fun p hp => ⟨(N13 p (sub3 p hp)).1, (N13 p (sub3 p hp)).2.2⟩) (Around.frames_deeper hfr) (frames_one F12 rfl rfl) (frs_off rfl fun p hp => N13 p (sub3 p hp)) hml hdl hokL (by omega) hFk hh (by show A.depth + 1 < 860; omega) (by k_units) fun s14 D14 u14 c14 kx hD14 hD140 hd14 hul14 => ?_))
        obtain ⟨h14, tk14, rfl, F14, N14⟩ := use_X rfl F12 N13 kx
        obtain ⟨N15, hne15⟩ := add_fresh F12 N13 N14 hD14 hD140
        have hok14 : ∀ d ∈ dd [] (lss.map lineD), kqdOk 8 d = true := fun d hd => hokL d (dd_mem hd fun {P} h => nomatch h)
        clear kx F12 N13 N14 hD14 hD140
        k_steps
        rename Fr g L _ _ => F16
        rename News g L _ _ => N16
        have sub4 : ∀ p ∈ P, p ∈ (D14, listOf u14.toArray c14) :: (768, tabO ps9) :: (L + 1, oL) :: (L + 1 + 1, oO) :: P := fun p hp => .tail _ (sub3 p hp)
        refine hold_out (wpAny_call (firsts_ok (mg := mg) (mb := mb) (h₀ := g) (X := P) ⟨KX, TT⟩ F16.keep (fun p hp => ⟨(N16 p (sub4 p hp)).1, (N16 p (sub4 p hp)).2.2⟩) hml hdl hokL (by omega) hh (by show A.depth + 1 < 870; omega) (by k_units) fun s17 D17 u17 c17 hk hD17 hD170 hd17 hul17 => ?_))
        obtain ⟨h17, tk17, rfl, F17, N17⟩ := Keeps.use hk F16 N16
        obtain ⟨N18, hne18⟩ := add_fresh F16 N16 N17 hD17 hD170
        clear hk F16 N16 N17 hD17 hD170
        k_steps
        rename Fr g L _ _ => F19
        rename News g L _ _ => N19
        have N20 : News g L _ ((768, tabO ps9) :: (L + 1, oL) :: (L + 1 + 1, oO) :: P) := news_drop1 (news_drop1 N19)
        clear N19
        have hdln := hdl.length
        have hdt : DatAll P (us.take (us.length - 1)) ((lss.map lineD).take ((lss.map lineD).length - 1)) := by rw [hdln]; exact datAll_take _ hdl
        have hlast : (lss.map lineD).length - 1 < (lss.map lineD).length := by rw [List.length_map]; omega
        obtain ⟨vz, hvz, hdz⟩ := hdl.get hlast
        have hxz : (lss.map lineD)[(lss.map lineD).length - 1]? = some ((lss.map lineD)[(lss.map lineD).length - 1]) := List.getElem?_eq_getElem hlast
        have hkz := hokL _ (List.getElem_mem hlast)
        have hokT : ∀ d ∈ (lss.map lineD).take ((lss.map lineD).length - 1), kqdOk 8 d = true := fun d hd => hokL d (List.mem_of_mem_take hd)
        rw [← hdln] at hvz
        refine hold_out (slice_init F19 N20 (sub3 _ hml) (by omega) fun h21 D21 F21 N21 l21 => ?_)
        clear F19 N20
        k_steps
        rename Fr g L _ _ => F22
        rename News g L _ _ => N22
        have N23 : News g L _ ((D21, listOf (us.take (us.length - 1)).toArray 0) :: P) := fun p hp => N22 p (by
          simp only [List.mem_cons] at hp ⊢
          rcases hp with h | h <;> simp only [h, true_or, or_true])
        refine hold_out (wpAny_call (compare_ok (mg := mg) (mb := mb) (h₀ := g) (X := (D21, listOf (us.take (us.length - 1)).toArray 0) :: P) (ds := lss.map lineD) (es := (lss.map lineD).take ((lss.map lineD).length - 1)) ⟨KX, TT⟩ F22.keep (fun p hp => ⟨(N23 p hp).1, (N23 p hp).2.2⟩) (Around.frames_deeper hfr) (frames_one F22 rfl rfl) (frs_off rfl N23) (.tail _ hml) (hdl.mono fun p hp => .tail _ hp) hokL (by omega) (.head _) (hdt.mono fun p hp => .tail _ hp) hokT (by simp; omega) hh (by show A.depth + 1 < 860; omega) (by k_units) fun s24 kx => ?_))
        obtain ⟨h24, tk24, rfl, F24, N24⟩ := use_X rfl F22 N22 kx
        rw [cmp_init hxz]
        have N25 : News g L _ ((768, tabO ps9) :: (L + 1, oL) :: (L + 1 + 1, oO) :: P) := news_drop1 N24
        clear kx F22 N22 N23 N24
        k_steps
        rename Fr g L _ _ => F26
        rename News g L _ _ => N26
        refine kim_back N26 (sub3 _ hml) rfl rfl (by decide) (by omega) (by decide) (x := vz) (by rw [show ((-1 : Int) + (us.length : Int)).toNat = us.length - 1 by omega]; exact hvz) ?_
        k_steps
        refine hold_out (slice_init F26 N26 (sub3 _ hml) (by omega) fun h27 D27 F27 N27 l27 => ?_)
        clear F26 N26
        k_steps
        · rename Fr g L _ _ => F28
          rename News g L _ _ => N28
          have N29 : News g L _ P := fun p hp => N28 p (.tail _ (sub3 p hp))
          refine hold_out (wpAny_call (refused_ok (mg := mg) (mb := mb) (h₀ := g) (X := P) ⟨KX, TT⟩ F28.keep (fun p hp => ⟨(N29 p hp).1, (N29 p hp).2.2⟩) (Around.frames_deeper hfr) (frames_one F28 rfl rfl) (frs_off rfl N29) hml hFk hh (by show A.depth + 1 < 850; omega) (by k_units) fun s30 kx => ?_))
          obtain ⟨h30, tk30, rfl, F30, N30⟩ := use_X rfl F28 N28 kx
          have hold : OldK s₀ h30 := old_hide ht hct (by rw [hg]; exact F30.keep) (N30 (768, tabO ps9) (.tail _ (.head _))).1
          k_steps
          exact h _ hold hos9 AB9
        · rename (_ == _) = false => hq
          simp at hq
end Mine
set_option maxRecDepth 100000 in
set_option maxHeartbeats 8000000 in
theorem PySem.Challenge.cw_ij0137_01_holds : PySem.Challenge.rw_ij0137_01.Holds := by
  refine Mine.H.top rfl rfl rfl ?_
  lge_go0
  refine' Mine.wp_false (Mine.law_body ?ho ?KX ?T ?F0 ?N0 ?c1 ?c2 ?hl ?hi ?hv ?hg ?fr ?hh ?dp ?un ?fin)
  case ho => k_dflt k_is
  case KX => assumption
  case T => assumption
  case N0 => assumption
  case F0 => (rename Fr _ _ _ _ => F9; exact F9)
  case c1 => assumption
  case c2 => assumption
  case hl => assumption
  case hi => assumption
  case hg => assumption
  case fr => (rename Below _ _ _ _ => K9; exact K9.stack)
  case hh => rfl
  case dp => decide
  case un => (show _ < cLine; simp only [units_caller]; have hcL9 := cLine_is; omega)
  case hv => (rename IntsAre _ _ => i9; rename ¬ _ => q9; have := i9.length; simp at q9; omega)
  case fin =>
    intro s' hK hos hab
    refine ⟨.inl ⟨.bool true, .bool true, [], rfl, fun _ => rfl, .bool _, ?_, fun _ => ⟨.nil, fun _ ha => nomatch ha⟩⟩, hK, hos, hab⟩
    wrow_post
