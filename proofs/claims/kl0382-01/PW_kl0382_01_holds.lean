import PyProof.Rows.All
import Wide.All
import OpenK.AllK
import Wide.FinOn
import Lean
import PySem.Challenge.RW_kl0382_01
open PySem PySem.W PyProof.Rows
set_option Elab.async false
set_option maxRecDepth 100000
set_option maxHeartbeats 16000000
set_option linter.all false
set_option pp.deepTerms false
set_option pp.deepTerms.threshold 6
namespace Mine
section PA0
noncomputable def nth : List Stmt → Nat → Stmt
  | [], _ => .Pass ⟨0, 0, 0, 0⟩
  | s :: _, 0 => s
  | _ :: r, n + 1 => nth r n
noncomputable def stBody : Stmt → List Stmt
  | .FunctionDef _ _ b _ _ _ _ _ _ _ => b
  | .ClassDef _ _ _ b _ _ _ _ _ _ _ => b
  | _ => []
noncomputable abbrev mkF {n : Str} {a : Arguments} {b : List Stmt} {d : List PySem.Expr} {r : Option PySem.Expr} {ty : List TypeParam} {s : Scope} {ts : Option Scope} {bd : Str} {p : Pos} (st : Stmt) (_ : st = .FunctionDef n a b d r ty s ts bd p) (f : Arguments → FuncBody → Scope → FuncData) : FuncData := f a (.stmts b) s
noncomputable abbrev prK : Program := PySem.Challenge.rw_kl0382_01.row.toRowW.prog
noncomputable abbrev tSt (i : Nat) : Stmt := nth PySem.Challenge.pw_kl0382_01.main.body i
noncomputable abbrev mSt (i j : Nat) : Stmt := nth (stBody (tSt i)) j
noncomputable def viewK : Program := { prK with main := { prK.main with body := [0, 1, 3, 4, 5, 6, 7, 8, 9, 10, 12, 13, 14, 15, 17, 18, 19, 21, 23, 24, 25, 26, 27, 28, 29, 30, 31, 32, 33].map tSt } }
noncomputable abbrev dE (P : Params) (s : String) (t : Nat) (v : Value) : DictEntry := .mk (PyData.keyHash P (Str.ofString s)) (.str (Str.ofString s) t) v
noncomputable abbrev vS (s : String) (t : Nat) : Value := .str (Str.ofString s) t
noncomputable abbrev vI (n : Int) : Value := .int n 0
noncomputable abbrev vR (a : Nat) : Value := .ref a
noncomputable abbrev oC (vs : Array Value) : Obj := .mk (.type "code") none (.fields vs) #[]
noncomputable abbrev oF (f : FuncData) : Obj := .mk (.type "function") none (.func f) #[]
noncomputable def o41 (P : Params) : Obj := Obj.mk (Value.type "dict") none (Data.dict #[dE P "__name__" 1 (vS "builtins" 160), dE P "__doc__" 2 (Value.builtin "builtins.__doc__:str#opaque"), dE P "__package__" 3 (Value.builtin "builtins.__package__:str#opaque"), dE P "__loader__" 4 (Value.builtin "builtins.__loader__:shared#opaque"), dE P "__spec__" 5 (Value.builtin "builtins.__spec__#opaque"), dE P "__build_class__" 6 (Value.builtin "__build_class__"), dE P "__\x69mport__" 7 (Value.builtin "__\x69mport__"), dE P "abs" 8 (Value.builtin "abs"), dE P "all" 9 (Value.builtin "all"), dE P "any" 10 (Value.builtin "any"), dE P "ascii" 11 (Value.builtin "ascii"), dE P "bin" 12 (Value.builtin "bin"), dE P "breakpoint" 13 (Value.builtin "breakpoint"), dE P "callable" 14 (Value.builtin "callable"), dE P "chr" 15 (Value.builtin "chr"), dE P "compile" 16 (Value.builtin "compile"), dE P "delattr" 17 (Value.builtin "delattr"), dE P "dir" 18 (Value.builtin "dir"), dE P "divmod" 19 (Value.builtin "divmod"), dE P "eval" 20 (Value.builtin "eval"), dE P "exec" 21 (Value.builtin "exec"), dE P "format" 22 (Value.builtin "format"), dE P "getattr" 23 (Value.builtin "getattr"), dE P "globals" 24 (Value.builtin "globals"), dE P "hasattr" 25 (Value.builtin "hasattr"), dE P "hash" 26 (Value.builtin "hash"), dE P "hex" 27 (Value.builtin "hex"), dE P "id" 28 (Value.builtin "id"), dE P "input" 29 (Value.builtin "input"), dE P "isinstance" 30 (Value.builtin "isinstance"), dE P "issubclass" 31 (Value.builtin "issubclass"), dE P "iter" 32 (Value.builtin "iter"), dE P "aiter" 33 (Value.builtin "aiter"), dE P "len" 34 (Value.builtin "len"), dE P "locals" 35 (Value.builtin "locals"), dE P "max" 36 (Value.builtin "max"), dE P "min" 37 (Value.builtin "min"), dE P "next" 38 (Value.builtin "next"), dE P "anext" 39 (Value.builtin "anext"), dE P "oct" 40 (Value.builtin "oct"), dE P "ord" 41 (Value.builtin "ord"), dE P "pow" 42 (Value.builtin "pow"), dE P "print" 43 (Value.builtin "print"), dE P "repr" 44 (Value.builtin "repr"), dE P "round" 45 (Value.builtin "round"), dE P "setattr" 46 (Value.builtin "setattr"), dE P "sorted" 47 (Value.builtin "sorted"), dE P "sum" 48 (Value.builtin "sum"), dE P "vars" 49 (Value.builtin "vars"), dE P "None" 50 Value.none, dE P "Ellipsis" 51 Value.ellipsis, dE P "NotImplemented" 52 Value.notImplemented, dE P "False" 53 (Value.bool false), dE P "True" 54 (Value.bool true), dE P "bool" 55 (Value.type "bool"), dE P "memoryview" 56 (Value.type "memoryview"), dE P "bytearray" 57 (Value.type "bytearray"), dE P "bytes" 58 (Value.type "bytes"), dE P "classmethod" 59 (Value.type "classmethod"), dE P "complex" 60 (Value.type "complex"), dE P "dict" 61 (Value.type "dict"), dE P "enumerate" 62 (Value.type "enumerate"), dE P "filter" 63 (Value.type "filter"), dE P "float" 64 (Value.type "float"), dE P "frozenset" 65 (Value.type "frozenset"), dE P "property" 66 (Value.type "property"), dE P "int" 67 (Value.type "int"), dE P "list" 68 (Value.type "list"), dE P "map" 69 (Value.type "map"), dE P "object" 70 (Value.type "object"), dE P "range" 71 (Value.type "range"), dE P "reversed" 72 (Value.type "reversed"), dE P "set" 73 (Value.type "set"), dE P "slice" 74 (Value.type "slice"), dE P "staticmethod" 75 (Value.type "staticmethod"), dE P "str" 76 (Value.type "str"), dE P "super" 77 (Value.type "super"), dE P "tuple" 78 (Value.type "tuple"), dE P "type" 79 (Value.type "type"), dE P "zip" 80 (Value.type "zip"), dE P "__debug__" 81 (Value.bool true), dE P "BaseException" 82 (Value.type "BaseException"), dE P "BaseExceptionGroup" 83 (Value.type "BaseExceptionGroup"), dE P "Exception" 84 (Value.type "Exception"), dE P "GeneratorExit" 85 (Value.type "GeneratorExit"), dE P "KeyboardInterrupt" 86 (Value.type "KeyboardInterrupt"), dE P "SystemExit" 87 (Value.type "SystemExit"), dE P "ArithmeticError" 88 (Value.type "ArithmeticError"), dE P "AssertionError" 89 (Value.type "AssertionError"), dE P "AttributeError" 90 (Value.type "AttributeError"), dE P "BufferError" 91 (Value.type "BufferError"), dE P "EOFError" 92 (Value.type "EOFError"), dE P "ImportError" 93 (Value.type "ImportError"), dE P "LookupError" 94 (Value.type "LookupError"), dE P "MemoryError" 95 (Value.type "MemoryError"), dE P "NameError" 96 (Value.type "NameError"), dE P "OSError" 97 (Value.type "OSError"), dE P "ReferenceError" 98 (Value.type "ReferenceError"), dE P "RuntimeError" 99 (Value.type "RuntimeError"), dE P "StopAsyncIteration" 100 (Value.type "StopAsyncIteration"), dE P "StopIteration" 101 (Value.type "StopIteration"), dE P "SyntaxError" 102 (Value.type "SyntaxError"), dE P "SystemError" 103 (Value.type "SystemError"), dE P "TypeError" 104 (Value.type "TypeError"), dE P "ValueError" 105 (Value.type "ValueError"), dE P "Warning" 106 (Value.type "Warning"), dE P "FloatingPointError" 107 (Value.type "FloatingPointError"), dE P "OverflowError" 108 (Value.type "OverflowError"), dE P "ZeroDivisionError" 109 (Value.type "ZeroDivisionError"), dE P "BytesWarning" 110 (Value.type "BytesWarning"), dE P "DeprecationWarning" 111 (Value.type "DeprecationWarning"), dE P "EncodingWarning" 112 (Value.type "EncodingWarning"), dE P "FutureWarning" 113 (Value.type "FutureWarning"), dE P "ImportWarning" 114 (Value.type "ImportWarning"), dE P "PendingDeprecationWarning" 115 (Value.type "PendingDeprecationWarning"), dE P "ResourceWarning" 116 (Value.type "ResourceWarning"), dE P "RuntimeWarning" 117 (Value.type "RuntimeWarning"), dE P "SyntaxWarning" 118 (Value.type "SyntaxWarning"), dE P "UnicodeWarning" 119 (Value.type "UnicodeWarning"), dE P "UserWarning" 120 (Value.type "UserWarning"), dE P "BlockingIOError" 121 (Value.type "BlockingIOError"), dE P "ChildProcessError" 122 (Value.type "ChildProcessError"), dE P "ConnectionError" 123 (Value.type "ConnectionError"), dE P "FileExistsError" 124 (Value.type "FileExistsError"), dE P "FileNotFoundError" 125 (Value.type "FileNotFoundError"), dE P "InterruptedError" 126 (Value.type "InterruptedError"), dE P "IsADirectoryError" 127 (Value.type "IsADirectoryError"), dE P "NotADirectoryError" 128 (Value.type "NotADirectoryError"), dE P "PermissionError" 129 (Value.type "PermissionError"), dE P "ProcessLookupError" 130 (Value.type "ProcessLookupError"), dE P "TimeoutError" 131 (Value.type "TimeoutError"), dE P "IndentationError" 132 (Value.type "IndentationError"), dE P "_IncompleteInputError" 133 (Value.type "_IncompleteInputError"), dE P "IndexError" 134 (Value.type "IndexError"), dE P "KeyError" 135 (Value.type "KeyError"), dE P "ModuleNotFoundError" 136 (Value.type "ModuleNotFoundError"), dE P "NotImplementedError" 137 (Value.type "NotImplementedError"), dE P "PythonFinalizationError" 138 (Value.type "PythonFinalizationError"), dE P "RecursionError" 139 (Value.type "RecursionError"), dE P "UnboundLocalError" 140 (Value.type "UnboundLocalError"), dE P "UnicodeError" 141 (Value.type "UnicodeError"), dE P "BrokenPipeError" 142 (Value.type "BrokenPipeError"), dE P "ConnectionAbortedError" 143 (Value.type "ConnectionAbortedError"), dE P "ConnectionRefusedError" 144 (Value.type "ConnectionRefusedError"), dE P "ConnectionResetError" 145 (Value.type "ConnectionResetError"), dE P "TabError" 146 (Value.type "TabError"), dE P "UnicodeDecodeError" 147 (Value.type "UnicodeDecodeError"), dE P "UnicodeEncodeError" 148 (Value.type "UnicodeEncodeError"), dE P "UnicodeTranslateError" 149 (Value.type "UnicodeTranslateError"), dE P "ExceptionGroup" 150 (Value.type "ExceptionGroup"), dE P "EnvironmentError" 151 (Value.type "OSError"), dE P "IOError" 152 (Value.type "OSError"), dE P "open" 153 (Value.builtin "open"), dE P "quit" 154 (Value.builtin "builtins.quit#opaque"), dE P "exit" 155 (Value.builtin "builtins.exit#opaque"), dE P "copyright" 156 (Value.builtin "builtins.copyright#opaque"), dE P "credits" 157 (Value.builtin "builtins.credits#opaque"), dE P "license" 158 (Value.builtin "builtins.license#opaque"), dE P "help" 159 (Value.builtin "builtins.help#opaque")] 159) #[]
noncomputable def o42 (P : Params) : Obj := Obj.mk (Value.type "dict") none (Data.dict #[dE P "builtins" 162 (vR 4), dE P "__main__" 163 (vR 5), dE P "_sre" 244 (vR 12)] 3) #[]
noncomputable def o43 (P : Params) : Obj := Obj.mk Value.none none (Data.dict #[dE P "\x69mport.loaded._sre" 183 (Value.bool true), dE P "class._frozen_\x69mportlib.BuiltinImporter" 185 (vR 14), dE P "watched.\x69mport" 206 (vR 18), dE P "class._frozen_\x69mportlib.ModuleSpec" 216 (vR 22), dE P "sys.modules.booked-epoch" 245 (vI 3), dE P "\x69mport.later-laid._sre" 270 (Value.bool true), dE P "watched.library" 272 (vR 27), dE P "watched.library-objects" 0 (vS "\x0c" 0), dE P "watched.library-deep._sre" 273 (vS "\x04\x00\x00\x0b\x04\x00\x00\x0b\x04\x00\x00\x03\x04\x00\x00\x0b\x08\x04dict\x02" 0)] 9) #[]
noncomputable def o44 (P : Params) : Obj := Obj.mk (Value.type "dict") none (Data.dict #[dE P "__name__" 165 (vS "__main__" 164), dE P "__doc__" 166 Value.none, dE P "__package__" 167 Value.none, dE P "__loader__" 168 (Value.builtin "__main__.__loader__#opaque"), dE P "__spec__" 169 Value.none, dE P "__annotations__" 170 (vR 6), dE P "__builtins__" 171 (vR 4), dE P "__file__" 173 (vS "/claim/cut.py" 172), dE P "__cached__" 174 Value.none, dE P "_sre" 275 (vR 12)] 10) #[]
noncomputable def o45 : Obj := Obj.mk (Value.type "module") (some 0) Data.plain #[]
noncomputable def o46 : Obj := Obj.mk (Value.type "module") (some 3) Data.plain #[]
noncomputable def o47 : Obj := Obj.mk (Value.type "dict") none (Data.dict #[]) #[]
noncomputable def o48 : Obj := Obj.mk (Value.type "tuple") none (Data.seq #[]) #[]
noncomputable def o49 : Obj := Obj.mk Value.none none (Data.fields #[]) #[]
noncomputable def o50 : Obj := oC #[vS "<module>" 176, vS "<module>" 177, vS "/claim/cut.py" 178, vI 1, vI 0, vI 0, vI 0, vI 0, vR 7, Value.bool false, vI 175, vR 8, Value.none, Value.none, Value.none, Value.none, vI 179, vI 1, vS "/claim/cut.py" 180]
noncomputable def o51 : Obj := Obj.mk (Value.type "frame") none Data.plain #[some (vR 9), some (vR 3), some (vR 3), none, some (vS "__main__" 164), none, some (vR 0)]
noncomputable def o52 (P : Params) : Obj := Obj.mk (Value.type "dict") none (Data.dict #[dE P "__name__" 247 (vS "_sre" 246), dE P "__doc__" 248 Value.none, dE P "__package__" 250 (vS "" 249), dE P "__loader__" 251 (Value.builtin "off-the-table:_sre.__loader__:shared#opaque"), dE P "__spec__" 252 (Value.builtin "off-the-table:_sre.__spec__:shared#opaque"), dE P "compile" 253 (Value.builtin "_sre.compile"), dE P "template" 254 (Value.builtin "off-the-table:_sre.template:shared#opaque"), dE P "getcodesize" 255 (Value.builtin "off-the-table:_sre.getcodesize:shared#opaque"), dE P "ascii_iscased" 256 (Value.builtin "off-the-table:_sre.ascii_iscased:shared#opaque"), dE P "unicode_iscased" 257 (Value.builtin "off-the-table:_sre.unicode_iscased:shared#opaque"), dE P "ascii_tolower" 258 (Value.builtin "off-the-table:_sre.ascii_tolower:shared#opaque"), dE P "unicode_tolower" 259 (Value.builtin "off-the-table:_sre.unicode_tolower:shared#opaque"), dE P "MAGIC" 261 (Value.int 20230612 260), dE P "CODESIZE" 263 (Value.int 4 262), dE P "MAXREPEAT" 265 (Value.int 4294967295 264), dE P "MAXGROUPS" 267 (Value.int 1073741823 266), dE P "copyright" 269 (vS " SRE 2.2.2 Copyright (c) 1997-2002 by Secret Labs AB " 268)] 17) #[]
noncomputable def o53 : Obj := Obj.mk (Value.type "module") (some 11) Data.plain #[]
noncomputable def o54 (P : Params) : Obj := Obj.mk (Value.type "dict") none (Data.dict #[dE P "__module__" 189 (vS "_frozen_\x69mportlib" 186), dE P "__firstlineno__" 190 (Value.int 971 187), dE P "__doc__" 191 (Value.builtin "_frozen_\x69mportlib.BuiltinImporter.__doc__:str#opaque"), dE P "_ORIGIN" 192 (vS "built-in" 188), dE P "find_spec" 193 (Value.builtin "_frozen_\x69mportlib.BuiltinImporter.find_spec#opaque"), dE P "create_module" 194 (Value.builtin "_frozen_\x69mportlib.BuiltinImporter.create_module#opaque"), dE P "exec_module" 195 (Value.builtin "_frozen_\x69mportlib.BuiltinImporter.exec_module#opaque"), dE P "get_code" 196 (Value.builtin "_frozen_\x69mportlib.BuiltinImporter.get_code#opaque"), dE P "get_source" 197 (Value.builtin "_frozen_\x69mportlib.BuiltinImporter.get_source#opaque"), dE P "is_package" 198 (Value.builtin "_frozen_\x69mportlib.BuiltinImporter.is_package#opaque"), dE P "load_module" 199 (Value.builtin "_frozen_\x69mportlib.BuiltinImporter.load_module#opaque"), dE P "__static_attributes__" 200 (vR 15), dE P "__dict__" 202 (vR 16), dE P "__weakref__" 204 (vR 17)] 14) #[]
noncomputable def o55 : Obj := Obj.mk (Value.type "type") none (Data.cls (ClassData.mk (Str.ofString "BuiltinImporter") [Value.type "object"] [vR 14, Value.type "object"] 13 (Str.ofString "BuiltinImporter") true [] [] false none false)) #[]
noncomputable def o56 : Obj := Obj.mk (Value.type "tuple") none (Data.seq #[]) #[]
noncomputable def o57 : Obj := Obj.mk (Value.type "getset_descriptor") none (Data.fields #[vS "__dict__" 201, vR 14, Value.builtin "function.__dict__", Value.builtin "function.__dict__#set"]) #[]
noncomputable def o58 : Obj := Obj.mk (Value.type "getset_descriptor") none (Data.fields #[vS "__weakref__" 203, vR 14, Value.builtin "ExceptionGroup.__weakref__", Value.none]) #[]
noncomputable def o59 : Obj := Obj.mk Value.none none (Data.seq #[vI 13, vS "\x06½\n__module__\x06º\x11_frozen_\x69mportlib\x06¾\x0f__firstlineno__\x04»\x00ϋ\x06¿\x07__doc__\t4_frozen_\x69mportlib.BuiltinImporter.__doc__:str#opaque\x06À\x07_ORIGIN\x06¼\x08built-in\x06Á\tfind_spec\t2_frozen_\x69mportlib.BuiltinImporter.find_spec#opaque\x06Â\x0dcreate_module\t6_frozen_\x69mportlib.BuiltinImporter.create_module#opaque\x06Ã\x0bexec_module\t4_frozen_\x69mportlib.BuiltinImporter.exec_module#opaque\x06Ä\x08get_code\t1_frozen_\x69mportlib.BuiltinImporter.get_code#opaque\x06Å\nget_source\t3_frozen_\x69mportlib.BuiltinImporter.get_source#opaque\x06Æ\nis_package\t3_frozen_\x69mportlib.BuiltinImporter.is_package#opaque\x06Ç\x0bload_module\t4_frozen_\x69mportlib.BuiltinImporter.load_module#opaque\x06È\x15__static_attributes__\x04\x00\x00\x0f\x06Ê\x08__dict__\x04\x00\x00\x10\x06Ì\x0b__weakref__\x04\x00\x00\x11" 0, Value.bool true, Value.bool true, vS "" 205, vI 21, vS "\x06ã\n__module__\x06Ù\x11_frozen_\x69mportlib\x06ä\x0f__firstlineno__\x04Ú\x00Ȳ\x06å\x07__doc__\t/_frozen_\x69mportlib.ModuleSpec.__doc__:str#opaque\x06æ\x08__init__\t,_frozen_\x69mportlib.ModuleSpec.__init__#opaque\x06ç\x08__repr__\t,_frozen_\x69mportlib.ModuleSpec.__repr__#opaque\x06è\x06__eq__\t*_frozen_\x69mportlib.ModuleSpec.__eq__#opaque\x06é\x06cached\t*_frozen_\x69mportlib.ModuleSpec.cached#opaque\x06ê\x06parent\t*_frozen_\x69mportlib.ModuleSpec.parent#opaque\x06ë\x0chas_location\t0_frozen_\x69mportlib.ModuleSpec.has_location#opaque\x06ì\x15__static_attributes__\x04\x00\x00\x17\x06î\x08__dict__\x04\x00\x00\x18\x06ð\x0b__weakref__\x04\x00\x00\x19\x06ñ\x08__hash__\x00" 0, Value.bool true, Value.bool true, vS "" 242] 1) #[]
noncomputable def o60 : Obj := Obj.mk (Value.type "list") none (Data.seq #[]) #[]
noncomputable def o61 (P : Params) : Obj := Obj.mk (Value.type "dict") none (Data.dict #[dE P "name" 208 (vS "_sre" 207), dE P "loader" 209 (vR 14), dE P "origin" 210 (vS "built-in" 184), dE P "loader_state" 211 Value.none, dE P "submodule_search_locations" 212 Value.none, dE P "_uninitialized_submodules" 213 (vR 19), dE P "_set_fileattr" 214 (Value.bool false), dE P "_cached" 215 Value.none, dE P "_initializing" 243 (Value.bool false)] 9) #[]
noncomputable def o62 (P : Params) : Obj := Obj.mk (Value.type "dict") none (Data.dict #[dE P "__module__" 227 (vS "_frozen_\x69mportlib" 217), dE P "__firstlineno__" 228 (Value.int 562 218), dE P "__doc__" 229 (Value.builtin "_frozen_\x69mportlib.ModuleSpec.__doc__:str#opaque"), dE P "__init__" 230 (Value.builtin "_frozen_\x69mportlib.ModuleSpec.__init__#opaque"), dE P "__repr__" 231 (Value.builtin "_frozen_\x69mportlib.ModuleSpec.__repr__#opaque"), dE P "__eq__" 232 (Value.builtin "_frozen_\x69mportlib.ModuleSpec.__eq__#opaque"), dE P "cached" 233 (Value.builtin "_frozen_\x69mportlib.ModuleSpec.cached#opaque"), dE P "parent" 234 (Value.builtin "_frozen_\x69mportlib.ModuleSpec.parent#opaque"), dE P "has_location" 235 (Value.builtin "_frozen_\x69mportlib.ModuleSpec.has_location#opaque"), dE P "__static_attributes__" 236 (vR 23), dE P "__dict__" 238 (vR 24), dE P "__weakref__" 240 (vR 25), dE P "__hash__" 241 Value.none] 13) #[]
noncomputable def o63 : Obj := Obj.mk (Value.type "type") none (Data.cls (ClassData.mk (Str.ofString "ModuleSpec") [Value.type "object"] [vR 22, Value.type "object"] 21 (Str.ofString "ModuleSpec") true [] [] false none false)) #[]
noncomputable def o64 : Obj := Obj.mk (Value.type "tuple") none (Data.seq #[vS "_cached" 219, vS "_set_fileattr" 220, vS "_uninitialized_submodules" 221, vS "loader" 222, vS "loader_state" 223, vS "name" 224, vS "origin" 225, vS "submodule_search_locations" 226]) #[]
noncomputable def o65 : Obj := Obj.mk (Value.type "getset_descriptor") none (Data.fields #[vS "__dict__" 237, vR 22, Value.builtin "function.__dict__", Value.builtin "function.__dict__#set"]) #[]
noncomputable def o66 : Obj := Obj.mk (Value.type "getset_descriptor") none (Data.fields #[vS "__weakref__" 239, vR 22, Value.builtin "ExceptionGroup.__weakref__", Value.none]) #[]
noncomputable def o67 : Obj := Obj.mk (vR 22) (some 20) Data.plain #[]
noncomputable def o68 : Obj := Obj.mk Value.none none (Data.seq #[vI 11, Value.str (Str.mk #[6, 247, 8, 95, 95, 110, 97, 109, 101, 95, 95, 6, 246, 4, 95, 115, 114, 101, 6, 248, 7, 95, 95, 100, 111, 99, 95, 95, 0, 6, 250, 11, 95, 95, 112, 97, 99, 107, 97, 103, 101, 95, 95, 6, 249, 0, 6, 251, 10, 95, 95, 108, 111, 97, 100, 101, 114, 95, 95, 4, 0, 0, 14, 6, 252, 8, 95, 95, 115, 112, 101, 99, 95, 95, 4, 0, 0, 26, 6, 253, 7, 99, 111, 109, 112, 105, 108, 101, 9, 12, 95, 115, 114, 101, 46, 99, 111, 109, 112, 105, 108, 101, 6, 254, 8, 116, 101, 109, 112, 108, 97, 116, 101, 9, 13, 95, 115, 114, 101, 46, 116, 101, 109, 112, 108, 97, 116, 101, 6, 255, 11, 103, 101, 116, 99, 111, 100, 101, 115, 105, 122, 101, 9, 16, 95, 115, 114, 101, 46, 103, 101, 116, 99, 111, 100, 101, 115, 105, 122, 101, 6, 256, 13, 97, 115, 99, 105, 105, 95, 105, 115, 99, 97, 115, 101, 100, 9, 18, 95, 115, 114, 101, 46, 97, 115, 99, 105, 105, 95, 105, 115, 99, 97, 115, 101, 100, 6, 257, 15, 117, 110, 105, 99, 111, 100, 101, 95, 105, 115, 99, 97, 115, 101, 100, 9, 20, 95, 115, 114, 101, 46, 117, 110, 105, 99, 111, 100, 101, 95, 105, 115, 99, 97, 115, 101, 100, 6, 258, 13, 97, 115, 99, 105, 105, 95, 116, 111, 108, 111, 119, 101, 114, 9, 18, 95, 115, 114, 101, 46, 97, 115, 99, 105, 105, 95, 116, 111, 108, 111, 119, 101, 114, 6, 259, 15, 117, 110, 105, 99, 111, 100, 101, 95, 116, 111, 108, 111, 119, 101, 114, 9, 20, 95, 115, 114, 101, 46, 117, 110, 105, 99, 111, 100, 101, 95, 116, 111, 108, 111, 119, 101, 114, 6, 261, 5, 77, 65, 71, 73, 67, 4, 260, 0, 20230612, 6, 263, 8, 67, 79, 68, 69, 83, 73, 90, 69, 4, 262, 0, 4, 6, 265, 9, 77, 65, 88, 82, 69, 80, 69, 65, 84, 4, 264, 0, 4294967295, 6, 267, 9, 77, 65, 88, 71, 82, 79, 85, 80, 83, 4, 266, 0, 1073741823, 6, 269, 9, 99, 111, 112, 121, 114, 105, 103, 104, 116, 6, 268, 53, 32, 83, 82, 69, 32, 50, 46, 50, 46, 50, 32, 67, 111, 112, 121, 114, 105, 103, 104, 116, 32, 40, 99, 41, 32, 49, 57, 57, 55, 45, 50, 48, 48, 50, 32, 98, 121, 32, 83, 101, 99, 114, 101, 116, 32, 76, 97, 98, 115, 32, 65, 66, 32]) 0, Value.bool true, Value.bool false, vS "_sre" 271]) #[]
noncomputable def o69 : Obj := Obj.mk (Value.type "tuple") none (Data.seq #[]) #[]
noncomputable def o70 : Obj := Obj.mk Value.none none (Data.fields #[]) #[]
noncomputable def o71 : Obj := oC #[vS "<module>" 277, vS "<module>" 278, vS "/claim/cut.py" 279, vI 1, vI 0, vI 0, vI 0, vI 0, vR 28, Value.bool false, vI 276, vR 29, Value.none, Value.none, Value.none, Value.none, vI 280, vI 1, vS "/claim/cut.py" 281]
noncomputable def o72 : Obj := Obj.mk (Value.type "frame") none Data.plain #[some (vR 30), some (vR 3), some (vR 3), none, some (vS "__main__" 164), none, some (vR 0)]
noncomputable def o75 (P : Params) : Obj := Obj.mk (Value.type "dict") none (Data.dict #[dE P "__name__" 165 (vS "cpy313.dis" 374), dE P "__doc__" 166 Value.none, dE P "__package__" 167 Value.none, dE P "__loader__" 168 (Value.builtin "__main__.__loader__#opaque"), dE P "__spec__" 169 Value.none, dE P "__annotations__" 170 (vR 6), dE P "__builtins__" 171 (vR 4), dE P "__file__" 173 (vS "/claim/cut.py" 172), dE P "__cached__" 174 Value.none, dE P "_sre" 275 (vR 12), dE P "_wall" 288 (vR 38), dE P "ONE_THIRD" 294 (Value.float 4599676419421066581 293), dE P "ONE_SIXTH" 298 (Value.float 4595172819793696085 297), dE P "TWO_THIRD" 302 (Value.float 4604180019048437077 301), dE P "rgb_to_hls" 321 (vR 45), dE P "hls_to_rgb" 332 (vR 52), dE P "_v" 341 (vR 59), dE P "rgb_to_hsv" 359 (vR 66), dE P "hsv_to_rgb" 373 (vR 73)] 19) #[]
noncomputable def o76 : Obj := Obj.mk Value.none none (Data.fields #[vI 2, vI 0, vR 37, vI 9, vI 0, vR 44, vI 32, vI 0, vR 51, vI 41, vI 0, vR 58, vI 50, vI 0, vR 65, vI 69, vI 0, vR 72]) #[]
noncomputable def o77 : Obj := Obj.mk (Value.type "tuple") none (Data.seq #[]) #[]
noncomputable def o78 : Obj := Obj.mk Value.none none (Data.fields #[]) #[]
noncomputable def o79 : Obj := Obj.mk (Value.type "tuple") none (Data.seq #[vS "k" 285]) #[]
noncomputable def o80 : Obj := Obj.mk (Value.type "tuple") none (Data.seq #[]) #[]
noncomputable def o81 : Obj := Obj.mk Value.none none (Data.func (mkF (tSt 1) rfl fun a b c => FuncData.mk (Str.ofString "_wall") (Str.ofString "_wall") a b c 0 [] Value.none Value.none Value.none Value.none none Value.none Value.none 0)) #[]
noncomputable def o82 : Obj := oC #[vS "_wall" 282, vS "_wall" 283, vS "/claim/cut.py" 284, vI 2, vI 1, vI 0, vI 0, vI 3, vR 32, Value.bool true, vI 276, vR 33, Value.none, vR 34, vR 35, vR 36, vI 286, vI 2, vS "/claim/cut.py" 287]
noncomputable def o83 : Obj := oF (mkF (tSt 1) rfl fun a b c => FuncData.mk (Str.ofString "_wall") (Str.ofString "_wall") a b c 3 [] Value.none Value.none Value.none (vS "__main__" 164) none (vR 37) Value.none 0)
noncomputable def o84 : Obj := Obj.mk (Value.type "tuple") none (Data.seq #[]) #[]
noncomputable def o85 : Obj := Obj.mk Value.none none (Data.fields #[]) #[]
noncomputable def o86 : Obj := Obj.mk (Value.type "tuple") none (Data.seq #[vS "r" 306, vS "g" 307, vS "b" 308, vS "maxc" 309, vS "minc" 310, vS "sumc" 311, vS "rangec" 312, vS "l" 313, vS "s" 314, vS "rc" 315, vS "gc" 316, vS "bc" 317, vS "h" 318]) #[]
noncomputable def o87 : Obj := Obj.mk (Value.type "tuple") none (Data.seq #[]) #[]
noncomputable def o88 : Obj := Obj.mk Value.none none (Data.func (mkF (tSt 6) rfl fun a b c => FuncData.mk (Str.ofString "rgb_to_hls") (Str.ofString "rgb_to_hls") a b c 0 [] Value.none Value.none Value.none Value.none none Value.none Value.none 0)) #[]
noncomputable def o89 : Obj := oC #[vS "rgb_to_hls" 303, vS "rgb_to_hls" 304, vS "/claim/cut.py" 305, vI 9, vI 3, vI 0, vI 0, vI 3, vR 39, Value.bool true, vI 276, vR 40, Value.none, vR 41, vR 42, vR 43, vI 319, vI 9, vS "/claim/cut.py" 320]
noncomputable def o90 : Obj := oF (mkF (tSt 6) rfl fun a b c => FuncData.mk (Str.ofString "rgb_to_hls") (Str.ofString "rgb_to_hls") a b c 3 [] Value.none Value.none Value.none (vS "cpy313.colorsys" 289) none (vR 44) Value.none 0)
noncomputable def o91 : Obj := Obj.mk (Value.type "tuple") none (Data.seq #[]) #[]
noncomputable def o92 : Obj := Obj.mk Value.none none (Data.fields #[]) #[]
noncomputable def o93 : Obj := Obj.mk (Value.type "tuple") none (Data.seq #[vS "h" 325, vS "l" 326, vS "s" 327, vS "m2" 328, vS "m1" 329]) #[]
noncomputable def o94 : Obj := Obj.mk (Value.type "tuple") none (Data.seq #[]) #[]
noncomputable def o95 : Obj := Obj.mk Value.none none (Data.func (mkF (tSt 7) rfl fun a b c => FuncData.mk (Str.ofString "hls_to_rgb") (Str.ofString "hls_to_rgb") a b c 0 [] Value.none Value.none Value.none Value.none none Value.none Value.none 0)) #[]
noncomputable def o96 : Obj := oC #[vS "hls_to_rgb" 322, vS "hls_to_rgb" 323, vS "/claim/cut.py" 324, vI 32, vI 3, vI 0, vI 0, vI 3, vR 46, Value.bool true, vI 276, vR 47, Value.none, vR 48, vR 49, vR 50, vI 330, vI 32, vS "/claim/cut.py" 331]
noncomputable def o97 : Obj := oF (mkF (tSt 7) rfl fun a b c => FuncData.mk (Str.ofString "hls_to_rgb") (Str.ofString "hls_to_rgb") a b c 3 [] Value.none Value.none Value.none (vS "cpy313.colorsys" 289) none (vR 51) Value.none 0)
noncomputable def o98 : Obj := Obj.mk (Value.type "tuple") none (Data.seq #[]) #[]
noncomputable def o99 : Obj := Obj.mk Value.none none (Data.fields #[]) #[]
noncomputable def o100 : Obj := Obj.mk (Value.type "tuple") none (Data.seq #[vS "m1" 336, vS "m2" 337, vS "hue" 338]) #[]
noncomputable def o101 : Obj := Obj.mk (Value.type "tuple") none (Data.seq #[]) #[]
noncomputable def o102 : Obj := Obj.mk Value.none none (Data.func (mkF (tSt 8) rfl fun a b c => FuncData.mk (Str.ofString "_v") (Str.ofString "_v") a b c 0 [] Value.none Value.none Value.none Value.none none Value.none Value.none 0)) #[]
noncomputable def o103 : Obj := oC #[vS "_v" 333, vS "_v" 334, vS "/claim/cut.py" 335, vI 41, vI 3, vI 0, vI 0, vI 3, vR 53, Value.bool true, vI 276, vR 54, Value.none, vR 55, vR 56, vR 57, vI 339, vI 41, vS "/claim/cut.py" 340]
noncomputable def o104 : Obj := oF (mkF (tSt 8) rfl fun a b c => FuncData.mk (Str.ofString "_v") (Str.ofString "_v") a b c 3 [] Value.none Value.none Value.none (vS "cpy313.colorsys" 289) none (vR 58) Value.none 0)
noncomputable def o105 : Obj := Obj.mk (Value.type "tuple") none (Data.seq #[]) #[]
noncomputable def o106 : Obj := Obj.mk Value.none none (Data.fields #[]) #[]
noncomputable def o107 : Obj := Obj.mk (Value.type "tuple") none (Data.seq #[vS "r" 345, vS "g" 346, vS "b" 347, vS "maxc" 348, vS "minc" 349, vS "rangec" 350, vS "v" 351, vS "s" 352, vS "rc" 353, vS "gc" 354, vS "bc" 355, vS "h" 356]) #[]
noncomputable def o108 : Obj := Obj.mk (Value.type "tuple") none (Data.seq #[]) #[]
noncomputable def o109 : Obj := Obj.mk Value.none none (Data.func (mkF (tSt 9) rfl fun a b c => FuncData.mk (Str.ofString "rgb_to_hsv") (Str.ofString "rgb_to_hsv") a b c 0 [] Value.none Value.none Value.none Value.none none Value.none Value.none 0)) #[]
noncomputable def o110 : Obj := oC #[vS "rgb_to_hsv" 342, vS "rgb_to_hsv" 343, vS "/claim/cut.py" 344, vI 50, vI 3, vI 0, vI 0, vI 3, vR 60, Value.bool true, vI 276, vR 61, Value.none, vR 62, vR 63, vR 64, vI 357, vI 50, vS "/claim/cut.py" 358]
noncomputable def o111 : Obj := oF (mkF (tSt 9) rfl fun a b c => FuncData.mk (Str.ofString "rgb_to_hsv") (Str.ofString "rgb_to_hsv") a b c 3 [] Value.none Value.none Value.none (vS "cpy313.colorsys" 289) none (vR 65) Value.none 0)
noncomputable def o112 : Obj := Obj.mk (Value.type "tuple") none (Data.seq #[]) #[]
noncomputable def o113 : Obj := Obj.mk Value.none none (Data.fields #[]) #[]
noncomputable def o114 : Obj := Obj.mk (Value.type "tuple") none (Data.seq #[vS "h" 363, vS "s" 364, vS "v" 365, vS "i" 366, vS "f" 367, vS "p" 368, vS "q" 369, vS "t" 370]) #[]
noncomputable def o115 : Obj := Obj.mk (Value.type "tuple") none (Data.seq #[]) #[]
noncomputable def o116 : Obj := Obj.mk Value.none none (Data.func (mkF (tSt 10) rfl fun a b c => FuncData.mk (Str.ofString "hsv_to_rgb") (Str.ofString "hsv_to_rgb") a b c 0 [] Value.none Value.none Value.none Value.none none Value.none Value.none 0)) #[]
noncomputable def o117 : Obj := oC #[vS "hsv_to_rgb" 360, vS "hsv_to_rgb" 361, vS "/claim/cut.py" 362, vI 69, vI 3, vI 0, vI 0, vI 3, vR 67, Value.bool true, vI 276, vR 68, Value.none, vR 69, vR 70, vR 71, vI 371, vI 69, vS "/claim/cut.py" 372]
noncomputable def o118 : Obj := oF (mkF (tSt 10) rfl fun a b c => FuncData.mk (Str.ofString "hsv_to_rgb") (Str.ofString "hsv_to_rgb") a b c 3 [] Value.none Value.none Value.none (vS "cpy313.colorsys" 289) none (vR 72) Value.none 0)
noncomputable def o119 (P : Params) : Obj := Obj.mk (Value.type "dict") none (Data.dict #[dE P "__name__" 165 (vS "cpy313.wsgiref.headers" 423), dE P "__doc__" 166 Value.none, dE P "__package__" 167 Value.none, dE P "__loader__" 168 (Value.builtin "__main__.__loader__#opaque"), dE P "__spec__" 169 Value.none, dE P "__annotations__" 170 (vR 6), dE P "__builtins__" 171 (vR 4), dE P "__file__" 173 (vS "/claim/cut.py" 172), dE P "__cached__" 174 Value.none, dE P "_sre" 275 (vR 12), dE P "_wall" 288 (vR 38), dE P "ONE_THIRD" 294 (Value.float 4599676419421066581 293), dE P "ONE_SIXTH" 298 (Value.float 4595172819793696085 297), dE P "TWO_THIRD" 302 (Value.float 4604180019048437077 301), dE P "rgb_to_hls" 321 (vR 45), dE P "hls_to_rgb" 332 (vR 52), dE P "_v" 341 (vR 59), dE P "rgb_to_hsv" 359 (vR 66), dE P "hsv_to_rgb" 373 (vR 73), dE P "_Unknown" 402 (vR 90), dE P "UNKNOWN" 403 (vR 96), dE P "_get_name_info" 413 (vR 103), dE P "_parse_varint" 422 (vR 110)] 23) #[]
noncomputable def o120 : Obj := Obj.mk Value.none none (Data.fields #[vI 2, vI 0, vR 37, vI 9, vI 0, vR 44, vI 32, vI 0, vR 51, vI 41, vI 0, vR 58, vI 50, vI 0, vR 65, vI 69, vI 0, vR 72, vI 91, vI 0, vR 79, vI 96, vI 0, vR 102, vI 102, vI 0, vR 109]) #[]
noncomputable def o121 : Obj := Obj.mk (Value.type "tuple") none (Data.seq #[]) #[]
noncomputable def o122 : Obj := Obj.mk (Value.type "builtin_function_or_method") none (Data.fields #[Value.builtin "type.__prepare__", Value.type "type"]) #[]
noncomputable def o123 (P : Params) : Obj := Obj.mk (Value.type "dict") none (Data.dict #[dE P "__module__" 383 (vS "cpy313.dis" 374), dE P "__qualname__" 385 (vS "_Unknown" 384), dE P "__firstlineno__" 387 (Value.int 91 386), dE P "__repr__" 394 (vR 87), dE P "__static_attributes__" 395 (vR 88)] 5) #[]
noncomputable def o124 : Obj := Obj.mk (Value.type "tuple") none (Data.seq #[]) #[]
noncomputable def o125 : Obj := Obj.mk Value.none none (Data.fields #[vI 93, vI 4, vR 86]) #[]
noncomputable def o126 : Obj := oC #[vS "_Unknown" 378, vS "_Unknown" 379, vS "/claim/cut.py" 380, vI 91, vI 0, vI 0, vI 0, vI 0, vR 77, Value.bool false, vI 276, vR 78, Value.none, Value.none, Value.none, Value.none, vI 381, vI 91, vS "/claim/cut.py" 382]
noncomputable def o127 : Obj := Obj.mk (Value.type "frame") none Data.plain #[some (vR 79), some (vR 3), some (vR 76), none, some (vS "cpy313.dis" 374), none, some (vR 0)]
noncomputable def o128 : Obj := Obj.mk (Value.type "tuple") none (Data.seq #[]) #[]
noncomputable def o129 : Obj := Obj.mk Value.none none (Data.fields #[]) #[]
noncomputable def o130 : Obj := Obj.mk (Value.type "tuple") none (Data.seq #[vS "self" 391]) #[]
noncomputable def o131 : Obj := Obj.mk (Value.type "tuple") none (Data.seq #[]) #[]
noncomputable def o132 : Obj := Obj.mk Value.none none (Data.func (mkF (mSt 12 0) rfl fun a b c => FuncData.mk (Str.ofString "__repr__") (Str.ofString "_Unknown.__repr__") a b c 0 [] Value.none Value.none Value.none Value.none none Value.none Value.none 0)) #[]
noncomputable def o133 : Obj := oC #[vS "__repr__" 388, vS "_Unknown.__repr__" 389, vS "/claim/cut.py" 390, vI 93, vI 1, vI 0, vI 0, vI 3, vR 81, Value.bool true, vI 276, vR 82, Value.none, vR 83, vR 84, vR 85, vI 392, vI 93, vS "/claim/cut.py" 393]
noncomputable def o134 : Obj := oF (mkF (mSt 12 0) rfl fun a b c => FuncData.mk (Str.ofString "__repr__") (Str.ofString "_Unknown.__repr__") a b c 3 [] Value.none Value.none Value.none (vS "cpy313.dis" 374) none (vR 86) Value.none 0)
noncomputable def o135 : Obj := Obj.mk (Value.type "tuple") none (Data.seq #[]) #[]
noncomputable def o136 (P : Params) : Obj := Obj.mk (Value.type "dict") none (Data.dict #[dE P "__module__" 383 (vS "cpy313.dis" 374), dE P "__firstlineno__" 387 (Value.int 91 386), dE P "__repr__" 394 (vR 87), dE P "__static_attributes__" 395 (vR 88), dE P "__dict__" 397 (vR 91), dE P "__weakref__" 399 (vR 92), dE P "__doc__" 400 Value.none] 4) #[]
noncomputable def o137 : Obj := Obj.mk (Value.type "type") none (Data.cls (ClassData.mk (Str.ofString "_Unknown") [Value.type "object"] [vR 90, Value.type "object"] 89 (Str.ofString "_Unknown") true [] [] false none false)) #[none, none, some (vS "_Unknown" 376), some (vS "_Unknown" 384), some (Value.builtin "object.__new__"), some (Value.bool true)]
noncomputable def o138 : Obj := Obj.mk (Value.type "getset_descriptor") none (Data.fields #[vS "__dict__" 396, vR 90, Value.builtin "function.__dict__", Value.builtin "function.__dict__#set"]) #[]
noncomputable def o139 : Obj := Obj.mk (Value.type "getset_descriptor") none (Data.fields #[vS "__weakref__" 398, vR 90, Value.builtin "ExceptionGroup.__weakref__", Value.none]) #[]
noncomputable def o140 : Obj := Obj.mk (Value.type "super") none (Data.fields #[vR 90, vR 90, vR 90]) #[]
noncomputable def o141 : Obj := Obj.mk (Value.type "builtin_function_or_method") none (Data.fields #[Value.builtin "object.__init_subclass__", vR 90]) #[]
noncomputable def o142 : Obj := Obj.mk (Value.type "dict") none (Data.dict #[]) #[]
noncomputable def o143 : Obj := Obj.mk (vR 90) (some 95) Data.plain #[]
noncomputable def o144 : Obj := Obj.mk (Value.type "tuple") none (Data.seq #[]) #[]
noncomputable def o145 : Obj := Obj.mk Value.none none (Data.fields #[]) #[]
noncomputable def o146 : Obj := Obj.mk (Value.type "tuple") none (Data.seq #[vS "name_index" 407, vS "get_name" 408, vS "extrainfo" 409, vS "argval" 410]) #[]
noncomputable def o147 : Obj := Obj.mk (Value.type "tuple") none (Data.seq #[]) #[]
noncomputable def o148 : Obj := Obj.mk Value.none none (Data.func (mkF (tSt 14) rfl fun a b c => FuncData.mk (Str.ofString "_get_name_info") (Str.ofString "_get_name_info") a b c 0 [] Value.none Value.none Value.none Value.none none Value.none Value.none 0)) #[]
noncomputable def o149 : Obj := oC #[vS "_get_name_info" 404, vS "_get_name_info" 405, vS "/claim/cut.py" 406, vI 96, vI 2, vI 0, vI 0, vI 11, vR 97, Value.bool true, vI 276, vR 98, Value.none, vR 99, vR 100, vR 101, vI 411, vI 96, vS "/claim/cut.py" 412]
noncomputable def o150 : Obj := oF (mkF (tSt 14) rfl fun a b c => FuncData.mk (Str.ofString "_get_name_info") (Str.ofString "_get_name_info") a b c 3 [] Value.none Value.none Value.none (vS "cpy313.dis" 374) none (vR 102) Value.none 0)
noncomputable def o151 : Obj := Obj.mk (Value.type "tuple") none (Data.seq #[]) #[]
noncomputable def o152 : Obj := Obj.mk Value.none none (Data.fields #[]) #[]
noncomputable def o153 : Obj := Obj.mk (Value.type "tuple") none (Data.seq #[vS "iterator" 417, vS "b" 418, vS "val" 419]) #[]
noncomputable def o154 : Obj := Obj.mk (Value.type "tuple") none (Data.seq #[]) #[]
noncomputable def o155 : Obj := Obj.mk Value.none none (Data.func (mkF (tSt 15) rfl fun a b c => FuncData.mk (Str.ofString "_parse_varint") (Str.ofString "_parse_varint") a b c 0 [] Value.none Value.none Value.none Value.none none Value.none Value.none 0)) #[]
noncomputable def o156 : Obj := oC #[vS "_parse_varint" 414, vS "_parse_varint" 415, vS "/claim/cut.py" 416, vI 102, vI 1, vI 0, vI 0, vI 3, vR 104, Value.bool true, vI 276, vR 105, Value.none, vR 106, vR 107, vR 108, vI 420, vI 102, vS "/claim/cut.py" 421]
noncomputable def o157 : Obj := oF (mkF (tSt 15) rfl fun a b c => FuncData.mk (Str.ofString "_parse_varint") (Str.ofString "_parse_varint") a b c 3 [] Value.none Value.none Value.none (vS "cpy313.dis" 374) none (vR 109) Value.none 0)
noncomputable def o158 (P : Params) : Obj := Obj.mk (Value.type "dict") none (Data.dict #[dE P "__name__" 165 (vS "cpy313.wsgiref.headers" 423), dE P "__doc__" 166 Value.none, dE P "__package__" 167 Value.none, dE P "__loader__" 168 (Value.builtin "__main__.__loader__#opaque"), dE P "__spec__" 169 Value.none, dE P "__annotations__" 170 (vR 6), dE P "__builtins__" 171 (vR 4), dE P "__file__" 173 (vS "/claim/cut.py" 172), dE P "__cached__" 174 Value.none, dE P "_sre" 275 (vR 12), dE P "_wall" 288 (vR 38), dE P "ONE_THIRD" 294 (Value.float 4599676419421066581 293), dE P "ONE_SIXTH" 298 (Value.float 4595172819793696085 297), dE P "TWO_THIRD" 302 (Value.float 4604180019048437077 301), dE P "rgb_to_hls" 321 (vR 45), dE P "hls_to_rgb" 332 (vR 52), dE P "_v" 341 (vR 59), dE P "rgb_to_hsv" 359 (vR 66), dE P "hsv_to_rgb" 373 (vR 73), dE P "_Unknown" 402 (vR 90), dE P "UNKNOWN" 403 (vR 96), dE P "_get_name_info" 413 (vR 103), dE P "_parse_varint" 422 (vR 110), dE P "tspecials" 458 (vR 115), dE P "_name_disallowed_re" 484 (vR 120), dE P "_value_disallowed_re" 518 (vR 125), dE P "_formatparam" 528 (vR 133)] 27) #[]
noncomputable def o159 : Obj := Obj.mk Value.none none (Data.fields #[vI 2, vI 0, vR 37, vI 9, vI 0, vR 44, vI 32, vI 0, vR 51, vI 41, vI 0, vR 58, vI 50, vI 0, vR 65, vI 69, vI 0, vR 72, vI 91, vI 0, vR 79, vI 96, vI 0, vR 102, vI 102, vI 0, vR 109, vI 114, vI 0, vR 132]) #[]
noncomputable def o160 : Obj := Obj.mk (Value.type "list") none (Data.seq #[Value.int 14 428, Value.int 14 429, Value.int 4 430, Value.int 1 431, Value.int 1 432, Value.int 9 433, Value.int 0 434, Value.int 4227896069 435, Value.int 939524097 436, Value.int 0 437, Value.int 0 438, Value.int 0 439, Value.int 0 440, Value.int 0 441, Value.int 0 442, Value.int 13 443, Value.int 11 444, Value.int 9 445, Value.int 0 446, Value.int 4227896069 447, Value.int 939524097 448, Value.int 0 449, Value.int 0 450, Value.int 0 451, Value.int 0 452, Value.int 0 453, Value.int 0 454, Value.int 1 455]) #[]
noncomputable def o161 : Obj := Obj.mk (Value.type "dict") none (Data.dict #[]) #[]
noncomputable def o162 : Obj := Obj.mk (Value.type "tuple") none (Data.seq #[Value.none]) #[]
noncomputable def o163 : Obj := Obj.mk (Value.type "tuple") none (Data.seq #[vI 14, vI 14, vI 4, vI 1, vI 1, vI 9, vI 0, vI 4227896069, vI 939524097, vI 0, vI 0, vI 0, vI 0, vI 0, vI 0, vI 13, vI 11, vI 9, vI 0, vI 4227896069, vI 939524097, vI 0, vI 0, vI 0, vI 0, vI 0, vI 0, vI 1]) #[]
noncomputable def o164 : Obj := Obj.mk (Value.type "re.Pattern") none (Data.fields #[vS "[ \\(\\)<>@,;:\\\\\"/\\[\\]\\?=]" 426, Value.int 32 457, vI 0, Value.none, Value.none, vR 114, vI 0]) #[]
noncomputable def o165 : Obj := Obj.mk (Value.type "list") none (Data.seq #[Value.int 14 462, Value.int 10 463, Value.int 4 464, Value.int 1 465, Value.int 1 466, Value.int 22 467, Value.int 0 468, Value.int 31 469, Value.int 16 470, Value.int 127 471, Value.int 0 472, Value.int 13 473, Value.int 7 474, Value.int 22 475, Value.int 0 476, Value.int 31 477, Value.int 16 478, Value.int 127 479, Value.int 0 480, Value.int 1 481]) #[]
noncomputable def o166 : Obj := Obj.mk (Value.type "dict") none (Data.dict #[]) #[]
noncomputable def o167 : Obj := Obj.mk (Value.type "tuple") none (Data.seq #[Value.none]) #[]
noncomputable def o168 : Obj := Obj.mk (Value.type "tuple") none (Data.seq #[vI 14, vI 10, vI 4, vI 1, vI 1, vI 22, vI 0, vI 31, vI 16, vI 127, vI 0, vI 13, vI 7, vI 22, vI 0, vI 31, vI 16, vI 127, vI 0, vI 1]) #[]
noncomputable def o169 : Obj := Obj.mk (Value.type "re.Pattern") none (Data.fields #[vS "[\\x00-\\x1F\\x7F]" 460, Value.int 32 483, vI 0, Value.none, Value.none, vR 119, vI 0]) #[]
noncomputable def o170 : Obj := Obj.mk (Value.type "list") none (Data.seq #[Value.int 14 488, Value.int 14 489, Value.int 4 490, Value.int 1 491, Value.int 1 492, Value.int 9 493, Value.int 4294966783 494, Value.int 0 495, Value.int 0 496, Value.int 2147483648 497, Value.int 0 498, Value.int 0 499, Value.int 0 500, Value.int 0 501, Value.int 0 502, Value.int 13 503, Value.int 11 504, Value.int 9 505, Value.int 4294966783 506, Value.int 0 507, Value.int 0 508, Value.int 2147483648 509, Value.int 0 510, Value.int 0 511, Value.int 0 512, Value.int 0 513, Value.int 0 514, Value.int 1 515]) #[]
noncomputable def o171 : Obj := Obj.mk (Value.type "dict") none (Data.dict #[]) #[]
noncomputable def o172 : Obj := Obj.mk (Value.type "tuple") none (Data.seq #[Value.none]) #[]
noncomputable def o173 : Obj := Obj.mk (Value.type "tuple") none (Data.seq #[vI 14, vI 14, vI 4, vI 1, vI 1, vI 9, vI 4294966783, vI 0, vI 0, vI 2147483648, vI 0, vI 0, vI 0, vI 0, vI 0, vI 13, vI 11, vI 9, vI 4294966783, vI 0, vI 0, vI 2147483648, vI 0, vI 0, vI 0, vI 0, vI 0, vI 1]) #[]
noncomputable def o174 : Obj := Obj.mk (Value.type "re.Pattern") none (Data.fields #[vS "[\\x00-\\x08\\x0A-\\x1F\\x7F]" 486, Value.int 32 517, vI 0, Value.none, Value.none, vR 124, vI 0]) #[]
noncomputable def o175 : Obj := Obj.mk (Value.type "tuple") none (Data.seq #[Value.none, Value.int 1 519]) #[]
noncomputable def o176 : Obj := Obj.mk (Value.type "tuple") none (Data.seq #[]) #[]
noncomputable def o177 : Obj := Obj.mk Value.none none (Data.fields #[]) #[]
noncomputable def o178 : Obj := Obj.mk (Value.type "tuple") none (Data.seq #[vS "param" 523, vS "value" 524, vS "quote" 525]) #[]
noncomputable def o179 : Obj := Obj.mk (Value.type "tuple") none (Data.seq #[]) #[]
noncomputable def o180 : Obj := Obj.mk Value.none none (Data.func (mkF (tSt 20) rfl fun a b c => FuncData.mk (Str.ofString "_formatparam") (Str.ofString "_formatparam") a b c 0 [] Value.none Value.none Value.none Value.none none Value.none Value.none 0)) #[]
noncomputable def o181 : Obj := oC #[vS "_formatparam" 520, vS "_formatparam" 521, vS "/claim/cut.py" 522, vI 114, vI 3, vI 0, vI 0, vI 3, vR 127, Value.bool true, vI 276, vR 128, Value.none, vR 129, vR 130, vR 131, vI 526, vI 114, vS "/claim/cut.py" 527]
noncomputable def o182 : Obj := oF (mkF (tSt 20) rfl fun a b c => FuncData.mk (Str.ofString "_formatparam") (Str.ofString "_formatparam") a b c 3 [] (vR 126) Value.none Value.none (vS "cpy313.wsgiref.headers" 423) none (vR 132) Value.none 0)
noncomputable def o183 (P : Params) : Obj := Obj.mk (Value.type "dict") none (Data.dict #[dE P "__name__" 165 (vS "cpy313.wsgiref.headers" 423), dE P "__doc__" 166 Value.none, dE P "__package__" 167 Value.none, dE P "__loader__" 168 (Value.builtin "__main__.__loader__#opaque"), dE P "__spec__" 169 Value.none, dE P "__annotations__" 170 (vR 6), dE P "__builtins__" 171 (vR 4), dE P "__file__" 173 (vS "/claim/cut.py" 172), dE P "__cached__" 174 Value.none, dE P "_sre" 275 (vR 12), dE P "_wall" 288 (vR 38), dE P "ONE_THIRD" 294 (Value.float 4599676419421066581 293), dE P "ONE_SIXTH" 298 (Value.float 4595172819793696085 297), dE P "TWO_THIRD" 302 (Value.float 4604180019048437077 301), dE P "rgb_to_hls" 321 (vR 45), dE P "hls_to_rgb" 332 (vR 52), dE P "_v" 341 (vR 59), dE P "rgb_to_hsv" 359 (vR 66), dE P "hsv_to_rgb" 373 (vR 73), dE P "_Unknown" 402 (vR 90), dE P "UNKNOWN" 403 (vR 96), dE P "_get_name_info" 413 (vR 103), dE P "_parse_varint" 422 (vR 110), dE P "tspecials" 458 (vR 115), dE P "_name_disallowed_re" 484 (vR 120), dE P "_value_disallowed_re" 518 (vR 125), dE P "_formatparam" 528 (vR 133), dE P "Headers" 687 (vR 256)] 28) #[]
noncomputable def o184 : Obj := Obj.mk Value.none none (Data.fields #[vI 2, vI 0, vR 37, vI 9, vI 0, vR 44, vI 32, vI 0, vR 51, vI 41, vI 0, vR 58, vI 50, vI 0, vR 65, vI 69, vI 0, vR 72, vI 91, vI 0, vR 79, vI 96, vI 0, vR 102, vI 102, vI 0, vR 109, vI 114, vI 0, vR 132, vI 123, vI 0, vR 139]) #[]
noncomputable def o185 : Obj := Obj.mk (Value.type "tuple") none (Data.seq #[]) #[]
noncomputable def o186 : Obj := Obj.mk (Value.type "builtin_function_or_method") none (Data.fields #[Value.builtin "type.__prepare__", Value.type "type"]) #[]
noncomputable def o187 (P : Params) : Obj := Obj.mk (Value.type "dict") none (Data.dict #[dE P "__module__" 536 (vS "cpy313.wsgiref.headers" 423), dE P "__qualname__" 538 (vS "Headers" 537), dE P "__firstlineno__" 540 (Value.int 123 539), dE P "__init__" 550 (vR 148), dE P "_convert_string_type" 560 (vR 155), dE P "__len__" 567 (vR 162), dE P "__setitem__" 576 (vR 169), dE P "__delitem__" 582 (vR 174), dE P "__getitem__" 590 (vR 181), dE P "__contains__" 598 (vR 188), dE P "get_all" 606 (vR 195), dE P "get" 617 (vR 203), dE P "keys" 623 (vR 208), dE P "values" 629 (vR 213), dE P "items" 636 (vR 220), dE P "__repr__" 643 (vR 227), dE P "__str__" 649 (vR 232), dE P "__bytes__" 656 (vR 239), dE P "setdefault" 665 (vR 246), dE P "add_header" 678 (vR 253), dE P "__static_attributes__" 680 (vR 254)] 21) #[]
noncomputable def o188 : Obj := Obj.mk (Value.type "tuple") none (Data.seq #[]) #[]
noncomputable def o189 : Obj := Obj.mk Value.none none (Data.fields #[vI 125, vI 4, vR 147, vI 135, vI 4, vR 154, vI 143, vI 4, vR 161, vI 146, vI 4, vR 168, vI 150, vI 4, vR 173, vI 154, vI 4, vR 180, vI 157, vI 4, vR 187, vI 160, vI 4, vR 194, vI 163, vI 4, vR 202, vI 170, vI 4, vR 207, vI 173, vI 4, vR 212, vI 176, vI 4, vR 219, vI 179, vI 4, vR 226, vI 182, vI 4, vR 231, vI 185, vI 4, vR 238, vI 188, vI 4, vR 245, vI 191, vI 4, vR 252]) #[]
noncomputable def o190 : Obj := oC #[vS "Headers" 531, vS "Headers" 532, vS "/claim/cut.py" 533, vI 123, vI 0, vI 0, vI 0, vI 0, vR 137, Value.bool false, vI 276, vR 138, Value.none, Value.none, Value.none, Value.none, vI 534, vI 123, vS "/claim/cut.py" 535]
noncomputable def o191 : Obj := Obj.mk (Value.type "frame") none Data.plain #[some (vR 139), some (vR 3), some (vR 136), none, some (vS "cpy313.wsgiref.headers" 423), none, some (vR 0)]
noncomputable def o192 : Obj := Obj.mk (Value.type "tuple") none (Data.seq #[Value.none]) #[]
noncomputable def o193 : Obj := Obj.mk (Value.type "tuple") none (Data.seq #[]) #[]
noncomputable def o194 : Obj := Obj.mk Value.none none (Data.fields #[]) #[]
noncomputable def o195 : Obj := Obj.mk (Value.type "tuple") none (Data.seq #[vS "self" 544, vS "headers" 545, vS "k" 546, vS "v" 547]) #[]
noncomputable def o196 : Obj := Obj.mk (Value.type "tuple") none (Data.seq #[]) #[]
noncomputable def o197 : Obj := Obj.mk Value.none none (Data.func (mkF (mSt 21 0) rfl fun a b c => FuncData.mk (Str.ofString "__init__") (Str.ofString "Headers.__init__") a b c 0 [] Value.none Value.none Value.none Value.none none Value.none Value.none 0)) #[]
noncomputable def o198 : Obj := oC #[vS "__init__" 541, vS "Headers.__init__" 542, vS "/claim/cut.py" 543, vI 125, vI 2, vI 0, vI 0, vI 3, vR 142, Value.bool true, vI 276, vR 143, Value.none, vR 144, vR 145, vR 146, vI 548, vI 125, vS "/claim/cut.py" 549]
noncomputable def o199 : Obj := oF (mkF (mSt 21 0) rfl fun a b c => FuncData.mk (Str.ofString "__init__") (Str.ofString "Headers.__init__") a b c 3 [] (vR 141) Value.none Value.none (vS "cpy313.wsgiref.headers" 423) none (vR 147) Value.none 0)
noncomputable def o200 : Obj := Obj.mk (Value.type "tuple") none (Data.seq #[]) #[]
noncomputable def o201 : Obj := Obj.mk Value.none none (Data.fields #[]) #[]
noncomputable def o202 : Obj := Obj.mk (Value.type "tuple") none (Data.seq #[vS "self" 554, vS "value" 555, vS "name" 556, vS "regex" 557]) #[]
noncomputable def o203 : Obj := Obj.mk (Value.type "tuple") none (Data.seq #[]) #[]
noncomputable def o204 : Obj := Obj.mk Value.none none (Data.func (mkF (mSt 21 1) rfl fun a b c => FuncData.mk (Str.ofString "_convert_string_type") (Str.ofString "Headers._convert_string_type") a b c 0 [] Value.none Value.none Value.none Value.none none Value.none Value.none 0)) #[]
noncomputable def o205 : Obj := oC #[vS "_convert_string_type" 551, vS "Headers._convert_string_type" 552, vS "/claim/cut.py" 553, vI 135, vI 2, vI 0, vI 1, vI 3, vR 149, Value.bool true, vI 276, vR 150, Value.none, vR 151, vR 152, vR 153, vI 558, vI 135, vS "/claim/cut.py" 559]
noncomputable def o206 : Obj := oF (mkF (mSt 21 1) rfl fun a b c => FuncData.mk (Str.ofString "_convert_string_type") (Str.ofString "Headers._convert_string_type") a b c 3 [] Value.none Value.none Value.none (vS "cpy313.wsgiref.headers" 423) none (vR 154) Value.none 0)
noncomputable def o207 : Obj := Obj.mk (Value.type "tuple") none (Data.seq #[]) #[]
noncomputable def o208 : Obj := Obj.mk Value.none none (Data.fields #[]) #[]
noncomputable def o209 : Obj := Obj.mk (Value.type "tuple") none (Data.seq #[vS "self" 564]) #[]
noncomputable def o210 : Obj := Obj.mk (Value.type "tuple") none (Data.seq #[]) #[]
noncomputable def o211 : Obj := Obj.mk Value.none none (Data.func (mkF (mSt 21 2) rfl fun a b c => FuncData.mk (Str.ofString "__len__") (Str.ofString "Headers.__len__") a b c 0 [] Value.none Value.none Value.none Value.none none Value.none Value.none 0)) #[]
noncomputable def o212 : Obj := oC #[vS "__len__" 561, vS "Headers.__len__" 562, vS "/claim/cut.py" 563, vI 143, vI 1, vI 0, vI 0, vI 3, vR 156, Value.bool true, vI 276, vR 157, Value.none, vR 158, vR 159, vR 160, vI 565, vI 143, vS "/claim/cut.py" 566]
noncomputable def o213 : Obj := oF (mkF (mSt 21 2) rfl fun a b c => FuncData.mk (Str.ofString "__len__") (Str.ofString "Headers.__len__") a b c 3 [] Value.none Value.none Value.none (vS "cpy313.wsgiref.headers" 423) none (vR 161) Value.none 0)
noncomputable def o214 : Obj := Obj.mk (Value.type "tuple") none (Data.seq #[]) #[]
noncomputable def o215 : Obj := Obj.mk Value.none none (Data.fields #[]) #[]
noncomputable def o216 : Obj := Obj.mk (Value.type "tuple") none (Data.seq #[vS "self" 571, vS "name" 572, vS "val" 573]) #[]
noncomputable def o217 : Obj := Obj.mk (Value.type "tuple") none (Data.seq #[]) #[]
noncomputable def o218 : Obj := Obj.mk Value.none none (Data.func (mkF (mSt 21 3) rfl fun a b c => FuncData.mk (Str.ofString "__setitem__") (Str.ofString "Headers.__setitem__") a b c 0 [] Value.none Value.none Value.none Value.none none Value.none Value.none 0)) #[]
noncomputable def o219 : Obj := oC #[vS "__setitem__" 568, vS "Headers.__setitem__" 569, vS "/claim/cut.py" 570, vI 146, vI 3, vI 0, vI 0, vI 3, vR 163, Value.bool true, vI 276, vR 164, Value.none, vR 165, vR 166, vR 167, vI 574, vI 146, vS "/claim/cut.py" 575]
noncomputable def o220 : Obj := oF (mkF (mSt 21 3) rfl fun a b c => FuncData.mk (Str.ofString "__setitem__") (Str.ofString "Headers.__setitem__") a b c 3 [] Value.none Value.none Value.none (vS "cpy313.wsgiref.headers" 423) none (vR 168) Value.none 0)
noncomputable def o221 : Obj := Obj.mk (Value.type "tuple") none (Data.seq #[]) #[]
noncomputable def o222 : Obj := Obj.mk Value.none none (Data.fields #[]) #[]
noncomputable def o223 : Obj := Obj.mk Value.none none (Data.func (mkF (mSt 21 4) rfl fun a b c => FuncData.mk (Str.ofString "__delitem__") (Str.ofString "Headers.__delitem__") a b c 0 [] Value.none Value.none Value.none Value.none none Value.none Value.none 0)) #[]
noncomputable def o224 : Obj := oC #[vS "__delitem__" 577, vS "Headers.__delitem__" 578, vS "/claim/cut.py" 579, vI 150, vI 2, vI 0, vI 0, vI 3, vR 170, Value.bool true, vI 276, vR 171, Value.none, Value.none, Value.none, vR 172, vI 580, vI 150, vS "/claim/cut.py" 581]
noncomputable def o225 : Obj := oF (mkF (mSt 21 4) rfl fun a b c => FuncData.mk (Str.ofString "__delitem__") (Str.ofString "Headers.__delitem__") a b c 3 [] Value.none Value.none Value.none (vS "cpy313.wsgiref.headers" 423) none (vR 173) Value.none 0)
noncomputable def o226 : Obj := Obj.mk (Value.type "tuple") none (Data.seq #[]) #[]
noncomputable def o227 : Obj := Obj.mk Value.none none (Data.fields #[]) #[]
noncomputable def o228 : Obj := Obj.mk (Value.type "tuple") none (Data.seq #[vS "self" 586, vS "name" 587]) #[]
noncomputable def o229 : Obj := Obj.mk (Value.type "tuple") none (Data.seq #[]) #[]
noncomputable def o230 : Obj := Obj.mk Value.none none (Data.func (mkF (mSt 21 5) rfl fun a b c => FuncData.mk (Str.ofString "__getitem__") (Str.ofString "Headers.__getitem__") a b c 0 [] Value.none Value.none Value.none Value.none none Value.none Value.none 0)) #[]
noncomputable def o231 : Obj := oC #[vS "__getitem__" 583, vS "Headers.__getitem__" 584, vS "/claim/cut.py" 585, vI 154, vI 2, vI 0, vI 0, vI 3, vR 175, Value.bool true, vI 276, vR 176, Value.none, vR 177, vR 178, vR 179, vI 588, vI 154, vS "/claim/cut.py" 589]
noncomputable def o232 : Obj := oF (mkF (mSt 21 5) rfl fun a b c => FuncData.mk (Str.ofString "__getitem__") (Str.ofString "Headers.__getitem__") a b c 3 [] Value.none Value.none Value.none (vS "cpy313.wsgiref.headers" 423) none (vR 180) Value.none 0)
noncomputable def o233 : Obj := Obj.mk (Value.type "tuple") none (Data.seq #[]) #[]
noncomputable def o234 : Obj := Obj.mk Value.none none (Data.fields #[]) #[]
noncomputable def o235 : Obj := Obj.mk (Value.type "tuple") none (Data.seq #[vS "self" 594, vS "name" 595]) #[]
noncomputable def o236 : Obj := Obj.mk (Value.type "tuple") none (Data.seq #[]) #[]
noncomputable def o237 : Obj := Obj.mk Value.none none (Data.func (mkF (mSt 21 6) rfl fun a b c => FuncData.mk (Str.ofString "__contains__") (Str.ofString "Headers.__contains__") a b c 0 [] Value.none Value.none Value.none Value.none none Value.none Value.none 0)) #[]
noncomputable def o238 : Obj := oC #[vS "__contains__" 591, vS "Headers.__contains__" 592, vS "/claim/cut.py" 593, vI 157, vI 2, vI 0, vI 0, vI 3, vR 182, Value.bool true, vI 276, vR 183, Value.none, vR 184, vR 185, vR 186, vI 596, vI 157, vS "/claim/cut.py" 597]
noncomputable def o239 : Obj := oF (mkF (mSt 21 6) rfl fun a b c => FuncData.mk (Str.ofString "__contains__") (Str.ofString "Headers.__contains__") a b c 3 [] Value.none Value.none Value.none (vS "cpy313.wsgiref.headers" 423) none (vR 187) Value.none 0)
noncomputable def o240 : Obj := Obj.mk (Value.type "tuple") none (Data.seq #[]) #[]
noncomputable def o241 : Obj := Obj.mk Value.none none (Data.fields #[]) #[]
noncomputable def o242 : Obj := Obj.mk (Value.type "tuple") none (Data.seq #[vS "self" 602, vS "name" 603]) #[]
noncomputable def o243 : Obj := Obj.mk (Value.type "tuple") none (Data.seq #[]) #[]
noncomputable def o244 : Obj := Obj.mk Value.none none (Data.func (mkF (mSt 21 7) rfl fun a b c => FuncData.mk (Str.ofString "get_all") (Str.ofString "Headers.get_all") a b c 0 [] Value.none Value.none Value.none Value.none none Value.none Value.none 0)) #[]
noncomputable def o245 : Obj := oC #[vS "get_all" 599, vS "Headers.get_all" 600, vS "/claim/cut.py" 601, vI 160, vI 2, vI 0, vI 0, vI 3, vR 189, Value.bool true, vI 276, vR 190, Value.none, vR 191, vR 192, vR 193, vI 604, vI 160, vS "/claim/cut.py" 605]
noncomputable def o246 : Obj := oF (mkF (mSt 21 7) rfl fun a b c => FuncData.mk (Str.ofString "get_all") (Str.ofString "Headers.get_all") a b c 3 [] Value.none Value.none Value.none (vS "cpy313.wsgiref.headers" 423) none (vR 194) Value.none 0)
noncomputable def o247 : Obj := Obj.mk (Value.type "tuple") none (Data.seq #[Value.none]) #[]
noncomputable def o248 : Obj := Obj.mk (Value.type "tuple") none (Data.seq #[]) #[]
noncomputable def o249 : Obj := Obj.mk Value.none none (Data.fields #[]) #[]
noncomputable def o250 : Obj := Obj.mk (Value.type "tuple") none (Data.seq #[vS "self" 610, vS "name" 611, vS "default" 612, vS "k" 613, vS "v" 614]) #[]
noncomputable def o251 : Obj := Obj.mk (Value.type "tuple") none (Data.seq #[]) #[]
noncomputable def o252 : Obj := Obj.mk Value.none none (Data.func (mkF (mSt 21 8) rfl fun a b c => FuncData.mk (Str.ofString "get") (Str.ofString "Headers.get") a b c 0 [] Value.none Value.none Value.none Value.none none Value.none Value.none 0)) #[]
noncomputable def o253 : Obj := oC #[vS "get" 607, vS "Headers.get" 608, vS "/claim/cut.py" 609, vI 163, vI 3, vI 0, vI 0, vI 3, vR 197, Value.bool true, vI 276, vR 198, Value.none, vR 199, vR 200, vR 201, vI 615, vI 163, vS "/claim/cut.py" 616]
noncomputable def o254 : Obj := oF (mkF (mSt 21 8) rfl fun a b c => FuncData.mk (Str.ofString "get") (Str.ofString "Headers.get") a b c 3 [] (vR 196) Value.none Value.none (vS "cpy313.wsgiref.headers" 423) none (vR 202) Value.none 0)
noncomputable def o255 : Obj := Obj.mk (Value.type "tuple") none (Data.seq #[]) #[]
noncomputable def o256 : Obj := Obj.mk Value.none none (Data.fields #[]) #[]
noncomputable def o257 : Obj := Obj.mk Value.none none (Data.func (mkF (mSt 21 9) rfl fun a b c => FuncData.mk (Str.ofString "keys") (Str.ofString "Headers.keys") a b c 0 [] Value.none Value.none Value.none Value.none none Value.none Value.none 0)) #[]
noncomputable def o258 : Obj := oC #[vS "keys" 618, vS "Headers.keys" 619, vS "/claim/cut.py" 620, vI 170, vI 1, vI 0, vI 0, vI 3, vR 204, Value.bool true, vI 276, vR 205, Value.none, Value.none, Value.none, vR 206, vI 621, vI 170, vS "/claim/cut.py" 622]
noncomputable def o259 : Obj := oF (mkF (mSt 21 9) rfl fun a b c => FuncData.mk (Str.ofString "keys") (Str.ofString "Headers.keys") a b c 3 [] Value.none Value.none Value.none (vS "cpy313.wsgiref.headers" 423) none (vR 207) Value.none 0)
noncomputable def o260 : Obj := Obj.mk (Value.type "tuple") none (Data.seq #[]) #[]
noncomputable def o261 : Obj := Obj.mk Value.none none (Data.fields #[]) #[]
noncomputable def o262 : Obj := Obj.mk Value.none none (Data.func (mkF (mSt 21 10) rfl fun a b c => FuncData.mk (Str.ofString "values") (Str.ofString "Headers.values") a b c 0 [] Value.none Value.none Value.none Value.none none Value.none Value.none 0)) #[]
noncomputable def o263 : Obj := oC #[vS "values" 624, vS "Headers.values" 625, vS "/claim/cut.py" 626, vI 173, vI 1, vI 0, vI 0, vI 3, vR 209, Value.bool true, vI 276, vR 210, Value.none, Value.none, Value.none, vR 211, vI 627, vI 173, vS "/claim/cut.py" 628]
noncomputable def o264 : Obj := oF (mkF (mSt 21 10) rfl fun a b c => FuncData.mk (Str.ofString "values") (Str.ofString "Headers.values") a b c 3 [] Value.none Value.none Value.none (vS "cpy313.wsgiref.headers" 423) none (vR 212) Value.none 0)
noncomputable def o265 : Obj := Obj.mk (Value.type "tuple") none (Data.seq #[]) #[]
noncomputable def o266 : Obj := Obj.mk Value.none none (Data.fields #[]) #[]
noncomputable def o267 : Obj := Obj.mk (Value.type "tuple") none (Data.seq #[vS "self" 633]) #[]
noncomputable def o268 : Obj := Obj.mk (Value.type "tuple") none (Data.seq #[]) #[]
noncomputable def o269 : Obj := Obj.mk Value.none none (Data.func (mkF (mSt 21 11) rfl fun a b c => FuncData.mk (Str.ofString "items") (Str.ofString "Headers.items") a b c 0 [] Value.none Value.none Value.none Value.none none Value.none Value.none 0)) #[]
noncomputable def o270 : Obj := oC #[vS "items" 630, vS "Headers.items" 631, vS "/claim/cut.py" 632, vI 176, vI 1, vI 0, vI 0, vI 3, vR 214, Value.bool true, vI 276, vR 215, Value.none, vR 216, vR 217, vR 218, vI 634, vI 176, vS "/claim/cut.py" 635]
noncomputable def o271 : Obj := oF (mkF (mSt 21 11) rfl fun a b c => FuncData.mk (Str.ofString "items") (Str.ofString "Headers.items") a b c 3 [] Value.none Value.none Value.none (vS "cpy313.wsgiref.headers" 423) none (vR 219) Value.none 0)
noncomputable def o272 : Obj := Obj.mk (Value.type "tuple") none (Data.seq #[]) #[]
noncomputable def o273 : Obj := Obj.mk Value.none none (Data.fields #[]) #[]
noncomputable def o274 : Obj := Obj.mk (Value.type "tuple") none (Data.seq #[vS "self" 640]) #[]
noncomputable def o275 : Obj := Obj.mk (Value.type "tuple") none (Data.seq #[]) #[]
noncomputable def o276 : Obj := Obj.mk Value.none none (Data.func (mkF (mSt 21 12) rfl fun a b c => FuncData.mk (Str.ofString "__repr__") (Str.ofString "Headers.__repr__") a b c 0 [] Value.none Value.none Value.none Value.none none Value.none Value.none 0)) #[]
noncomputable def o277 : Obj := oC #[vS "__repr__" 637, vS "Headers.__repr__" 638, vS "/claim/cut.py" 639, vI 179, vI 1, vI 0, vI 0, vI 3, vR 221, Value.bool true, vI 276, vR 222, Value.none, vR 223, vR 224, vR 225, vI 641, vI 179, vS "/claim/cut.py" 642]
noncomputable def o278 : Obj := oF (mkF (mSt 21 12) rfl fun a b c => FuncData.mk (Str.ofString "__repr__") (Str.ofString "Headers.__repr__") a b c 3 [] Value.none Value.none Value.none (vS "cpy313.wsgiref.headers" 423) none (vR 226) Value.none 0)
noncomputable def o279 : Obj := Obj.mk (Value.type "tuple") none (Data.seq #[]) #[]
noncomputable def o280 : Obj := Obj.mk Value.none none (Data.fields #[]) #[]
noncomputable def o281 : Obj := Obj.mk Value.none none (Data.func (mkF (mSt 21 13) rfl fun a b c => FuncData.mk (Str.ofString "__str__") (Str.ofString "Headers.__str__") a b c 0 [] Value.none Value.none Value.none Value.none none Value.none Value.none 0)) #[]
noncomputable def o282 : Obj := oC #[vS "__str__" 644, vS "Headers.__str__" 645, vS "/claim/cut.py" 646, vI 182, vI 1, vI 0, vI 0, vI 3, vR 228, Value.bool true, vI 276, vR 229, Value.none, Value.none, Value.none, vR 230, vI 647, vI 182, vS "/claim/cut.py" 648]
noncomputable def o283 : Obj := oF (mkF (mSt 21 13) rfl fun a b c => FuncData.mk (Str.ofString "__str__") (Str.ofString "Headers.__str__") a b c 3 [] Value.none Value.none Value.none (vS "cpy313.wsgiref.headers" 423) none (vR 231) Value.none 0)
noncomputable def o284 : Obj := Obj.mk (Value.type "tuple") none (Data.seq #[]) #[]
noncomputable def o285 : Obj := Obj.mk Value.none none (Data.fields #[]) #[]
noncomputable def o286 : Obj := Obj.mk (Value.type "tuple") none (Data.seq #[vS "self" 653]) #[]
noncomputable def o287 : Obj := Obj.mk (Value.type "tuple") none (Data.seq #[]) #[]
noncomputable def o288 : Obj := Obj.mk Value.none none (Data.func (mkF (mSt 21 14) rfl fun a b c => FuncData.mk (Str.ofString "__bytes__") (Str.ofString "Headers.__bytes__") a b c 0 [] Value.none Value.none Value.none Value.none none Value.none Value.none 0)) #[]
noncomputable def o289 : Obj := oC #[vS "__bytes__" 650, vS "Headers.__bytes__" 651, vS "/claim/cut.py" 652, vI 185, vI 1, vI 0, vI 0, vI 3, vR 233, Value.bool true, vI 276, vR 234, Value.none, vR 235, vR 236, vR 237, vI 654, vI 185, vS "/claim/cut.py" 655]
noncomputable def o290 : Obj := oF (mkF (mSt 21 14) rfl fun a b c => FuncData.mk (Str.ofString "__bytes__") (Str.ofString "Headers.__bytes__") a b c 3 [] Value.none Value.none Value.none (vS "cpy313.wsgiref.headers" 423) none (vR 238) Value.none 0)
noncomputable def o291 : Obj := Obj.mk (Value.type "tuple") none (Data.seq #[]) #[]
noncomputable def o292 : Obj := Obj.mk Value.none none (Data.fields #[]) #[]
noncomputable def o293 : Obj := Obj.mk (Value.type "tuple") none (Data.seq #[vS "self" 660, vS "name" 661, vS "value" 662]) #[]
noncomputable def o294 : Obj := Obj.mk (Value.type "tuple") none (Data.seq #[]) #[]
noncomputable def o295 : Obj := Obj.mk Value.none none (Data.func (mkF (mSt 21 15) rfl fun a b c => FuncData.mk (Str.ofString "setdefault") (Str.ofString "Headers.setdefault") a b c 0 [] Value.none Value.none Value.none Value.none none Value.none Value.none 0)) #[]
noncomputable def o296 : Obj := oC #[vS "setdefault" 657, vS "Headers.setdefault" 658, vS "/claim/cut.py" 659, vI 188, vI 3, vI 0, vI 0, vI 3, vR 240, Value.bool true, vI 276, vR 241, Value.none, vR 242, vR 243, vR 244, vI 663, vI 188, vS "/claim/cut.py" 664]
noncomputable def o297 : Obj := oF (mkF (mSt 21 15) rfl fun a b c => FuncData.mk (Str.ofString "setdefault") (Str.ofString "Headers.setdefault") a b c 3 [] Value.none Value.none Value.none (vS "cpy313.wsgiref.headers" 423) none (vR 245) Value.none 0)
noncomputable def o298 : Obj := Obj.mk (Value.type "tuple") none (Data.seq #[]) #[]
noncomputable def o299 : Obj := Obj.mk Value.none none (Data.fields #[]) #[]
noncomputable def o300 : Obj := Obj.mk (Value.type "tuple") none (Data.seq #[vS "self" 669, vS "_name" 670, vS "_value" 671, vS "_params" 672, vS "parts" 673, vS "k" 674, vS "v" 675]) #[]
noncomputable def o301 : Obj := Obj.mk (Value.type "tuple") none (Data.seq #[]) #[]
noncomputable def o302 : Obj := Obj.mk Value.none none (Data.func (mkF (mSt 21 16) rfl fun a b c => FuncData.mk (Str.ofString "add_header") (Str.ofString "Headers.add_header") a b c 0 [] Value.none Value.none Value.none Value.none none Value.none Value.none 0)) #[]
noncomputable def o303 : Obj := oC #[vS "add_header" 666, vS "Headers.add_header" 667, vS "/claim/cut.py" 668, vI 191, vI 3, vI 0, vI 0, vI 11, vR 247, Value.bool true, vI 276, vR 248, Value.none, vR 249, vR 250, vR 251, vI 676, vI 191, vS "/claim/cut.py" 677]
noncomputable def o304 : Obj := oF (mkF (mSt 21 16) rfl fun a b c => FuncData.mk (Str.ofString "add_header") (Str.ofString "Headers.add_header") a b c 3 [] Value.none Value.none Value.none (vS "cpy313.wsgiref.headers" 423) none (vR 252) Value.none 0)
noncomputable def o305 : Obj := Obj.mk (Value.type "tuple") none (Data.seq #[vS "_headers" 679]) #[]
noncomputable def o306 (P : Params) : Obj := Obj.mk (Value.type "dict") none (Data.dict #[dE P "__module__" 536 (vS "cpy313.wsgiref.headers" 423), dE P "__firstlineno__" 540 (Value.int 123 539), dE P "__init__" 550 (vR 148), dE P "_convert_string_type" 560 (vR 155), dE P "__len__" 567 (vR 162), dE P "__setitem__" 576 (vR 169), dE P "__delitem__" 582 (vR 174), dE P "__getitem__" 590 (vR 181), dE P "__contains__" 598 (vR 188), dE P "get_all" 606 (vR 195), dE P "get" 617 (vR 203), dE P "keys" 623 (vR 208), dE P "values" 629 (vR 213), dE P "items" 636 (vR 220), dE P "__repr__" 643 (vR 227), dE P "__str__" 649 (vR 232), dE P "__bytes__" 656 (vR 239), dE P "setdefault" 665 (vR 246), dE P "add_header" 678 (vR 253), dE P "__static_attributes__" 680 (vR 254), dE P "__dict__" 682 (vR 257), dE P "__weakref__" 684 (vR 258), dE P "__doc__" 685 Value.none] 4) #[]
noncomputable def o307 : Obj := Obj.mk (Value.type "type") none (Data.cls (ClassData.mk (Str.ofString "Headers") [Value.type "object"] [vR 256, Value.type "object"] 255 (Str.ofString "Headers") true [] [] false none false)) #[none, none, some (vS "Headers" 529), some (vS "Headers" 537), some (Value.builtin "object.__new__"), some (Value.bool true)]
noncomputable def o308 : Obj := Obj.mk (Value.type "getset_descriptor") none (Data.fields #[vS "__dict__" 681, vR 256, Value.builtin "function.__dict__", Value.builtin "function.__dict__#set"]) #[]
noncomputable def o309 : Obj := Obj.mk (Value.type "getset_descriptor") none (Data.fields #[vS "__weakref__" 683, vR 256, Value.builtin "ExceptionGroup.__weakref__", Value.none]) #[]
noncomputable def o310 : Obj := Obj.mk (Value.type "super") none (Data.fields #[vR 256, vR 256, vR 256]) #[]
noncomputable def o311 : Obj := Obj.mk (Value.type "builtin_function_or_method") none (Data.fields #[Value.builtin "object.__init_subclass__", vR 256]) #[]
noncomputable def o396 (P : Params) : Obj := Obj.mk (Value.type "dict") none (Data.dict #[dE P "__name__" 165 (vS "law_kl0382_01" 688), dE P "__doc__" 166 Value.none, dE P "__package__" 167 Value.none, dE P "__loader__" 168 (Value.builtin "__main__.__loader__#opaque"), dE P "__spec__" 169 Value.none, dE P "__annotations__" 170 (vR 6), dE P "__builtins__" 171 (vR 4), dE P "__file__" 173 (vS "/claim/cut.py" 172), dE P "__cached__" 174 Value.none, dE P "_sre" 275 (vR 12), dE P "_wall" 288 (vR 38), dE P "ONE_THIRD" 294 (Value.float 4599676419421066581 293), dE P "ONE_SIXTH" 298 (Value.float 4595172819793696085 297), dE P "TWO_THIRD" 302 (Value.float 4604180019048437077 301), dE P "rgb_to_hls" 321 (vR 45), dE P "hls_to_rgb" 332 (vR 52), dE P "_v" 341 (vR 59), dE P "rgb_to_hsv" 359 (vR 66), dE P "hsv_to_rgb" 373 (vR 73), dE P "_Unknown" 402 (vR 90), dE P "UNKNOWN" 403 (vR 96), dE P "_get_name_info" 413 (vR 103), dE P "_parse_varint" 422 (vR 110), dE P "tspecials" 458 (vR 115), dE P "_name_disallowed_re" 484 (vR 120), dE P "_value_disallowed_re" 518 (vR 125), dE P "_formatparam" 528 (vR 133), dE P "Headers" 687 (vR 256), dE P "_LAW_FIRST" 695 (vR 267), dE P "_law_drawn" 701 (vR 272), dE P "_law_octets" 707 (vR 277), dE P "_law_read" 713 (vR 282), dE P "_law_upright" 719 (vR 287), dE P "_law_times" 727 (vR 294), dE P "_law_size" 734 (vR 301), dE P "_law_name" 745 (vR 308), dE P "_law_thirds" 751 (vR 313), dE P "_law_euler" 757 (vR 318), dE P "law" 763 (vR 323)] 39) #[]
noncomputable def o397 : Obj := Obj.mk Value.none none (Data.fields #[vI 2, vI 0, vR 37, vI 9, vI 0, vR 44, vI 32, vI 0, vR 51, vI 41, vI 0, vR 58, vI 50, vI 0, vR 65, vI 69, vI 0, vR 72, vI 91, vI 0, vR 79, vI 96, vI 0, vR 102, vI 102, vI 0, vR 109, vI 114, vI 0, vR 132, vI 123, vI 0, vR 139, vI 205, vI 0, vR 266, vI 207, vI 0, vR 271, vI 212, vI 0, vR 276, vI 215, vI 0, vR 281, vI 219, vI 0, vR 286, vI 227, vI 0, vR 293, vI 229, vI 0, vR 300, vI 231, vI 0, vR 307, vI 235, vI 0, vR 312, vI 264, vI 0, vR 317, vI 272, vI 0, vR 322]) #[]
noncomputable def o398 : Obj := Obj.mk (Value.type "tuple") none (Data.seq #[]) #[]
noncomputable def o399 : Obj := Obj.mk Value.none none (Data.fields #[]) #[]
noncomputable def o400 : Obj := Obj.mk (Value.type "tuple") none (Data.seq #[]) #[]
noncomputable def o401 : Obj := Obj.mk (Value.type "tuple") none (Data.seq #[]) #[]
noncomputable def o402 : Obj := Obj.mk Value.none none (Data.func (mkF (tSt 23) rfl fun a b c => FuncData.mk (Str.ofString "_LAW_FIRST") (Str.ofString "_LAW_FIRST") a b c 0 [] Value.none Value.none Value.none Value.none none Value.none Value.none 0)) #[]
noncomputable def o403 : Obj := oC #[vS "_LAW_FIRST" 690, vS "_LAW_FIRST" 691, vS "/claim/cut.py" 692, vI 205, vI 0, vI 0, vI 0, vI 3, vR 261, Value.bool true, vI 276, vR 262, Value.none, vR 263, vR 264, vR 265, vI 693, vI 205, vS "/claim/cut.py" 694]
noncomputable def o404 : Obj := oF (mkF (tSt 23) rfl fun a b c => FuncData.mk (Str.ofString "_LAW_FIRST") (Str.ofString "_LAW_FIRST") a b c 3 [] Value.none Value.none Value.none (vS "law_kl0382_01" 688) none (vR 266) Value.none 0)
noncomputable def o405 : Obj := Obj.mk (Value.type "tuple") none (Data.seq #[]) #[]
noncomputable def o406 : Obj := Obj.mk Value.none none (Data.fields #[]) #[]
noncomputable def o407 : Obj := Obj.mk Value.none none (Data.func (mkF (tSt 24) rfl fun a b c => FuncData.mk (Str.ofString "_law_drawn") (Str.ofString "_law_drawn") a b c 0 [] Value.none Value.none Value.none Value.none none Value.none Value.none 0)) #[]
noncomputable def o408 : Obj := oC #[vS "_law_drawn" 696, vS "_law_drawn" 697, vS "/claim/cut.py" 698, vI 207, vI 1, vI 0, vI 0, vI 3, vR 268, Value.bool true, vI 276, vR 269, Value.none, Value.none, Value.none, vR 270, vI 699, vI 207, vS "/claim/cut.py" 700]
noncomputable def o409 : Obj := oF (mkF (tSt 24) rfl fun a b c => FuncData.mk (Str.ofString "_law_drawn") (Str.ofString "_law_drawn") a b c 3 [] Value.none Value.none Value.none (vS "law_kl0382_01" 688) none (vR 271) Value.none 0)
noncomputable def o410 : Obj := Obj.mk (Value.type "tuple") none (Data.seq #[]) #[]
noncomputable def o411 : Obj := Obj.mk Value.none none (Data.fields #[]) #[]
noncomputable def o412 : Obj := Obj.mk Value.none none (Data.func (mkF (tSt 25) rfl fun a b c => FuncData.mk (Str.ofString "_law_octets") (Str.ofString "_law_octets") a b c 0 [] Value.none Value.none Value.none Value.none none Value.none Value.none 0)) #[]
noncomputable def o413 : Obj := oC #[vS "_law_octets" 702, vS "_law_octets" 703, vS "/claim/cut.py" 704, vI 212, vI 1, vI 0, vI 0, vI 3, vR 273, Value.bool true, vI 276, vR 274, Value.none, Value.none, Value.none, vR 275, vI 705, vI 212, vS "/claim/cut.py" 706]
noncomputable def o414 : Obj := oF (mkF (tSt 25) rfl fun a b c => FuncData.mk (Str.ofString "_law_octets") (Str.ofString "_law_octets") a b c 3 [] Value.none Value.none Value.none (vS "law_kl0382_01" 688) none (vR 276) Value.none 0)
noncomputable def o415 : Obj := Obj.mk (Value.type "tuple") none (Data.seq #[]) #[]
noncomputable def o416 : Obj := Obj.mk Value.none none (Data.fields #[]) #[]
noncomputable def o417 : Obj := Obj.mk Value.none none (Data.func (mkF (tSt 26) rfl fun a b c => FuncData.mk (Str.ofString "_law_read") (Str.ofString "_law_read") a b c 0 [] Value.none Value.none Value.none Value.none none Value.none Value.none 0)) #[]
noncomputable def o418 : Obj := oC #[vS "_law_read" 708, vS "_law_read" 709, vS "/claim/cut.py" 710, vI 215, vI 1, vI 0, vI 0, vI 3, vR 278, Value.bool true, vI 276, vR 279, Value.none, Value.none, Value.none, vR 280, vI 711, vI 215, vS "/claim/cut.py" 712]
noncomputable def o419 : Obj := oF (mkF (tSt 26) rfl fun a b c => FuncData.mk (Str.ofString "_law_read") (Str.ofString "_law_read") a b c 3 [] Value.none Value.none Value.none (vS "law_kl0382_01" 688) none (vR 281) Value.none 0)
noncomputable def o420 : Obj := Obj.mk (Value.type "tuple") none (Data.seq #[]) #[]
noncomputable def o421 : Obj := Obj.mk Value.none none (Data.fields #[]) #[]
noncomputable def o422 : Obj := Obj.mk Value.none none (Data.func (mkF (tSt 27) rfl fun a b c => FuncData.mk (Str.ofString "_law_upright") (Str.ofString "_law_upright") a b c 0 [] Value.none Value.none Value.none Value.none none Value.none Value.none 0)) #[]
noncomputable def o423 : Obj := oC #[vS "_law_upright" 714, vS "_law_upright" 715, vS "/claim/cut.py" 716, vI 219, vI 1, vI 0, vI 0, vI 3, vR 283, Value.bool true, vI 276, vR 284, Value.none, Value.none, Value.none, vR 285, vI 717, vI 219, vS "/claim/cut.py" 718]
noncomputable def o424 : Obj := oF (mkF (tSt 27) rfl fun a b c => FuncData.mk (Str.ofString "_law_upright") (Str.ofString "_law_upright") a b c 3 [] Value.none Value.none Value.none (vS "law_kl0382_01" 688) none (vR 286) Value.none 0)
noncomputable def o425 : Obj := Obj.mk (Value.type "tuple") none (Data.seq #[]) #[]
noncomputable def o426 : Obj := Obj.mk Value.none none (Data.fields #[]) #[]
noncomputable def o427 : Obj := Obj.mk (Value.type "tuple") none (Data.seq #[vS "a" 723, vS "b" 724]) #[]
noncomputable def o428 : Obj := Obj.mk (Value.type "tuple") none (Data.seq #[]) #[]
noncomputable def o429 : Obj := Obj.mk Value.none none (Data.func (mkF (tSt 28) rfl fun a b c => FuncData.mk (Str.ofString "_law_times") (Str.ofString "_law_times") a b c 0 [] Value.none Value.none Value.none Value.none none Value.none Value.none 0)) #[]
noncomputable def o430 : Obj := oC #[vS "_law_times" 720, vS "_law_times" 721, vS "/claim/cut.py" 722, vI 227, vI 2, vI 0, vI 0, vI 3, vR 288, Value.bool true, vI 276, vR 289, Value.none, vR 290, vR 291, vR 292, vI 725, vI 227, vS "/claim/cut.py" 726]
noncomputable def o431 : Obj := oF (mkF (tSt 28) rfl fun a b c => FuncData.mk (Str.ofString "_law_times") (Str.ofString "_law_times") a b c 3 [] Value.none Value.none Value.none (vS "law_kl0382_01" 688) none (vR 293) Value.none 0)
noncomputable def o432 : Obj := Obj.mk (Value.type "tuple") none (Data.seq #[]) #[]
noncomputable def o433 : Obj := Obj.mk Value.none none (Data.fields #[]) #[]
noncomputable def o434 : Obj := Obj.mk (Value.type "tuple") none (Data.seq #[vS "m" 731]) #[]
noncomputable def o435 : Obj := Obj.mk (Value.type "tuple") none (Data.seq #[]) #[]
noncomputable def o436 : Obj := Obj.mk Value.none none (Data.func (mkF (tSt 29) rfl fun a b c => FuncData.mk (Str.ofString "_law_size") (Str.ofString "_law_size") a b c 0 [] Value.none Value.none Value.none Value.none none Value.none Value.none 0)) #[]
noncomputable def o437 : Obj := oC #[vS "_law_size" 728, vS "_law_size" 729, vS "/claim/cut.py" 730, vI 229, vI 1, vI 0, vI 0, vI 3, vR 295, Value.bool true, vI 276, vR 296, Value.none, vR 297, vR 298, vR 299, vI 732, vI 229, vS "/claim/cut.py" 733]
noncomputable def o438 : Obj := oF (mkF (tSt 29) rfl fun a b c => FuncData.mk (Str.ofString "_law_size") (Str.ofString "_law_size") a b c 3 [] Value.none Value.none Value.none (vS "law_kl0382_01" 688) none (vR 300) Value.none 0)
noncomputable def o439 : Obj := Obj.mk (Value.type "tuple") none (Data.seq #[]) #[]
noncomputable def o440 : Obj := Obj.mk Value.none none (Data.fields #[]) #[]
noncomputable def o441 : Obj := Obj.mk (Value.type "tuple") none (Data.seq #[vS "a" 738, vS "m" 739, vS "size" 740, vS "one" 741, vS "two" 742]) #[]
noncomputable def o442 : Obj := Obj.mk (Value.type "tuple") none (Data.seq #[]) #[]
noncomputable def o443 : Obj := Obj.mk Value.none none (Data.func (mkF (tSt 30) rfl fun a b c => FuncData.mk (Str.ofString "_law_name") (Str.ofString "_law_name") a b c 0 [] Value.none Value.none Value.none Value.none none Value.none Value.none 0)) #[]
noncomputable def o444 : Obj := oC #[vS "_law_name" 735, vS "_law_name" 736, vS "/claim/cut.py" 737, vI 231, vI 3, vI 0, vI 0, vI 3, vR 302, Value.bool true, vI 276, vR 303, Value.none, vR 304, vR 305, vR 306, vI 743, vI 231, vS "/claim/cut.py" 744]
noncomputable def o445 : Obj := oF (mkF (tSt 30) rfl fun a b c => FuncData.mk (Str.ofString "_law_name") (Str.ofString "_law_name") a b c 3 [] Value.none Value.none Value.none (vS "law_kl0382_01" 688) none (vR 307) Value.none 0)
noncomputable def o446 : Obj := Obj.mk (Value.type "tuple") none (Data.seq #[]) #[]
noncomputable def o447 : Obj := Obj.mk Value.none none (Data.fields #[]) #[]
noncomputable def o448 : Obj := Obj.mk Value.none none (Data.func (mkF (tSt 31) rfl fun a b c => FuncData.mk (Str.ofString "_law_thirds") (Str.ofString "_law_thirds") a b c 0 [] Value.none Value.none Value.none Value.none none Value.none Value.none 0)) #[]
noncomputable def o449 : Obj := oC #[vS "_law_thirds" 746, vS "_law_thirds" 747, vS "/claim/cut.py" 748, vI 235, vI 3, vI 0, vI 0, vI 3, vR 309, Value.bool true, vI 276, vR 310, Value.none, Value.none, Value.none, vR 311, vI 749, vI 235, vS "/claim/cut.py" 750]
noncomputable def o450 : Obj := oF (mkF (tSt 31) rfl fun a b c => FuncData.mk (Str.ofString "_law_thirds") (Str.ofString "_law_thirds") a b c 3 [] Value.none Value.none Value.none (vS "law_kl0382_01" 688) none (vR 312) Value.none 0)
noncomputable def o451 : Obj := Obj.mk (Value.type "tuple") none (Data.seq #[]) #[]
noncomputable def o452 : Obj := Obj.mk Value.none none (Data.fields #[]) #[]
noncomputable def o453 : Obj := Obj.mk Value.none none (Data.func (mkF (tSt 32) rfl fun a b c => FuncData.mk (Str.ofString "_law_euler") (Str.ofString "_law_euler") a b c 0 [] Value.none Value.none Value.none Value.none none Value.none Value.none 0)) #[]
noncomputable def o454 : Obj := oC #[vS "_law_euler" 752, vS "_law_euler" 753, vS "/claim/cut.py" 754, vI 264, vI 3, vI 0, vI 0, vI 3, vR 314, Value.bool true, vI 276, vR 315, Value.none, Value.none, Value.none, vR 316, vI 755, vI 264, vS "/claim/cut.py" 756]
noncomputable def o455 : Obj := oF (mkF (tSt 32) rfl fun a b c => FuncData.mk (Str.ofString "_law_euler") (Str.ofString "_law_euler") a b c 3 [] Value.none Value.none Value.none (vS "law_kl0382_01" 688) none (vR 317) Value.none 0)
noncomputable def o456 : Obj := Obj.mk (Value.type "tuple") none (Data.seq #[]) #[]
noncomputable def o457 : Obj := Obj.mk Value.none none (Data.fields #[]) #[]
noncomputable def o458 : Obj := Obj.mk Value.none none (Data.func (mkF (tSt 33) rfl fun a b c => FuncData.mk (Str.ofString "law") (Str.ofString "law") a b c 0 [] Value.none Value.none Value.none Value.none none Value.none Value.none 0)) #[]
noncomputable def o459 : Obj := oC #[vS "law" 758, vS "law" 759, vS "/claim/cut.py" 760, vI 272, vI 1, vI 0, vI 0, vI 3, vR 319, Value.bool true, vI 276, vR 320, Value.none, Value.none, Value.none, vR 321, vI 761, vI 272, vS "/claim/cut.py" 762]
noncomputable def o460 : Obj := oF (mkF (tSt 33) rfl fun a b c => FuncData.mk (Str.ofString "law") (Str.ofString "law") a b c 3 [] Value.none Value.none Value.none (vS "law_kl0382_01" 688) none (vR 322) Value.none 0)
noncomputable def heapK (P : Params) : Frag := (nat_lit 2, o43 P) :: (nat_lit 3, o396 P) :: (nat_lit 32, o77) :: (nat_lit 34, o79) :: (nat_lit 35, o80) :: (nat_lit 37, o82) :: (nat_lit 38, o83) :: (nat_lit 39, o84) :: (nat_lit 41, o86) :: (nat_lit 42, o87) :: (nat_lit 44, o89) :: (nat_lit 45, o90) :: (nat_lit 46, o91) :: (nat_lit 48, o93) :: (nat_lit 49, o94) :: (nat_lit 51, o96) :: (nat_lit 52, o97) :: (nat_lit 53, o98) :: (nat_lit 55, o100) :: (nat_lit 56, o101) :: (nat_lit 58, o103) :: (nat_lit 59, o104) :: (nat_lit 60, o105) :: (nat_lit 62, o107) :: (nat_lit 63, o108) :: (nat_lit 65, o110) :: (nat_lit 66, o111) :: (nat_lit 67, o112) :: (nat_lit 69, o114) :: (nat_lit 70, o115) :: (nat_lit 72, o117) :: (nat_lit 73, o118) :: (nat_lit 81, o128) :: (nat_lit 83, o130) :: (nat_lit 84, o131) :: (nat_lit 86, o133) :: (nat_lit 87, o134) :: (nat_lit 88, o135) :: (nat_lit 89, o136 P) :: (nat_lit 90, o137) :: (nat_lit 91, o138) :: (nat_lit 92, o139) :: (nat_lit 95, o142) :: (nat_lit 96, o143) :: (nat_lit 97, o144) :: (nat_lit 99, o146) :: (nat_lit 100, o147) :: (nat_lit 102, o149) :: (nat_lit 103, o150) :: (nat_lit 104, o151) :: (nat_lit 106, o153) :: (nat_lit 107, o154) :: (nat_lit 109, o156) :: (nat_lit 110, o157) :: (nat_lit 114, o163) :: (nat_lit 115, o164) :: (nat_lit 119, o168) :: (nat_lit 120, o169) :: (nat_lit 124, o173) :: (nat_lit 125, o174) :: (nat_lit 126, o175) :: (nat_lit 127, o176) :: (nat_lit 129, o178) :: (nat_lit 130, o179) :: (nat_lit 132, o181) :: (nat_lit 133, o182) :: (nat_lit 141, o192) :: (nat_lit 142, o193) :: (nat_lit 144, o195) :: (nat_lit 145, o196) :: (nat_lit 147, o198) :: (nat_lit 148, o199) :: (nat_lit 149, o200) :: (nat_lit 151, o202) :: (nat_lit 152, o203) :: (nat_lit 154, o205) :: (nat_lit 155, o206) :: (nat_lit 156, o207) :: (nat_lit 158, o209) :: (nat_lit 159, o210) :: (nat_lit 161, o212) :: (nat_lit 162, o213) :: (nat_lit 163, o214) :: (nat_lit 165, o216) :: (nat_lit 166, o217) :: (nat_lit 168, o219) :: (nat_lit 169, o220) :: (nat_lit 170, o221) :: (nat_lit 173, o224) :: (nat_lit 174, o225) :: (nat_lit 175, o226) :: (nat_lit 177, o228) :: (nat_lit 178, o229) :: (nat_lit 180, o231) :: (nat_lit 181, o232) :: (nat_lit 182, o233) :: (nat_lit 184, o235) :: (nat_lit 185, o236) :: (nat_lit 187, o238) :: (nat_lit 188, o239) :: (nat_lit 189, o240) :: (nat_lit 191, o242) :: (nat_lit 192, o243) :: (nat_lit 194, o245) :: (nat_lit 195, o246) :: (nat_lit 196, o247) :: (nat_lit 197, o248) :: (nat_lit 199, o250) :: (nat_lit 200, o251) :: (nat_lit 202, o253) :: (nat_lit 203, o254) :: (nat_lit 204, o255) :: (nat_lit 207, o258) :: (nat_lit 208, o259) :: (nat_lit 209, o260) :: (nat_lit 212, o263) :: (nat_lit 213, o264) :: (nat_lit 214, o265) :: (nat_lit 216, o267) :: (nat_lit 217, o268) :: (nat_lit 219, o270) :: (nat_lit 220, o271) :: (nat_lit 221, o272) :: (nat_lit 223, o274) :: (nat_lit 224, o275) :: (nat_lit 226, o277) :: (nat_lit 227, o278) :: (nat_lit 228, o279) :: (nat_lit 231, o282) :: (nat_lit 232, o283) :: (nat_lit 233, o284) :: (nat_lit 235, o286) :: (nat_lit 236, o287) :: (nat_lit 238, o289) :: (nat_lit 239, o290) :: (nat_lit 240, o291) :: (nat_lit 242, o293) :: (nat_lit 243, o294) :: (nat_lit 245, o296) :: (nat_lit 246, o297) :: (nat_lit 247, o298) :: (nat_lit 249, o300) :: (nat_lit 250, o301) :: (nat_lit 252, o303) :: (nat_lit 253, o304) :: (nat_lit 254, o305) :: (nat_lit 255, o306 P) :: (nat_lit 256, o307) :: (nat_lit 257, o308) :: (nat_lit 258, o309) :: (nat_lit 261, o398) :: (nat_lit 263, o400) :: (nat_lit 264, o401) :: (nat_lit 266, o403) :: (nat_lit 267, o404) :: (nat_lit 268, o405) :: (nat_lit 271, o408) :: (nat_lit 272, o409) :: (nat_lit 273, o410) :: (nat_lit 276, o413) :: (nat_lit 277, o414) :: (nat_lit 278, o415) :: (nat_lit 281, o418) :: (nat_lit 282, o419) :: (nat_lit 283, o420) :: (nat_lit 286, o423) :: (nat_lit 287, o424) :: (nat_lit 288, o425) :: (nat_lit 290, o427) :: (nat_lit 291, o428) :: (nat_lit 293, o430) :: (nat_lit 294, o431) :: (nat_lit 295, o432) :: (nat_lit 297, o434) :: (nat_lit 298, o435) :: (nat_lit 300, o437) :: (nat_lit 301, o438) :: (nat_lit 302, o439) :: (nat_lit 304, o441) :: (nat_lit 305, o442) :: (nat_lit 307, o444) :: (nat_lit 308, o445) :: (nat_lit 309, o446) :: (nat_lit 312, o449) :: (nat_lit 313, o450) :: (nat_lit 314, o451) :: (nat_lit 317, o454) :: (nat_lit 318, o455) :: (nat_lit 319, o456) :: (nat_lit 322, o459) :: (nat_lit 323, o460) :: []
noncomputable def l68 (P : Params) : List Obj := [o41 P, o42 P, o43 P, o44 P, o45, o46, o47, o48, o49, o50, o51, o52 P, o53, o54 P, o55, o56, o57, o58, o59, o60, o61 P, o62 P, o63, o64, o65, o66, o67, o68]
noncomputable def l73 (P : Params) : List Obj := [o41 P, o42 P, o43 P, o44 P, o45, o46, o47, o48, o49, o50, o51, o52 P, o53, o54 P, o55, o56, o57, o58, o59, o60, o61 P, o62 P, o63, o64, o65, o66, o67, o68, o69, o70, o71, o72]
noncomputable def l118 (P : Params) : List Obj := [o41 P, o42 P, o43 P, o75 P, o45, o46, o47, o48, o49, o50, o51, o52 P, o53, o54 P, o55, o56, o57, o58, o59, o60, o61 P, o62 P, o63, o64, o65, o66, o67, o68, o69, o76, o71, o72, o77, o78, o79, o80, o81, o82, o83, o84, o85, o86, o87, o88, o89, o90, o91, o92, o93, o94, o95, o96, o97, o98, o99, o100, o101, o102, o103, o104, o105, o106, o107, o108, o109, o110, o111, o112, o113, o114, o115, o116, o117, o118]
noncomputable def l157 (P : Params) : List Obj := [o41 P, o42 P, o43 P, o119 P, o45, o46, o47, o48, o49, o50, o51, o52 P, o53, o54 P, o55, o56, o57, o58, o59, o60, o61 P, o62 P, o63, o64, o65, o66, o67, o68, o69, o120, o71, o72, o77, o78, o79, o80, o81, o82, o83, o84, o85, o86, o87, o88, o89, o90, o91, o92, o93, o94, o95, o96, o97, o98, o99, o100, o101, o102, o103, o104, o105, o106, o107, o108, o109, o110, o111, o112, o113, o114, o115, o116, o117, o118, o121, o122, o123 P, o124, o125, o126, o127, o128, o129, o130, o131, o132, o133, o134, o135, o136 P, o137, o138, o139, o140, o141, o142, o143, o144, o145, o146, o147, o148, o149, o150, o151, o152, o153, o154, o155, o156, o157]
noncomputable def l182 (P : Params) : List Obj := [o41 P, o42 P, o43 P, o158 P, o45, o46, o47, o48, o49, o50, o51, o52 P, o53, o54 P, o55, o56, o57, o58, o59, o60, o61 P, o62 P, o63, o64, o65, o66, o67, o68, o69, o159, o71, o72, o77, o78, o79, o80, o81, o82, o83, o84, o85, o86, o87, o88, o89, o90, o91, o92, o93, o94, o95, o96, o97, o98, o99, o100, o101, o102, o103, o104, o105, o106, o107, o108, o109, o110, o111, o112, o113, o114, o115, o116, o117, o118, o121, o122, o123 P, o124, o125, o126, o127, o128, o129, o130, o131, o132, o133, o134, o135, o136 P, o137, o138, o139, o140, o141, o142, o143, o144, o145, o146, o147, o148, o149, o150, o151, o152, o153, o154, o155, o156, o157, o160, o161, o162, o163, o164, o165, o166, o167, o168, o169, o170, o171, o172, o173, o174, o175, o176, o177, o178, o179, o180, o181, o182]
noncomputable def l311 (P : Params) : List Obj := [o41 P, o42 P, o43 P, o183 P, o45, o46, o47, o48, o49, o50, o51, o52 P, o53, o54 P, o55, o56, o57, o58, o59, o60, o61 P, o62 P, o63, o64, o65, o66, o67, o68, o69, o184, o71, o72, o77, o78, o79, o80, o81, o82, o83, o84, o85, o86, o87, o88, o89, o90, o91, o92, o93, o94, o95, o96, o97, o98, o99, o100, o101, o102, o103, o104, o105, o106, o107, o108, o109, o110, o111, o112, o113, o114, o115, o116, o117, o118, o121, o122, o123 P, o124, o125, o126, o127, o128, o129, o130, o131, o132, o133, o134, o135, o136 P, o137, o138, o139, o140, o141, o142, o143, o144, o145, o146, o147, o148, o149, o150, o151, o152, o153, o154, o155, o156, o157, o160, o161, o162, o163, o164, o165, o166, o167, o168, o169, o170, o171, o172, o173, o174, o175, o176, o177, o178, o179, o180, o181, o182, o185, o186, o187 P, o188, o189, o190, o191, o192, o193, o194, o195, o196, o197, o198, o199, o200, o201, o202, o203, o204, o205, o206, o207, o208, o209, o210, o211, o212, o213, o214, o215, o216, o217, o218, o219, o220, o221, o222, o223, o224, o225, o226, o227, o228, o229, o230, o231, o232, o233, o234, o235, o236, o237, o238, o239, o240, o241, o242, o243, o244, o245, o246, o247, o248, o249, o250, o251, o252, o253, o254, o255, o256, o257, o258, o259, o260, o261, o262, o263, o264, o265, o266, o267, o268, o269, o270, o271, o272, o273, o274, o275, o276, o277, o278, o279, o280, o281, o282, o283, o284, o285, o286, o287, o288, o289, o290, o291, o292, o293, o294, o295, o296, o297, o298, o299, o300, o301, o302, o303, o304, o305, o306 P, o307, o308, o309, o310, o311]
noncomputable def l460 (P : Params) : List Obj := [o41 P, o42 P, o43 P, o396 P, o45, o46, o47, o48, o49, o50, o51, o52 P, o53, o54 P, o55, o56, o57, o58, o59, o60, o61 P, o62 P, o63, o64, o65, o66, o67, o68, o69, o397, o71, o72, o77, o78, o79, o80, o81, o82, o83, o84, o85, o86, o87, o88, o89, o90, o91, o92, o93, o94, o95, o96, o97, o98, o99, o100, o101, o102, o103, o104, o105, o106, o107, o108, o109, o110, o111, o112, o113, o114, o115, o116, o117, o118, o121, o122, o123 P, o124, o125, o126, o127, o128, o129, o130, o131, o132, o133, o134, o135, o136 P, o137, o138, o139, o140, o141, o142, o143, o144, o145, o146, o147, o148, o149, o150, o151, o152, o153, o154, o155, o156, o157, o160, o161, o162, o163, o164, o165, o166, o167, o168, o169, o170, o171, o172, o173, o174, o175, o176, o177, o178, o179, o180, o181, o182, o185, o186, o187 P, o188, o189, o190, o191, o192, o193, o194, o195, o196, o197, o198, o199, o200, o201, o202, o203, o204, o205, o206, o207, o208, o209, o210, o211, o212, o213, o214, o215, o216, o217, o218, o219, o220, o221, o222, o223, o224, o225, o226, o227, o228, o229, o230, o231, o232, o233, o234, o235, o236, o237, o238, o239, o240, o241, o242, o243, o244, o245, o246, o247, o248, o249, o250, o251, o252, o253, o254, o255, o256, o257, o258, o259, o260, o261, o262, o263, o264, o265, o266, o267, o268, o269, o270, o271, o272, o273, o274, o275, o276, o277, o278, o279, o280, o281, o282, o283, o284, o285, o286, o287, o288, o289, o290, o291, o292, o293, o294, o295, o296, o297, o298, o299, o300, o301, o302, o303, o304, o305, o306 P, o307, o308, o309, o310, o311, o398, o399, o400, o401, o402, o403, o404, o405, o406, o407, o408, o409, o410, o411, o412, o413, o414, o415, o416, o417, o418, o419, o420, o421, o422, o423, o424, o425, o426, o427, o428, o429, o430, o431, o432, o433, o434, o435, o436, o437, o438, o439, o440, o441, o442, o443, o444, o445, o446, o447, o448, o449, o450, o451, o452, o453, o454, o455, o456, o457, o458, o459, o460]
noncomputable abbrev addrK : List Addr := [2, 3, 32, 34, 35, 37, 38, 39, 41, 42, 44, 45, 46, 48, 49, 51, 52, 53, 55, 56, 58, 59, 60, 62, 63, 65, 66, 67, 69, 70, 72, 73, 81, 83, 84, 86, 87, 88, 89, 90, 91, 92, 95, 96, 97, 99, 100, 102, 103, 104, 106, 107, 109, 110, 114, 115, 119, 120, 124, 125, 126, 127, 129, 130, 132, 133, 141, 142, 144, 145, 147, 148, 149, 151, 152, 154, 155, 156, 158, 159, 161, 162, 163, 165, 166, 168, 169, 170, 173, 174, 175, 177, 178, 180, 181, 182, 184, 185, 187, 188, 189, 191, 192, 194, 195, 196, 197, 199, 200, 202, 203, 204, 207, 208, 209, 212, 213, 214, 216, 217, 219, 220, 221, 223, 224, 226, 227, 228, 231, 232, 233, 235, 236, 238, 239, 240, 242, 243, 245, 246, 247, 249, 250, 252, 253, 254, 255, 256, 257, 258, 261, 263, 264, 266, 267, 268, 271, 272, 273, 276, 277, 278, 281, 282, 283, 286, 287, 288, 290, 291, 293, 294, 295, 297, 298, 300, 301, 302, 304, 305, 307, 308, 309, 312, 313, 314, 317, 318, 319, 322, 323]
noncomputable abbrev looseK : List Str := [Str.ofString "ONE_THIRD", Str.ofString "ONE_SIXTH", Str.ofString "TWO_THIRD", Str.ofString "UNKNOWN", Str.ofString "tspecials", Str.ofString "_name_disallowed_re", Str.ofString "_value_disallowed_re", Str.ofString "_formatparam"]
noncomputable abbrev readK : List (Str × WData) := [(Str.ofString "ONE_THIRD", WData.float 4599676419421066581), (Str.ofString "ONE_SIXTH", WData.float 4595172819793696085), (Str.ofString "TWO_THIRD", WData.float 4604180019048437077)]
theorem addr_K : ∀ P, addrK = (heapK P).map (·.1) := fun _ => by kernel_rfl
noncomputable abbrev hookK : Hook := kmHook heapK addrK addr_K [310]
noncomputable abbrev testK (s : Shared) : Bool := xlAt viewK readK s && recOk PySem.Challenge.rw_kl0382_01.row.records s
noncomputable def bt : Nat → List Obj → Nat → Nat → BT
  | 0, _, _, _ => .nil
  | f + 1, l, a, b => match l[b]? with
    | some o => .node o (bt f l (2 * a) (a + b)) (bt f l (2 * a) (2 * a + b))
    | none => .nil
noncomputable def hpP (l : Params → List Obj) (P : Params) : Heap := ⟨⟨l P⟩, {}⟩
noncomputable abbrev hp (l : Params → List Obj) (w : World) : Heap := hpP l w.params
noncomputable def stT (l : Params → List Obj) (n k : Nat) (w : World) (os : OsState) : SharedT := ⟨bt 10 (l w.params) 1 0, n, {}, #[], {}, k, os⟩
noncomputable def envK : Env := Env.mk prK.main.scope mainNs mainNs [] Str.empty none (Value.ref 30) (some 31) 0
noncomputable def codeK : Code := Code.body (behindTheImports prK) envK
noncomputable abbrev p0 : Pos := ⟨0, 0, 0, 0⟩
noncomputable def grp (a n : Nat) : List Stmt := ((behindTheImports prK).drop a).take n
noncomputable def piK (a n : Nat) (p : Pos) : Thread := piecesOf (grp a n) envK codeK p [topFrame p0]
theorem openK : ∀ w : World, (fencedOpening treeTable prK w 3960).map (fun s => (s.heap, s.gens, s.drawn, s.toks)) = some (hp l68 w, #[], {}, 276) := by
  intro w
  kernel_rfl
theorem preK (w : World) (os : OsState) : topGo treeTable prK w 28 (some (.ref 6)) 12 ⟨hp l68 w, #[], {}, 276, os⟩ (topStub prK) = some (⟨hp l73 w, #[], {}, 282, os⟩, ⟨denote treeTable codeK, codeK, p0, [topFrame p0]⟩) := by
  kernel_rfl
theorem blockK (w : World) (os : OsState) : segRun treeTable prK w 28 (some (.ref 6)) 1 1 ⟨hp l73 w, #[], {}, 282, os⟩ (blockOf (behindTheImports prK) envK codeK p0 [topFrame p0]) = some (.next, (stT l73 32 282 w os).abs, codeK, p0) := by
  kernel_rfl
theorem seg1 (w : World) (os : OsState) : segRunT treeTable prK w 28 (some (.ref 6)) 1 274 (stT l73 32 282 w os) (piK 0 11 p0) = some (.next, stT l118 74 376 w os, codeK, ⟨90, 0, 90, 8⟩) := by
  kernel_rfl
theorem seg2 (w : World) (os : OsState) : segRunT treeTable prK w 28 (some (.ref 6)) 1 348 (stT l118 74 376 w os) (piK 11 5 ⟨90, 0, 90, 8⟩) = some (.next, stT l157 111 425 w os, codeK, ⟨110, 0, 110, 8⟩) := by
  kernel_rfl
theorem seg3 (w : World) (os : OsState) : segRunT treeTable prK w 28 (some (.ref 6)) 1 257 (stT l157 111 425 w os) (piK 16 4 ⟨110, 0, 110, 8⟩) = some (.next, stT l182 134 529 w os, codeK, ⟨114, 0, 122, 20⟩) := by
  kernel_rfl
theorem seg4 (w : World) (os : OsState) : segRunT treeTable prK w 28 (some (.ref 6)) 1 731 (stT l182 134 529 w os) (piK 20 1 ⟨114, 0, 122, 20⟩) = some (.next, stT l311 261 688 w os, codeK, ⟨123, 0, 203, 93⟩) := by
  kernel_rfl
theorem seg5 (w : World) (os : OsState) : segRunT treeTable prK w 28 (some (.ref 6)) 1 312 (stT l311 261 688 w os) (piK 21 12 ⟨123, 0, 203, 93⟩) = some (.next, stT l460 324 764 w os, codeK, ⟨272, 0, 285, 50⟩) := by
  kernel_rfl
theorem finK (w : World) (os : OsState) : topRun treeTable prK w 28 (some (.ref 6)) 2 (stT l460 324 764 w os).abs ⟨doneF .next, codeK, ⟨272, 0, 285, 50⟩, [topFrame p0]⟩ = some ⟨hp l460 w, #[], {}, 764, os⟩ := by
  kernel_rfl
theorem bodyK : behindTheImports prK = grp 0 11 ++ (grp 11 5 ++ (grp 16 4 ++ (grp 20 1 ++ (grp 21 12 ++ [])))) := by
  kernel_rfl
noncomputable abbrev tpK (w : World) (n : Nat) (s : Shared) (t : Thread) (os : OsState) : Prop := topRun treeTable prK w 28 (some (.ref 6)) n s t = some ⟨hp l460 w, #[], {}, 764, os⟩
noncomputable abbrev rsK (l : List Stmt) (p : Pos) : Thread := restOf l envK codeK p [topFrame p0]
theorem run5 (w : World) (os : OsState) : tpK w (312 + 2) (stT l311 261 688 w os).abs (rsK (grp 21 12 ++ []) ⟨123, 0, 203, 93⟩) os := piece_app (segRun_of (seg5 w os)) (finK w os)
theorem run4 (w : World) (os : OsState) : tpK w (731 + (312 + 2)) (stT l182 134 529 w os).abs (rsK (grp 20 1 ++ (grp 21 12 ++ [])) ⟨114, 0, 122, 20⟩) os := piece_app (segRun_of (seg4 w os)) (run5 w os)
theorem run3 (w : World) (os : OsState) : tpK w (257 + (731 + (312 + 2))) (stT l157 111 425 w os).abs (rsK (grp 16 4 ++ (grp 20 1 ++ (grp 21 12 ++ []))) ⟨110, 0, 110, 8⟩) os := piece_app (segRun_of (seg3 w os)) (run4 w os)
theorem run2 (w : World) (os : OsState) : tpK w (348 + (257 + (731 + (312 + 2)))) (stT l118 74 376 w os).abs (rsK (grp 11 5 ++ (grp 16 4 ++ (grp 20 1 ++ (grp 21 12 ++ [])))) ⟨90, 0, 90, 8⟩) os := piece_app (segRun_of (seg2 w os)) (run3 w os)
theorem run1 (w : World) (os : OsState) : tpK w (274 + (348 + (257 + (731 + (312 + 2))))) (stT l73 32 282 w os).abs (rsK (grp 0 11 ++ (grp 11 5 ++ (grp 16 4 ++ (grp 20 1 ++ (grp 21 12 ++ []))))) p0) os := piece_app (segRun_of (seg1 w os)) (run2 w os)
theorem run0 (w : World) (os : OsState) : tpK w (274 + (348 + (257 + (731 + (312 + 2))))) (stT l73 32 282 w os).abs (rsK (behindTheImports prK) p0) os :=
  Eq.mpr (congrArg (fun b => tpK w (274 + (348 + (257 + (731 + (312 + 2))))) (stT l73 32 282 w os).abs (rsK b p0) os) bodyK) (run1 w os)
theorem runK (w : World) (os : OsState) : topRun treeTable prK w 28 (some (.ref 6)) (12 + (1 + (274 + (348 + (257 + (731 + (312 + 2))))))) ⟨hp l68 w, #[], {}, 276, os⟩ (topStub prK) = some ⟨hp l460 w, #[], {}, 764, os⟩ :=
  go_top (preK w os) (piece_block (blockK w os) (run0 w os))
theorem sizeK (w : World) : ((hp l68 w).isNs mainGlobals && (#[] : Array GenState).size == 0, (hp l68 w).objs.size, (hp l68 w).nsMap mainGlobals "__annotations__") = (true, 28, some (.ref 6)) := by
  kernel_rfl
theorem looksK (w : World) : (fun os => ((staticsOk (importedModules prK.main.body) (hp l68 w) (hp l460 w) && namesBound prK (hp l460 w) && gensDone ⟨hp l460 w, #[], {}, 764, os⟩ && laidKept (hp l68 w) (hp l460 w)),
        openSeen viewK looseK (importedModules prK.main.body) testK true ⟨hp l460 w, #[], {}, 764, os⟩, hookK.obs ⟨hp l460 w, #[], {}, 764, os⟩)) = fun _ => (true, openGood viewK looseK, hookK.val w) := by
  kernel_rfl
theorem leftK : LeftO prK viewK looseK testK hookK.obs hookK.val 3960 :=
  LeftO.of_pieces (H₀ := hpP l68) (H₁ := hpP l460) openK sizeK runK (Eq.refl true) looksK
theorem saidK : PySem.Challenge.rw_kl0382_01.wellSaid = true := by
  kernel_rfl
theorem okK : (chainsOk viewK && opensWell PySem.Challenge.rw_kl0382_01.row.prog && (frees PySem.Challenge.rw_kl0382_01.row.toRowW && PySem.Challenge.rw_kl0382_01.row.within.isEmpty)) = true := by
  kernel_rfl
theorem headK {d : DefRec} {kwd : List (Str × PySem.Expr)} (hdef : defOf viewK PySem.Challenge.rw_kl0382_01.row.name = some (d, kwd)) (hp : PySem.Challenge.rw_kl0382_01.row.prog.theDef PySem.Challenge.rw_kl0382_01.row.name = some (d.params, d.body, d.scope)) (hk : kwWritten? d.params.kwonlyargs d.params.kw_defaults = some kwd)
    (call : WalkO viewK looseK (XL viewK readK) hookK.says PySem.Challenge.rw_kl0382_01.row.toRowW d kwd fun f vs => PySem.call f vs) : PySem.Challenge.rw_kl0382_01.Holds :=
  holds_law saidK fun said => holds_open leftK hookK.of hookK.keeps (fun s e => xl_of s (Bool.and_eq_true_iff.mp e).1) XL.keeps hdef hp hk (fun s e => recFacts_of (Bool.and_eq_true_iff.mp e).2) rfl said okK
    ⟨rfl, rfl, rfl, rfl, rfl, by decide +kernel⟩ ⟨[WData.list []], by decide +kernel, by decide +kernel⟩ call
end PA0
local macro_rules | `(tactic| walk_at $s:str) => `(tactic| k_extra $s)
local macro_rules | `(tactic| k_all) => `(tactic| k_extra "m:all")
local macro_rules | `(tactic| k_mem) => `(tactic| k_extra "m:mem")
local macro_rules | `(tactic| k_ne) => `(tactic| k_extra "m:ne")
local macro_rules | `(tactic| lcg_sub) => `(tactic| k_extra "m:sub")
local macro_rules | `(tactic| lcg_off) => `(tactic| k_extra "m:off")
local macro_rules | `(tactic| lcg_src) => `(tactic| k_extra "m:src")
local macro_rules | `(tactic| k_room) => `(tactic| first | k_extra "m:room" | ktr_room)
local macro_rules | `(tactic| k_fold) => `(tactic| skip)
local macro_rules | `(tactic| k_unfold) => `(tactic| fail)
local macro_rules | `(tactic| k_units) => `(tactic| k_extra "m:units")
local macro_rules | `(tactic| k_in) => `(tactic| k_extra "m:kin")
section PA1
noncomputable abbrev Led := List (Addr × Obj)
/-- the new ones of a ledger lie above all that came before, the newest first -/
noncomputable def Above : Led → Led → Prop
  | [], _ => True
  | q :: tl, news => (∀ p ∈ tl ++ news, p.1 < q.1) ∧ Above tl news
noncomputable abbrev tupO (vs : Array Value) : Obj := { cls := .type "tuple", data := .seq vs }
/-- a call's contract, in the caller's words: the answers (what is new on the ledger, the value) are told by Ret -/
noncomputable abbrev Claim (w : World) (p : Program) (loose : List Str) (mean : ExcName → Option Value) (mg mb : Str → Option Value) (f : Value) (n : Nat) (vs : List Value) (news : Led) (Ret : (Led → Value → Prop) → Prop) : Prop :=
  ∀ (dp un : Nat) (gd : Option (List Code)) (cn : Str) (cs : Scope) (a : Addr) (ccd : Value) (cl : List (Str × Addr)) (outer : List Env) (A₀ : Around) (base h₀ : Heap) (L : Addr) (m : Str → Option Value) (s : Shared) (Q E : Value → Shared → Prop),
    Below A₀ base outer h₀ → Fr h₀ L s.heap m → (heapK w.params).In h₀ → News h₀ L s.heap news → Top p loose mean mg mb h₀ → cs.kind = .function → dp + n < recursionLimit → un + 8 * n < cLine →
    Ret (fun tl r => ∀ (h' : Heap) (tk' : Nat), Fr h₀ L h' m → News h₀ L h' (tl ++ news) → Above tl news → Q r { s with heap := h', toks := tk' }) →
    wpAny (model PySem.Challenge.rw_kl0382_01.row.toRowW.prog w) (ktrTop dp un gd cn cs L a ccd cl outer) (call f vs) Q E s
structure Sk {α : Type} (Q : α → Prop) where
  v : α
  ok : Q v → ∀ x, Q x
theorem sk_ne {α : Type} (ne : Nonempty α) (Q : α → Prop) : Nonempty (Sk Q) := by
  by_cases h : ∀ x, Q x
  · exact ⟨⟨Classical.choice ne, fun _ => h⟩⟩
  · have := Classical.not_forall.mp h
    exact ⟨⟨this.choose, fun hq => absurd hq this.choose_spec⟩⟩
@[irreducible] noncomputable def sc (_i : Nat) {α : Type} (ne : Nonempty α) (Q : α → Prop) : α := (Classical.choice (sk_ne ne Q)).v
/-- to show a word for all x it is enough to show it for one closed x -/
theorem sk1 {α : Type} {Q : α → Prop} (ne : Nonempty α) (h : Q (sc 0 ne Q)) : ∀ x, Q x := by unfold sc at h; exact (Classical.choice (sk_ne ne Q)).ok h
noncomputable def s2 {α β : Type} (n1 : Nonempty α) (n2 : Nonempty β) (Q : α → β → Prop) : α × β := sc 0 ⟨⟨Classical.choice n1, Classical.choice n2⟩⟩ fun z => Q z.1 z.2
theorem sk2 {α β : Type} {Q : α → β → Prop} (n1 : Nonempty α) (n2 : Nonempty β) (h : Q (s2 n1 n2 Q).1 (s2 n1 n2 Q).2) : ∀ x1 x2, Q x1 x2 := fun x1 x2 => sk1 (Q := fun z : α × β => Q z.1 z.2) ⟨⟨Classical.choice n1, Classical.choice n2⟩⟩ h ⟨x1, x2⟩
noncomputable def s3 {α β γ : Type} (n1 : Nonempty α) (n2 : Nonempty β) (n3 : Nonempty γ) (Q : α → β → γ → Prop) : α × β × γ := sc 0 ⟨⟨Classical.choice n1, Classical.choice n2, Classical.choice n3⟩⟩ fun z => Q z.1 z.2.1 z.2.2
theorem sk3 {α β γ : Type} {Q : α → β → γ → Prop} (n1 : Nonempty α) (n2 : Nonempty β) (n3 : Nonempty γ) (h : Q (s3 n1 n2 n3 Q).1 (s3 n1 n2 n3 Q).2.1 (s3 n1 n2 n3 Q).2.2) : ∀ x1 x2 x3, Q x1 x2 x3 := fun x1 x2 x3 => sk1 (Q := fun z : α × β × γ => Q z.1 z.2.1 z.2.2) ⟨⟨Classical.choice n1, Classical.choice n2, Classical.choice n3⟩⟩ h ⟨x1, x2, x3⟩
noncomputable def s4 {α β γ δ : Type} (n1 : Nonempty α) (n2 : Nonempty β) (n3 : Nonempty γ) (n4 : Nonempty δ) (Q : α → β → γ → δ → Prop) : α × β × γ × δ := sc 0 ⟨⟨Classical.choice n1, Classical.choice n2, Classical.choice n3, Classical.choice n4⟩⟩ fun z => Q z.1 z.2.1 z.2.2.1 z.2.2.2
theorem sk4 {α β γ δ : Type} {Q : α → β → γ → δ → Prop} (n1 : Nonempty α) (n2 : Nonempty β) (n3 : Nonempty γ) (n4 : Nonempty δ) (h : Q (s4 n1 n2 n3 n4 Q).1 (s4 n1 n2 n3 n4 Q).2.1 (s4 n1 n2 n3 n4 Q).2.2.1 (s4 n1 n2 n3 n4 Q).2.2.2) : ∀ x1 x2 x3 x4, Q x1 x2 x3 x4 := fun x1 x2 x3 x4 => sk1 (Q := fun z : α × β × γ × δ => Q z.1 z.2.1 z.2.2.1 z.2.2.2) ⟨⟨Classical.choice n1, Classical.choice n2, Classical.choice n3, Classical.choice n4⟩⟩ h ⟨x1, x2, x3, x4⟩
noncomputable def s5 {α β γ δ ε : Type} (n1 : Nonempty α) (n2 : Nonempty β) (n3 : Nonempty γ) (n4 : Nonempty δ) (n5 : Nonempty ε) (Q : α → β → γ → δ → ε → Prop) : α × β × γ × δ × ε := sc 0 ⟨⟨Classical.choice n1, Classical.choice n2, Classical.choice n3, Classical.choice n4, Classical.choice n5⟩⟩ fun z => Q z.1 z.2.1 z.2.2.1 z.2.2.2.1 z.2.2.2.2
theorem sk5 {α β γ δ ε : Type} {Q : α → β → γ → δ → ε → Prop} (n1 : Nonempty α) (n2 : Nonempty β) (n3 : Nonempty γ) (n4 : Nonempty δ) (n5 : Nonempty ε) (h : Q (s5 n1 n2 n3 n4 n5 Q).1 (s5 n1 n2 n3 n4 n5 Q).2.1 (s5 n1 n2 n3 n4 n5 Q).2.2.1 (s5 n1 n2 n3 n4 n5 Q).2.2.2.1 (s5 n1 n2 n3 n4 n5 Q).2.2.2.2) : ∀ x1 x2 x3 x4 x5, Q x1 x2 x3 x4 x5 := fun x1 x2 x3 x4 x5 => sk1 (Q := fun z : α × β × γ × δ × ε => Q z.1 z.2.1 z.2.2.1 z.2.2.2.1 z.2.2.2.2) ⟨⟨Classical.choice n1, Classical.choice n2, Classical.choice n3, Classical.choice n4, Classical.choice n5⟩⟩ h ⟨x1, x2, x3, x4, x5⟩
noncomputable def s6 {α β γ δ ε ζ : Type} (n1 : Nonempty α) (n2 : Nonempty β) (n3 : Nonempty γ) (n4 : Nonempty δ) (n5 : Nonempty ε) (n6 : Nonempty ζ) (Q : α → β → γ → δ → ε → ζ → Prop) : α × β × γ × δ × ε × ζ := sc 0 ⟨⟨Classical.choice n1, Classical.choice n2, Classical.choice n3, Classical.choice n4, Classical.choice n5, Classical.choice n6⟩⟩ fun z => Q z.1 z.2.1 z.2.2.1 z.2.2.2.1 z.2.2.2.2.1 z.2.2.2.2.2
theorem sk6 {α β γ δ ε ζ : Type} {Q : α → β → γ → δ → ε → ζ → Prop} (n1 : Nonempty α) (n2 : Nonempty β) (n3 : Nonempty γ) (n4 : Nonempty δ) (n5 : Nonempty ε) (n6 : Nonempty ζ) (h : Q (s6 n1 n2 n3 n4 n5 n6 Q).1 (s6 n1 n2 n3 n4 n5 n6 Q).2.1 (s6 n1 n2 n3 n4 n5 n6 Q).2.2.1 (s6 n1 n2 n3 n4 n5 n6 Q).2.2.2.1 (s6 n1 n2 n3 n4 n5 n6 Q).2.2.2.2.1 (s6 n1 n2 n3 n4 n5 n6 Q).2.2.2.2.2) : ∀ x1 x2 x3 x4 x5 x6, Q x1 x2 x3 x4 x5 x6 := fun x1 x2 x3 x4 x5 x6 => sk1 (Q := fun z : α × β × γ × δ × ε × ζ => Q z.1 z.2.1 z.2.2.1 z.2.2.2.1 z.2.2.2.2.1 z.2.2.2.2.2) ⟨⟨Classical.choice n1, Classical.choice n2, Classical.choice n3, Classical.choice n4, Classical.choice n5, Classical.choice n6⟩⟩ h ⟨x1, x2, x3, x4, x5, x6⟩
noncomputable def s7 {α β γ δ ε ζ η : Type} (n1 : Nonempty α) (n2 : Nonempty β) (n3 : Nonempty γ) (n4 : Nonempty δ) (n5 : Nonempty ε) (n6 : Nonempty ζ) (n7 : Nonempty η) (Q : α → β → γ → δ → ε → ζ → η → Prop) : α × β × γ × δ × ε × ζ × η := sc 0 ⟨⟨Classical.choice n1, Classical.choice n2, Classical.choice n3, Classical.choice n4, Classical.choice n5, Classical.choice n6, Classical.choice n7⟩⟩ fun z => Q z.1 z.2.1 z.2.2.1 z.2.2.2.1 z.2.2.2.2.1 z.2.2.2.2.2.1 z.2.2.2.2.2.2
theorem sk7 {α β γ δ ε ζ η : Type} {Q : α → β → γ → δ → ε → ζ → η → Prop} (n1 : Nonempty α) (n2 : Nonempty β) (n3 : Nonempty γ) (n4 : Nonempty δ) (n5 : Nonempty ε) (n6 : Nonempty ζ) (n7 : Nonempty η) (h : Q (s7 n1 n2 n3 n4 n5 n6 n7 Q).1 (s7 n1 n2 n3 n4 n5 n6 n7 Q).2.1 (s7 n1 n2 n3 n4 n5 n6 n7 Q).2.2.1 (s7 n1 n2 n3 n4 n5 n6 n7 Q).2.2.2.1 (s7 n1 n2 n3 n4 n5 n6 n7 Q).2.2.2.2.1 (s7 n1 n2 n3 n4 n5 n6 n7 Q).2.2.2.2.2.1 (s7 n1 n2 n3 n4 n5 n6 n7 Q).2.2.2.2.2.2) : ∀ x1 x2 x3 x4 x5 x6 x7, Q x1 x2 x3 x4 x5 x6 x7 := fun x1 x2 x3 x4 x5 x6 x7 => sk1 (Q := fun z : α × β × γ × δ × ε × ζ × η => Q z.1 z.2.1 z.2.2.1 z.2.2.2.1 z.2.2.2.2.1 z.2.2.2.2.2.1 z.2.2.2.2.2.2) ⟨⟨Classical.choice n1, Classical.choice n2, Classical.choice n3, Classical.choice n4, Classical.choice n5, Classical.choice n6, Classical.choice n7⟩⟩ h ⟨x1, x2, x3, x4, x5, x6, x7⟩
noncomputable def s8 {α β γ δ ε ζ η θ : Type} (n1 : Nonempty α) (n2 : Nonempty β) (n3 : Nonempty γ) (n4 : Nonempty δ) (n5 : Nonempty ε) (n6 : Nonempty ζ) (n7 : Nonempty η) (n8 : Nonempty θ) (Q : α → β → γ → δ → ε → ζ → η → θ → Prop) : α × β × γ × δ × ε × ζ × η × θ := sc 0 ⟨⟨Classical.choice n1, Classical.choice n2, Classical.choice n3, Classical.choice n4, Classical.choice n5, Classical.choice n6, Classical.choice n7, Classical.choice n8⟩⟩ fun z => Q z.1 z.2.1 z.2.2.1 z.2.2.2.1 z.2.2.2.2.1 z.2.2.2.2.2.1 z.2.2.2.2.2.2.1 z.2.2.2.2.2.2.2
theorem sk8 {α β γ δ ε ζ η θ : Type} {Q : α → β → γ → δ → ε → ζ → η → θ → Prop} (n1 : Nonempty α) (n2 : Nonempty β) (n3 : Nonempty γ) (n4 : Nonempty δ) (n5 : Nonempty ε) (n6 : Nonempty ζ) (n7 : Nonempty η) (n8 : Nonempty θ) (h : Q (s8 n1 n2 n3 n4 n5 n6 n7 n8 Q).1 (s8 n1 n2 n3 n4 n5 n6 n7 n8 Q).2.1 (s8 n1 n2 n3 n4 n5 n6 n7 n8 Q).2.2.1 (s8 n1 n2 n3 n4 n5 n6 n7 n8 Q).2.2.2.1 (s8 n1 n2 n3 n4 n5 n6 n7 n8 Q).2.2.2.2.1 (s8 n1 n2 n3 n4 n5 n6 n7 n8 Q).2.2.2.2.2.1 (s8 n1 n2 n3 n4 n5 n6 n7 n8 Q).2.2.2.2.2.2.1 (s8 n1 n2 n3 n4 n5 n6 n7 n8 Q).2.2.2.2.2.2.2) : ∀ x1 x2 x3 x4 x5 x6 x7 x8, Q x1 x2 x3 x4 x5 x6 x7 x8 := fun x1 x2 x3 x4 x5 x6 x7 x8 => sk1 (Q := fun z : α × β × γ × δ × ε × ζ × η × θ => Q z.1 z.2.1 z.2.2.1 z.2.2.2.1 z.2.2.2.2.1 z.2.2.2.2.2.1 z.2.2.2.2.2.2.1 z.2.2.2.2.2.2.2) ⟨⟨Classical.choice n1, Classical.choice n2, Classical.choice n3, Classical.choice n4, Classical.choice n5, Classical.choice n6, Classical.choice n7, Classical.choice n8⟩⟩ h ⟨x1, x2, x3, x4, x5, x6, x7, x8⟩
structure HD (P : Prop) : Prop where
  out : P
structure KK (_i : Nat) {α : Type} (_n : Nonempty α) (P Q : α → Prop) : Prop where
  e : P = Q
@[irreducible] noncomputable def pz (i : Nat) {α : Type} {n : Nonempty α} {Q : α → Prop} : α := sc i n Q
theorem us0 {i : Nat} {α : Type} {n : Nonempty α} {Qc Q : α → Prop} (e : KK i n Qc Q) (h : Q (@pz i _ n Qc)) : ∀ x, Q x := by
  obtain ⟨e⟩ := e
  subst e
  unfold pz sc at h
  exact fun x => (Classical.choice (sk_ne n Qc)).ok h x
theorem kv {i : Nat} {α : Type} {n : Nonempty α} {Q : α → Prop} {G : Prop} (_e : KK i n Q Q) (g : G) : G := g
theorem npr {α β : Type} (n : Nonempty α) (m : Nonempty β) : Nonempty (α × β) := ⟨⟨Classical.choice n, Classical.choice m⟩⟩
noncomputable def L1 {α : Type} (Q : α → Prop) (a1 : α) : Prop := Unit → let x1 := a1; Unit → Q x1
theorem us1 {i : Nat} {α : Type} (n1 : Nonempty α) {Qc : α → Prop} {Q : α → Prop} (e : KK i n1 Qc fun z => Q z) (h : Q (@pz i _ n1 Qc)) : ∀ x1, Q x1 := fun x1 => us0 e h x1
noncomputable def L2 {α β : Type} (Q : α → β → Prop) (a1 : α) (a2 : β) : Prop := Unit → let x1 := a1; let x2 := a2; Unit → Q x1 x2
theorem us2 {i : Nat} {α β : Type} (n1 : Nonempty α) (n2 : Nonempty β) {Qc : α × β → Prop} {Q : α → β → Prop} (e : KK i (npr n1 n2) Qc fun z => Q z.1 z.2) (h : Q (@pz i _ (npr n1 n2) Qc).1 (@pz i _ (npr n1 n2) Qc).2) : ∀ x1 x2, Q x1 x2 := fun x1 x2 => us0 e h ⟨x1, x2⟩
noncomputable def L3 {α β γ : Type} (Q : α → β → γ → Prop) (a1 : α) (a2 : β) (a3 : γ) : Prop := Unit → let x1 := a1; let x2 := a2; let x3 := a3; Unit → Q x1 x2 x3
theorem us3 {i : Nat} {α β γ : Type} (n1 : Nonempty α) (n2 : Nonempty β) (n3 : Nonempty γ) {Qc : α × β × γ → Prop} {Q : α → β → γ → Prop} (e : KK i (npr n1 (npr n2 n3)) Qc fun z => Q z.1 z.2.1 z.2.2) (h : Q (@pz i _ (npr n1 (npr n2 n3)) Qc).1 (@pz i _ (npr n1 (npr n2 n3)) Qc).2.1 (@pz i _ (npr n1 (npr n2 n3)) Qc).2.2) : ∀ x1 x2 x3, Q x1 x2 x3 := fun x1 x2 x3 => us0 e h ⟨x1, x2, x3⟩
noncomputable def L4 {α β γ δ : Type} (Q : α → β → γ → δ → Prop) (a1 : α) (a2 : β) (a3 : γ) (a4 : δ) : Prop := Unit → let x1 := a1; let x2 := a2; let x3 := a3; let x4 := a4; Unit → Q x1 x2 x3 x4
theorem us4 {i : Nat} {α β γ δ : Type} (n1 : Nonempty α) (n2 : Nonempty β) (n3 : Nonempty γ) (n4 : Nonempty δ) {Qc : α × β × γ × δ → Prop} {Q : α → β → γ → δ → Prop} (e : KK i (npr n1 (npr n2 (npr n3 n4))) Qc fun z => Q z.1 z.2.1 z.2.2.1 z.2.2.2) (h : Q (@pz i _ (npr n1 (npr n2 (npr n3 n4))) Qc).1 (@pz i _ (npr n1 (npr n2 (npr n3 n4))) Qc).2.1 (@pz i _ (npr n1 (npr n2 (npr n3 n4))) Qc).2.2.1 (@pz i _ (npr n1 (npr n2 (npr n3 n4))) Qc).2.2.2) : ∀ x1 x2 x3 x4, Q x1 x2 x3 x4 := fun x1 x2 x3 x4 => us0 e h ⟨x1, x2, x3, x4⟩
noncomputable def L5 {α β γ δ ε : Type} (Q : α → β → γ → δ → ε → Prop) (a1 : α) (a2 : β) (a3 : γ) (a4 : δ) (a5 : ε) : Prop := Unit → let x1 := a1; let x2 := a2; let x3 := a3; let x4 := a4; let x5 := a5; Unit → Q x1 x2 x3 x4 x5
theorem us5 {i : Nat} {α β γ δ ε : Type} (n1 : Nonempty α) (n2 : Nonempty β) (n3 : Nonempty γ) (n4 : Nonempty δ) (n5 : Nonempty ε) {Qc : α × β × γ × δ × ε → Prop} {Q : α → β → γ → δ → ε → Prop} (e : KK i (npr n1 (npr n2 (npr n3 (npr n4 n5)))) Qc fun z => Q z.1 z.2.1 z.2.2.1 z.2.2.2.1 z.2.2.2.2) (h : Q (@pz i _ (npr n1 (npr n2 (npr n3 (npr n4 n5)))) Qc).1 (@pz i _ (npr n1 (npr n2 (npr n3 (npr n4 n5)))) Qc).2.1 (@pz i _ (npr n1 (npr n2 (npr n3 (npr n4 n5)))) Qc).2.2.1 (@pz i _ (npr n1 (npr n2 (npr n3 (npr n4 n5)))) Qc).2.2.2.1 (@pz i _ (npr n1 (npr n2 (npr n3 (npr n4 n5)))) Qc).2.2.2.2) : ∀ x1 x2 x3 x4 x5, Q x1 x2 x3 x4 x5 := fun x1 x2 x3 x4 x5 => us0 e h ⟨x1, x2, x3, x4, x5⟩
noncomputable def L6 {α β γ δ ε ζ : Type} (Q : α → β → γ → δ → ε → ζ → Prop) (a1 : α) (a2 : β) (a3 : γ) (a4 : δ) (a5 : ε) (a6 : ζ) : Prop := Unit → let x1 := a1; let x2 := a2; let x3 := a3; let x4 := a4; let x5 := a5; let x6 := a6; Unit → Q x1 x2 x3 x4 x5 x6
theorem us6 {i : Nat} {α β γ δ ε ζ : Type} (n1 : Nonempty α) (n2 : Nonempty β) (n3 : Nonempty γ) (n4 : Nonempty δ) (n5 : Nonempty ε) (n6 : Nonempty ζ) {Qc : α × β × γ × δ × ε × ζ → Prop} {Q : α → β → γ → δ → ε → ζ → Prop} (e : KK i (npr n1 (npr n2 (npr n3 (npr n4 (npr n5 n6))))) Qc fun z => Q z.1 z.2.1 z.2.2.1 z.2.2.2.1 z.2.2.2.2.1 z.2.2.2.2.2) (h : Q (@pz i _ (npr n1 (npr n2 (npr n3 (npr n4 (npr n5 n6))))) Qc).1 (@pz i _ (npr n1 (npr n2 (npr n3 (npr n4 (npr n5 n6))))) Qc).2.1 (@pz i _ (npr n1 (npr n2 (npr n3 (npr n4 (npr n5 n6))))) Qc).2.2.1 (@pz i _ (npr n1 (npr n2 (npr n3 (npr n4 (npr n5 n6))))) Qc).2.2.2.1 (@pz i _ (npr n1 (npr n2 (npr n3 (npr n4 (npr n5 n6))))) Qc).2.2.2.2.1 (@pz i _ (npr n1 (npr n2 (npr n3 (npr n4 (npr n5 n6))))) Qc).2.2.2.2.2) : ∀ x1 x2 x3 x4 x5 x6, Q x1 x2 x3 x4 x5 x6 := fun x1 x2 x3 x4 x5 x6 => us0 e h ⟨x1, x2, x3, x4, x5, x6⟩
noncomputable def L7 {α β γ δ ε ζ η : Type} (Q : α → β → γ → δ → ε → ζ → η → Prop) (a1 : α) (a2 : β) (a3 : γ) (a4 : δ) (a5 : ε) (a6 : ζ) (a7 : η) : Prop := Unit → let x1 := a1; let x2 := a2; let x3 := a3; let x4 := a4; let x5 := a5; let x6 := a6; let x7 := a7; Unit → Q x1 x2 x3 x4 x5 x6 x7
theorem us7 {i : Nat} {α β γ δ ε ζ η : Type} (n1 : Nonempty α) (n2 : Nonempty β) (n3 : Nonempty γ) (n4 : Nonempty δ) (n5 : Nonempty ε) (n6 : Nonempty ζ) (n7 : Nonempty η) {Qc : α × β × γ × δ × ε × ζ × η → Prop} {Q : α → β → γ → δ → ε → ζ → η → Prop} (e : KK i (npr n1 (npr n2 (npr n3 (npr n4 (npr n5 (npr n6 n7)))))) Qc fun z => Q z.1 z.2.1 z.2.2.1 z.2.2.2.1 z.2.2.2.2.1 z.2.2.2.2.2.1 z.2.2.2.2.2.2) (h : Q (@pz i _ (npr n1 (npr n2 (npr n3 (npr n4 (npr n5 (npr n6 n7)))))) Qc).1 (@pz i _ (npr n1 (npr n2 (npr n3 (npr n4 (npr n5 (npr n6 n7)))))) Qc).2.1 (@pz i _ (npr n1 (npr n2 (npr n3 (npr n4 (npr n5 (npr n6 n7)))))) Qc).2.2.1 (@pz i _ (npr n1 (npr n2 (npr n3 (npr n4 (npr n5 (npr n6 n7)))))) Qc).2.2.2.1 (@pz i _ (npr n1 (npr n2 (npr n3 (npr n4 (npr n5 (npr n6 n7)))))) Qc).2.2.2.2.1 (@pz i _ (npr n1 (npr n2 (npr n3 (npr n4 (npr n5 (npr n6 n7)))))) Qc).2.2.2.2.2.1 (@pz i _ (npr n1 (npr n2 (npr n3 (npr n4 (npr n5 (npr n6 n7)))))) Qc).2.2.2.2.2.2) : ∀ x1 x2 x3 x4 x5 x6 x7, Q x1 x2 x3 x4 x5 x6 x7 := fun x1 x2 x3 x4 x5 x6 x7 => us0 e h ⟨x1, x2, x3, x4, x5, x6, x7⟩
noncomputable def L8 {α β γ δ ε ζ η θ : Type} (Q : α → β → γ → δ → ε → ζ → η → θ → Prop) (a1 : α) (a2 : β) (a3 : γ) (a4 : δ) (a5 : ε) (a6 : ζ) (a7 : η) (a8 : θ) : Prop := Unit → let x1 := a1; let x2 := a2; let x3 := a3; let x4 := a4; let x5 := a5; let x6 := a6; let x7 := a7; let x8 := a8; Unit → Q x1 x2 x3 x4 x5 x6 x7 x8
theorem us8 {i : Nat} {α β γ δ ε ζ η θ : Type} (n1 : Nonempty α) (n2 : Nonempty β) (n3 : Nonempty γ) (n4 : Nonempty δ) (n5 : Nonempty ε) (n6 : Nonempty ζ) (n7 : Nonempty η) (n8 : Nonempty θ) {Qc : α × β × γ × δ × ε × ζ × η × θ → Prop} {Q : α → β → γ → δ → ε → ζ → η → θ → Prop} (e : KK i (npr n1 (npr n2 (npr n3 (npr n4 (npr n5 (npr n6 (npr n7 n8))))))) Qc fun z => Q z.1 z.2.1 z.2.2.1 z.2.2.2.1 z.2.2.2.2.1 z.2.2.2.2.2.1 z.2.2.2.2.2.2.1 z.2.2.2.2.2.2.2) (h : Q (@pz i _ (npr n1 (npr n2 (npr n3 (npr n4 (npr n5 (npr n6 (npr n7 n8))))))) Qc).1 (@pz i _ (npr n1 (npr n2 (npr n3 (npr n4 (npr n5 (npr n6 (npr n7 n8))))))) Qc).2.1 (@pz i _ (npr n1 (npr n2 (npr n3 (npr n4 (npr n5 (npr n6 (npr n7 n8))))))) Qc).2.2.1 (@pz i _ (npr n1 (npr n2 (npr n3 (npr n4 (npr n5 (npr n6 (npr n7 n8))))))) Qc).2.2.2.1 (@pz i _ (npr n1 (npr n2 (npr n3 (npr n4 (npr n5 (npr n6 (npr n7 n8))))))) Qc).2.2.2.2.1 (@pz i _ (npr n1 (npr n2 (npr n3 (npr n4 (npr n5 (npr n6 (npr n7 n8))))))) Qc).2.2.2.2.2.1 (@pz i _ (npr n1 (npr n2 (npr n3 (npr n4 (npr n5 (npr n6 (npr n7 n8))))))) Qc).2.2.2.2.2.2.1 (@pz i _ (npr n1 (npr n2 (npr n3 (npr n4 (npr n5 (npr n6 (npr n7 n8))))))) Qc).2.2.2.2.2.2.2) : ∀ x1 x2 x3 x4 x5 x6 x7 x8, Q x1 x2 x3 x4 x5 x6 x7 x8 := fun x1 x2 x3 x4 x5 x6 x7 x8 => us0 e h ⟨x1, x2, x3, x4, x5, x6, x7, x8⟩
theorem ex1 {α : Type} {P : α → Prop} {G : Prop} (h : ∃ x1, P x1) (k : ∀ x1, P x1 → G) : G := let ⟨x1, e⟩ := h; k x1 e
theorem ex2 {α β : Type} {P : α → β → Prop} {G : Prop} (h : ∃ x1 x2, P x1 x2) (k : ∀ x1 x2, P x1 x2 → G) : G := let ⟨x1, x2, e⟩ := h; k x1 x2 e
theorem ex3 {α β γ : Type} {P : α → β → γ → Prop} {G : Prop} (h : ∃ x1 x2 x3, P x1 x2 x3) (k : ∀ x1 x2 x3, P x1 x2 x3 → G) : G := let ⟨x1, x2, x3, e⟩ := h; k x1 x2 x3 e
theorem ex4 {α β γ δ : Type} {P : α → β → γ → δ → Prop} {G : Prop} (h : ∃ x1 x2 x3 x4, P x1 x2 x3 x4) (k : ∀ x1 x2 x3 x4, P x1 x2 x3 x4 → G) : G := let ⟨x1, x2, x3, x4, e⟩ := h; k x1 x2 x3 x4 e
theorem ex5 {α β γ δ ε : Type} {P : α → β → γ → δ → ε → Prop} {G : Prop} (h : ∃ x1 x2 x3 x4 x5, P x1 x2 x3 x4 x5) (k : ∀ x1 x2 x3 x4 x5, P x1 x2 x3 x4 x5 → G) : G := let ⟨x1, x2, x3, x4, x5, e⟩ := h; k x1 x2 x3 x4 x5 e
theorem ex6 {α β γ δ ε ζ : Type} {P : α → β → γ → δ → ε → ζ → Prop} {G : Prop} (h : ∃ x1 x2 x3 x4 x5 x6, P x1 x2 x3 x4 x5 x6) (k : ∀ x1 x2 x3 x4 x5 x6, P x1 x2 x3 x4 x5 x6 → G) : G := let ⟨x1, x2, x3, x4, x5, x6, e⟩ := h; k x1 x2 x3 x4 x5 x6 e
theorem ex7 {α β γ δ ε ζ η : Type} {P : α → β → γ → δ → ε → ζ → η → Prop} {G : Prop} (h : ∃ x1 x2 x3 x4 x5 x6 x7, P x1 x2 x3 x4 x5 x6 x7) (k : ∀ x1 x2 x3 x4 x5 x6 x7, P x1 x2 x3 x4 x5 x6 x7 → G) : G := let ⟨x1, x2, x3, x4, x5, x6, x7, e⟩ := h; k x1 x2 x3 x4 x5 x6 x7 e
theorem neNat : Nonempty Nat := ⟨0⟩
theorem neInt : Nonempty Int := ⟨0⟩
theorem neU : Nonempty UInt64 := ⟨0⟩
theorem neTok : Nonempty Tok := inferInstance
theorem neHeap : Nonempty Heap := ⟨{}⟩
theorem neVal : Nonempty Value := ⟨.none⟩
theorem neStr : Nonempty Str := inferInstance
theorem neObj : Nonempty Obj := inferInstance
theorem neLed : Nonempty Led := ⟨[]⟩
theorem neProg : Nonempty Program := inferInstance
theorem neFr : Nonempty (Str → Option Value) := ⟨fun _ => none⟩
theorem neMean : Nonempty (ExcName → Option Value) := ⟨fun _ => none⟩
theorem neLs : Nonempty (List Str) := ⟨[]⟩
theorem neLv : Nonempty (List Value) := ⟨[]⟩
theorem neQE : Nonempty (Value → Shared → Prop) := ⟨fun _ _ => True⟩
theorem neFl : Nonempty (Flow → Shared → Prop) := ⟨fun _ _ => True⟩
theorem neList {α : Type} : Nonempty (List α) := ⟨[]⟩
theorem neArr {α : Type} : Nonempty (Array α) := ⟨#[]⟩
theorem neArd : Nonempty Around := ⟨{}⟩
theorem neSh : Nonempty Shared := ⟨{}⟩
theorem neW : Nonempty World := ⟨⟨fun _ _ => 0, { strHash := fun _ => 0, shareClass := fun _ => 0, mergeTok := id, idOf := fun _ => 0, idOfShared := fun _ _ => 0, followText := fun _ => false, idOfImm := fun _ => 0 }⟩⟩
theorem ln_1 : True := by
  (k_with "m:ne0" => first | exact neHeap | exact neTok | exact neNat | exact neInt | exact neU | exact neVal | exact neStr | exact neObj | exact neLed | exact neFr | exact neLv | exact neW | exact neProg | exact neLs | exact neMean | exact neQE | exact neList | exact neArr | exact inferInstance)
  trivial
set_option genInjectivity false in
set_option genSizeOf false in
structure CV where
  dp : Nat
  un : Nat
  gd : Option (List Code)
  cn : Str
  cs : Scope
  a : Addr
  ccd : Value
  cl : List (Str × Addr)
  outer : List Env
  A₀ : Around
  base : Heap
  h₀ : Heap
  L : Addr
  m : Str → Option Value
  s : Shared
  Q : Value → Shared → Prop
  E : Value → Shared → Prop
theorem neCV : Nonempty CV := ⟨⟨0, 0, none, .mk #[], default, 0, .none, [], [], {}, {}, {}, 0, fun _ => none, {}, fun _ _ => True, fun _ _ => True⟩⟩
noncomputable abbrev CVP := Nat → Nat → Option (List Code) → Str → Scope → Addr → Value → List (Str × Addr) → List Env → Around → Heap → Heap → Addr → (Str → Option Value) → Shared → (Value → Shared → Prop) → (Value → Shared → Prop) → Prop
noncomputable def cv (P : CVP) : CV := sc 0 neCV fun z => P z.dp z.un z.gd z.cn z.cs z.a z.ccd z.cl z.outer z.A₀ z.base z.h₀ z.L z.m z.s z.Q z.E
theorem skC {P : CVP} (h : P (cv P).dp (cv P).un (cv P).gd (cv P).cn (cv P).cs (cv P).a (cv P).ccd (cv P).cl (cv P).outer (cv P).A₀ (cv P).base (cv P).h₀ (cv P).L (cv P).m (cv P).s (cv P).Q (cv P).E) :
    ∀ (dp un : Nat) (gd : Option (List Code)) (cn : Str) (cs : Scope) (a : Addr) (ccd : Value) (cl : List (Str × Addr)) (outer : List Env) (A₀ : Around) (base h₀ : Heap) (L : Addr) (m : Str → Option Value) (s : Shared) (Q E : Value → Shared → Prop), P dp un gd cn cs a ccd cl outer A₀ base h₀ L m s Q E :=
  fun dp un gd cn cs a ccd cl outer A₀ base h₀ L m s Q E => sk1 (Q := fun z : CV => P z.dp z.un z.gd z.cn z.cs z.a z.ccd z.cl z.outer z.A₀ z.base z.h₀ z.L z.m z.s z.Q z.E) neCV h ⟨dp, un, gd, cn, cs, a, ccd, cl, outer, A₀, base, h₀, L, m, s, Q, E⟩
noncomputable def LC (P : CVP) (z : CV) : Prop := Unit → let dp := z.dp; let un := z.un; let gd := z.gd; let cn := z.cn; let cs := z.cs; let a := z.a; let ccd := z.ccd; let cl := z.cl; let outer := z.outer; let A₀ := z.A₀; let base := z.base; let h₀ := z.h₀; let L := z.L; let m := z.m; let s := z.s; let Q := z.Q; let E := z.E; Unit → P dp un gd cn cs a ccd cl outer A₀ base h₀ L m s Q E
theorem usC {i : Nat} {Pc : CV → Prop} {P : CVP} (e : KK i neCV Pc fun z => P z.dp z.un z.gd z.cn z.cs z.a z.ccd z.cl z.outer z.A₀ z.base z.h₀ z.L z.m z.s z.Q z.E) (h : P (@pz i _ neCV Pc).dp (@pz i _ neCV Pc).un (@pz i _ neCV Pc).gd (@pz i _ neCV Pc).cn (@pz i _ neCV Pc).cs (@pz i _ neCV Pc).a (@pz i _ neCV Pc).ccd (@pz i _ neCV Pc).cl (@pz i _ neCV Pc).outer (@pz i _ neCV Pc).A₀ (@pz i _ neCV Pc).base (@pz i _ neCV Pc).h₀ (@pz i _ neCV Pc).L (@pz i _ neCV Pc).m (@pz i _ neCV Pc).s (@pz i _ neCV Pc).Q (@pz i _ neCV Pc).E) :
    ∀ (dp un : Nat) (gd : Option (List Code)) (cn : Str) (cs : Scope) (a : Addr) (ccd : Value) (cl : List (Str × Addr)) (outer : List Env) (A₀ : Around) (base h₀ : Heap) (L : Addr) (m : Str → Option Value) (s : Shared) (Q E : Value → Shared → Prop), P dp un gd cn cs a ccd cl outer A₀ base h₀ L m s Q E :=
  fun dp un gd cn cs a ccd cl outer A₀ base h₀ L m s Q E => us0 e h ⟨dp, un, gd, cn, cs, a, ccd, cl, outer, A₀, base, h₀, L, m, s, Q, E⟩
theorem ln_2 : True := by
  (k_with "m:skC" => ((refine (skC ((?_ : ∀ (dp un : Nat) (gd : Option (List Code)) (cn : Str) (cs : Scope) (a : Addr) (ccd : Value) (cl : List (Str × Addr)) (outer : List Env) (A₀ : Around) (base h₀ : Heap) (L : Addr) (m : Str → Option Value) (s : Shared) (Q E : Value → Shared → Prop), _) _ _ _ _ _ _ _ _ _ _ _ _ _ _ _ _ _) :)); intros dp un gd cn cs a ccd cl outer A₀ base h₀ L m s Q E))
  (k_with "m:skC" => ((refine' (usC ?z9sl ((?_ : LC _ _) () ()) :); (case z9sl => k_extra "m:slot"); intros u8 dp un gd cn cs a ccd cl outer A₀ base h₀ L m s Q E u9; clear u8 u9; k_extra "m:cl")))
  (k_with "m:pour" => first | ((with_reducible show KK _ neNat (fun _ => True) (fun _ => True)); exact ⟨rfl⟩) | exact ⟨rfl⟩)
  trivial
theorem rm0 {d a n R : Nat} (h : d + n < R) (e : Nat.ble a n = true) : d + a < R := Nat.lt_of_le_of_lt (Nat.add_le_add_left (Nat.le_of_ble_eq_true e) d) h
theorem rm1 {d a b n R : Nat} (h : d + n < R) (e : Nat.ble (a + b) n = true) : d + a + b < R := Nat.add_assoc d a b ▸ rm0 h e
theorem rm2 {d a b c n R : Nat} (h : d + n < R) (e : Nat.ble (a + (b + c)) n = true) : d + a + b + c < R := Nat.add_assoc (d + a) b c ▸ rm1 h e
theorem rm3 {d a b c f n R : Nat} (h : d + n < R) (e : Nat.ble (a + (b + (c + f))) n = true) : d + a + b + c + f < R := Nat.add_assoc (d + a + b) c f ▸ rm2 h e
theorem m_ne_of {d : Addr} {news : Led} (h : AllLt d news) : ∀ p ∈ news, p.1 ≠ d := fun p hp => Nat.ne_of_lt (ktn_ltOf h p hp)
theorem m_ne_of' {d : Addr} {news : Led} (h : ∀ p ∈ news, p.1 < d) : ∀ p ∈ news, p.1 ≠ d := fun p hp => Nat.ne_of_lt (h p hp)
theorem m_ne_off1 {d : Addr} {news : Led} (h : LCg.Off1 d news) : ∀ p ∈ news, p.1 ≠ d := by
  induction news with
  | nil => intro p hp; cases hp
  | cons q r ih =>
    intro p hp
    rcases List.mem_cons.mp hp with rfl | hp
    · exact h.1
    · exact ih h.2 p hp
theorem m_ne_le {L d : Addr} {news : Led} (h : ∀ p ∈ news, p.1 < L) (hl : @LE.le Nat _ L d) : ∀ p ∈ news, p.1 ≠ d := fun p hp => Nat.ne_of_lt (Nat.lt_of_lt_of_le (h p hp) hl)
theorem m_mem_of {a : Addr × Obj} {l : Led} (h : a ∈ l) : List.Mem a l := h
theorem pk_t {x R T : Prop} (k : R → T) (h : x ∧ R) : T := k h.2
theorem pk_h {x R T : Prop} (k : x → T) (h : x ∧ R) : T := k h.1
theorem pk_l {a d x : Nat} {R : Prop} (h : x < d ∧ R) (p : x < d ∧ R → a < d) : a ≠ d := Nat.ne_of_lt (p h)
theorem pk_r {a d x : Nat} {R : Prop} (h : x < d ∧ R) (p : x < d ∧ R → a < d) : d ≠ a := Nat.ne_of_gt (p h)
theorem pk_n {a d x : Nat} {R : Prop} (h : x ≠ d ∧ R) (p : x ≠ d ∧ R → a ≠ d) : a ≠ d := p h
theorem pk_m {a d x : Nat} {R : Prop} (h : x ≠ d ∧ R) (p : x ≠ d ∧ R → a ≠ d) : d ≠ a := Ne.symm (p h)
theorem pk_al {d x : Nat} {R : Prop} {news : Led} (h : x < d ∧ R) (p : x < d ∧ R → AllLt d news) : AllLt d news := p h
theorem pk_o1 {d x : Nat} {R : Prop} {news : Led} (h : x ≠ d ∧ R) (p : x ≠ d ∧ R → LCg.Off1 d news) : LCg.Off1 d news := p h
theorem ne_symN {a b : Nat} (h : b ≠ a) : a ≠ b := Ne.symm h
theorem ne_succN {a b : Nat} (h : a < b) : a ≠ b + 1 := Nat.ne_of_lt (Nat.lt_succ_of_lt h)
theorem ne_succN' {a b : Nat} (h : a < b) : b + 1 ≠ a := Nat.ne_of_gt (Nat.lt_succ_of_lt h)
theorem ne_succ0 {a : Nat} : a ≠ a + 1 := Nat.ne_of_lt (Nat.lt_succ_self a)
theorem ne_succ1 {a : Nat} : a + 1 ≠ a := Nat.ne_of_gt (Nat.lt_succ_self a)
theorem nn {a b : Addr} (h : @Ne Nat a b) : a ≠ b := h
theorem nn' {a b : Addr} (h : @Ne Nat a b) : ¬ a = b := h
theorem nn2 {a b : Nat} (h : a ≠ b) : ¬ a = b := h
theorem ln_3 : True := by
  (k_with "m:pick" => first | with_reducible exact And.left | with_reducible exact id | (with_reducible refine pk_t ?_; k_extra "m:pick"))
  (k_with "m:ne1" => with_reducible first
    | assumption
    | (refine ne_symN ?_; assumption)
    | (refine Nat.ne_of_lt ?_; assumption)
    | (refine Nat.ne_of_gt ?_; assumption)
    | exact ne_succ0
    | exact ne_succ1
    | (refine ne_succN ?_; assumption)
    | (refine ne_succN' ?_; assumption)
    | (refine' pk_l ?z9a ?z9b; (case z9a => assumption); (case z9b => k_extra "m:pick"))
    | (refine' pk_r ?z9a ?z9b; (case z9a => assumption); (case z9b => k_extra "m:pick"))
    | (refine' pk_n ?z9a ?z9b; (case z9a => assumption); (case z9b => k_extra "m:pick"))
    | (refine' pk_m ?z9a ?z9b; (case z9a => assumption); (case z9b => k_extra "m:pick")))
  (k_with "m:ne" => (try dsimp only); first | (refine nn ?_; k_extra "m:ne1") | (refine nn' ?_; k_extra "m:ne1") | (refine nn2 ?_; k_extra "m:ne1") | k_extra "m:ne1")
  (k_with "m:part" => first
    | with_reducible assumption
    | (with_reducible refine' pk_al ?z9a ?z9b; (case z9a => assumption); (case z9b => k_extra "m:pick"))
    | (with_reducible refine' pk_o1 ?z9a ?z9b; (case z9a => assumption); (case z9b => k_extra "m:pick"))
    | k_extra "m:ne")
  (k_with "m:all" => (refine' m_ne_le ?z9a ?z9b; (case z9a => assumption); (case z9b => omega)))
  (k_with "m:all" => first | (refine m_ne_of' ?_; assumption) | (refine m_ne_of ?_; k_extra "m:part") | (refine m_ne_off1 ?_; k_extra "m:part"))
  (k_with "m:kin" => first | with_reducible assumption | (refine' Frag.In.keeps ?z9a ?z9b; (case z9b => (refine' Fr.keep ?z9c; (case z9c => with_reducible assumption))); (case z9a => with_reducible assumption)))
  (k_with "m:all" => with_reducible assumption)
  (k_with "m:mem" => ((with_reducible refine m_mem_of ?_); ktr_member))
  (k_with "m:in" => first | assumption | (refine List.Mem.tail _ ?_; k_extra "m:in") | (refine List.mem_append.mpr (Or.inr ?_); k_extra "m:in") | (refine List.mem_append.mpr (Or.inl ?_); k_extra "m:in"))
  (k_with "m:sub" => (intro p9 hp9; k_extra "m:in"))
  (k_with "m:off" => k_extra "m:part")
  (k_with "m:units" => (refine Nat.le_of_lt ?_; first | k_extra "m:unit" | ktr_units))
  (k_with "m:fill" => (have hx : (PySem.Challenge.rw_kl0382_01, heapK) = (PySem.Challenge.rw_kl0382_01, heapK) := (by k_fill; rfl); clear hx))
  (k_with "m:center" => (refine' code_def ?k1 ?k2 ?k3 ?k4 ?k5 ?kA ?kF ?kK ?k6 ?k7 ?k8 ?k9 ?kB ?_ ?c2 ?c3 ?c4 ?c5; (case kA => exact rfl); (case kF => exact rfl); (case kK => assumption); (case k1 => k_asm); (case k2 => k_asm); (case k3 => k_asm); (case k4 => k_asm); (case k5 => k_asm); (case k6 => k_is); (case k7 => k_is); (case k8 => first | k_extra "m:room" | ktr_room); (case k9 => exact BindsTo.of_eq rfl); (case c5 => decide); (case kB => exact locs rfl); (case c2 => exact rfl); (case c3 => exact rfl); (case c4 => exact rfl); k_whole; ((first | (k_dflt (refine' (us3 neHeap neNat neHeap ?z9sl ((?_ : L3 _ _ _ _) () ()) :); (case z9sl => k_extra "m:slot"); intros u8 g' L' h' u9; clear u8 u9; k_extra "m:cl")) | (refine (sk3 neHeap neNat neHeap ((?_ : ∀ (g' : Heap) (L' : Addr) (h' : Heap), _) _ _ _) :); intros g' L' h'))); intros FG' F' N' B' X' T'; (try dsimp only); (try k_lift B')))
  (k_with "m:enter" => (k_extra "m:fill"; unfold Claim; k_extra "m:skC"; intros B F X N T hk hd9 hu9 hret; (refine wpAny_call ?_); k_dflt (k_extra "m:center")))
  (k_with "m:std1" => (case k1 => k_asm); (case k2 => k_asm); (case k3 => k_asm); (case k4 => k_asm); (case k5 => k_asm))
  (k_with "m:room" => ((try dsimp only [depth_under_make, depth_under_kw, depth_in1, depth_deeper, depth_caller, ktrTop]); first | exact Nat.lt_of_le_of_lt (Nat.le_add_right _ _) hd9 | exact rm0 hd9 rfl | exact rm1 hd9 rfl | exact rm2 hd9 rfl | exact rm3 hd9 rfl | exact Nat.le_of_ble_eq_true rfl))
  (k_with "m:unit" => ((try dsimp only [units_in1, units_deeper, Around.mark_units, units_caller, ktrTop]); first | exact Nat.lt_of_le_of_lt (Nat.le_add_right _ _) hu9 | exact rm0 hu9 rfl | exact rm1 hu9 rfl | exact rm2 hu9 rfl | exact rm3 hu9 rfl | exact Nat.le_of_ble_eq_true rfl))
  (k_with "m:std2" => (case kK => first | exact rfl | assumption); (case kd => first | k_extra "m:room" | ktr_room); (case ku => first | k_extra "m:unit" | ktr_units))
  (k_with "m:std" => k_extra "m:std1"; k_extra "m:std2")
  (k_with "m:got0" => (dsimp only [List.nil_append]); ((first | (k_dflt (refine' (us2 neHeap neNat ?z9sl ((?_ : L2 _ _ _) () ()) :); (case z9sl => k_extra "m:slot"); intros u8 h' tk' u9; clear u8 u9; k_extra "m:cl")) | (refine (sk2 neHeap neNat ((?_ : ∀ (h' : Heap) (tk' : Nat), _) _ _) :); intros h' tk'))); intro F' N' _; (try dsimp only); (try k_sweep))
  (k_with "m:got1" => (dsimp only [List.nil_append, List.cons_append, Above]); ((first | (k_dflt (refine' (us2 neHeap neNat ?z9sl ((?_ : L2 _ _ _) () ()) :); (case z9sl => k_extra "m:slot"); intros u8 h' tk' u9; clear u8 u9; k_extra "m:cl")) | (refine (sk2 neHeap neNat ((?_ : ∀ (h' : Heap) (tk' : Nat), _) _ _) :); intros h' tk'))); intro F' N' lt; (replace lt := lt.1); (try k_lt lt); (try dsimp only); (try k_sweep))
  (k_with "m:cond" => first | assumption | (rw [Bool.not_eq_true]; assumption))
  (k_with "m:ites" => (repeat (first | ((rw [if_pos]); rotate_left; k_extra "m:cond") | ((rw [if_neg]); rotate_left; k_extra "m:cond")); try rfl))
  (k_with "m:code" => refine' code_defC ?k1 ?k2 ?k3 ?k4 ?k5 ?kA ?kF ?kK ?k6 ?k7 ?k8 ?k9 ?kB ?kD ?_ ?c2 ?c3 ?c4; (case kA => exact rfl); (case kF => exact rfl); (case kK => assumption); k_extra "m:std1"; (case k6 => k_is); (case k7 => k_is); (case k8 => first | k_extra "m:room" | ktr_room); (case k9 => exact BindsTo.of_eq rfl); (case kB => exact rfl); (case kD => decide +kernel); (case c2 => exact rfl); (case c3 => exact rfl); (case c4 => exact rfl); k_whole; ((first | (k_dflt (refine' (us5 neHeap neNat neHeap neNat neLed ?z9sl ((?_ : L5 _ _ _ _ _ _) () ()) :); (case z9sl => k_extra "m:slot"); intros u8 g' L' h' tk' cells' u9; clear u8 u9; k_extra "m:cl")) | (refine (sk5 neHeap neNat neHeap neNat neLed ((?_ : ∀ (g' : Heap) (L' : Addr) (h' : Heap) (tk' : Nat) (cells' : Led), _) _ _ _ _ _) :); intros g' L' h' tk' cells'))); intros FG' F' N' Y' B' X' T' l1; (try k_lt l1); k_extra "m:cells"; (try simp only [List.cons_append, List.nil_append] at N'); (try dsimp only); (try k_lift B'))
  (k_with "m:cells" => first
    | (refine Exists.elim (CellsAre.one Y') ?_; ((first | (k_dflt (refine' (us1 neObj ?z9sl ((?_ : L1 _ _) () ()) :); (case z9sl => k_extra "m:slot"); intros u8 o' u9; clear u8 u9; k_extra "m:cl")) | (refine (sk1 neObj ((?_ : ∀ (o' : Obj), _) _) :); intros o'))); rintro ⟨hE', d1'⟩; (rw [hE'] at N'); clear Y' hE')
    | (refine Exists.elim (CellsAre.two Y') ?_; ((first | (k_dflt (refine' (us1 neObj ?z9sl ((?_ : L1 _ _) () ()) :); (case z9sl => k_extra "m:slot"); intros u8 o' u9; clear u8 u9; k_extra "m:cl")) | (refine (sk1 neObj ((?_ : ∀ (o' : Obj), _) _) :); intros o'))); refine fun w9 => Exists.elim w9 ?_; ((first | (k_dflt (refine' (us1 neObj ?z9sl ((?_ : L1 _ _) () ()) :); (case z9sl => k_extra "m:slot"); intros u8 o2' u9; clear u8 u9; k_extra "m:cl")) | (refine (sk1 neObj ((?_ : ∀ (o2' : Obj), _) _) :); intros o2'))); rintro ⟨hE', d1', d2'⟩; (rw [hE'] at N'); clear Y' hE' w9)
    | (refine Exists.elim (CellsAre.three Y') ?_; ((first | (k_dflt (refine' (us1 neObj ?z9sl ((?_ : L1 _ _) () ()) :); (case z9sl => k_extra "m:slot"); intros u8 o' u9; clear u8 u9; k_extra "m:cl")) | (refine (sk1 neObj ((?_ : ∀ (o' : Obj), _) _) :); intros o'))); refine fun w9 => Exists.elim w9 ?_; ((first | (k_dflt (refine' (us1 neObj ?z9sl ((?_ : L1 _ _) () ()) :); (case z9sl => k_extra "m:slot"); intros u8 o2' u9; clear u8 u9; k_extra "m:cl")) | (refine (sk1 neObj ((?_ : ∀ (o2' : Obj), _) _) :); intros o2'))); refine fun w8 => Exists.elim w8 ?_; ((first | (k_dflt (refine' (us1 neObj ?z9sl ((?_ : L1 _ _) () ()) :); (case z9sl => k_extra "m:slot"); intros u8 o3' u9; clear u8 u9; k_extra "m:cl")) | (refine (sk1 neObj ((?_ : ∀ (o3' : Obj), _) _) :); intros o3'))); rintro ⟨hE', d1', d2', d3'⟩; (rw [hE'] at N'); clear Y' hE' w9 w8)
    | (refine Exists.elim (CellsAre.four Y') ?_; ((first | (k_dflt (refine' (us1 neObj ?z9sl ((?_ : L1 _ _) () ()) :); (case z9sl => k_extra "m:slot"); intros u8 o' u9; clear u8 u9; k_extra "m:cl")) | (refine (sk1 neObj ((?_ : ∀ (o' : Obj), _) _) :); intros o'))); refine fun w9 => Exists.elim w9 ?_; ((first | (k_dflt (refine' (us1 neObj ?z9sl ((?_ : L1 _ _) () ()) :); (case z9sl => k_extra "m:slot"); intros u8 o2' u9; clear u8 u9; k_extra "m:cl")) | (refine (sk1 neObj ((?_ : ∀ (o2' : Obj), _) _) :); intros o2'))); refine fun w8 => Exists.elim w8 ?_; ((first | (k_dflt (refine' (us1 neObj ?z9sl ((?_ : L1 _ _) () ()) :); (case z9sl => k_extra "m:slot"); intros u8 o3' u9; clear u8 u9; k_extra "m:cl")) | (refine (sk1 neObj ((?_ : ∀ (o3' : Obj), _) _) :); intros o3'))); refine fun w7 => Exists.elim w7 ?_; ((first | (k_dflt (refine' (us1 neObj ?z9sl ((?_ : L1 _ _) () ()) :); (case z9sl => k_extra "m:slot"); intros u8 o4' u9; clear u8 u9; k_extra "m:cl")) | (refine (sk1 neObj ((?_ : ∀ (o4' : Obj), _) _) :); intros o4'))); rintro ⟨hE', d1', d2', d3', d4'⟩; (rw [hE'] at N'); clear Y' hE' w9 w8 w7))
  (k_with "m:enterC" => (k_extra "m:fill"; unfold Claim; k_extra "m:skC"; intros B F X N T hk hd9 hu9 hret; (refine wpAny_call ?_); k_dflt (k_extra "m:code")))
  trivial
/-- an end: the value by name, then the frame and the ledger -/
theorem m_retF {h₀ h' : Heap} {L : Addr} {m : Str → Option Value} {news : Led} {s : Shared} {Q : Value → Shared → Prop} {x y : UInt64} {t : Tok} {tk' : Nat}
    (hret : ∀ t, (fun tl r => ∀ (h' : Heap) (tk' : Nat), Fr h₀ L h' m → News h₀ L h' (tl ++ news) → Above tl news → Q r { s with heap := h', toks := tk' }) ([] : Led) (Value.float x t)) (e : y = x) (F : Fr h₀ L h' m) (N : News h₀ L h' news) :
    Q (.float y t) { s with heap := h', toks := tk' } := by
  subst e
  exact hret t h' tk' F N trivial
theorem m_retI {h₀ h' : Heap} {L : Addr} {m : Str → Option Value} {news : Led} {s : Shared} {Q : Value → Shared → Prop} {x y : Int} {t : Tok} {tk' : Nat}
    (hret : ∀ t, (fun tl r => ∀ (h' : Heap) (tk' : Nat), Fr h₀ L h' m → News h₀ L h' (tl ++ news) → Above tl news → Q r { s with heap := h', toks := tk' }) ([] : Led) (Value.int x t)) (e : y = x) (F : Fr h₀ L h' m) (N : News h₀ L h' news) :
    Q (.int y t) { s with heap := h', toks := tk' } := by
  subst e
  exact hret t h' tk' F N trivial
theorem m_retS {h₀ h' : Heap} {L : Addr} {m : Str → Option Value} {news : Led} {s : Shared} {Q : Value → Shared → Prop} {x y : Str} {t : Tok} {tk' : Nat}
    (hret : ∀ t, (fun tl r => ∀ (h' : Heap) (tk' : Nat), Fr h₀ L h' m → News h₀ L h' (tl ++ news) → Above tl news → Q r { s with heap := h', toks := tk' }) ([] : Led) (Value.str x t)) (e : y = x) (F : Fr h₀ L h' m) (N : News h₀ L h' news) :
    Q (.str y t) { s with heap := h', toks := tk' } := by
  subst e
  exact hret t h' tk' F N trivial
theorem m_ret1 {h₀ h' : Heap} {L x : Addr} {o : Obj} {m : Str → Option Value} {news : Led} {s : Shared} {Q : Value → Shared → Prop} {tk' : Nat}
    (hret : (fun tl r => ∀ (h' : Heap) (tk' : Nat), Fr h₀ L h' m → News h₀ L h' (tl ++ news) → Above tl news → Q r { s with heap := h', toks := tk' }) ([(x, o)] : Led) (Value.ref x)) (F : Fr h₀ L h' m) (N : News h₀ L h' ((x, o) :: news)) (lt : ∀ p ∈ news, p.1 < x) :
    Q (.ref x) { s with heap := h', toks := tk' } := by
  exact hret h' tk' F N ⟨lt, trivial⟩
theorem item_led {prog : Program} {w : World} {A : Around} {E : Value → Shared → Prop} {s : Shared} {h₀ : Heap} {L l : Addr} {news : Led} {its : Array Value} {n : Nat} {value slice : PySem.Expr} {k : Int} {u : Tok} {v : Value} {Q : Value → Shared → Prop}
    (N : News h₀ L s.heap news) (hm : (l, listOf its n) ∈ news) (h0 : 0 ≤ k) (hhi : k < 2 ^ 63) (hx : its.toList[k.toNat]? = some v) (h : Q v s)
    (hs : subscripted slice false (.ref l) (.int k u) = operate [.ref l, .int k u] (getItem (.ref l) (.int k u)) := by with_unfolding_all rfl) :
    wpAny (model prog w) A (subscriptTail value slice (.ref l) (.int k u)) Q E s :=
  tail_any (N.isList hm).typeIs slot_list_getitem.lookup (wpAny_getItem_list (N.isList hm) h0 hhi (by rw [← Array.getElem?_toList]; exact hx) h) hs
theorem mul_sm {a b : Int} (h : -1000000 ≤ a ∧ a ≤ 1000000) : IntMulOk a b := IntMulOk.of_left (intBits_le (by omega))
theorem fm_lo {a n : Int} (h : 0 < n) : 0 ≤ Int.fmod a n := by rw [Int.fmod_eq_emod_of_nonneg _ (by omega)]; exact Int.emod_nonneg _ (by omega)
theorem fm_hi {a n : Int} (h : 0 < n) : Int.fmod a n < n := by rw [Int.fmod_eq_emod_of_nonneg _ (by omega)]; exact Int.emod_lt_of_pos _ h
theorem chr_mod {prog : Program} {w : World} {A : Around} {E : Value → Shared → Prop} {s : Shared} {k x n : Int} {t : Tok} {Q : Value → Shared → Prop} (hk : 0 ≤ k ∧ k ≤ 200) (hn : 0 < n ∧ n ≤ 1000)
    (h : Q (.str ⟨#[(k + Int.fmod x n).toNat]⟩ s.toks) { s with toks := s.toks + 1 }) : wpAny (model prog w) A (call (.builtin "chr") [.int (k + Int.fmod x n) t]) Q E s :=
  chr_of_range (by have := @fm_lo x n hn.1; omega) (by have := @fm_hi x n hn.1; omega) h
theorem ln_4 : True := by
  (k_with "m:item" => (k_here; (with_reducible show wpAny _ _ (subscriptTail _ _ (Value.ref _) (Value.int _ _)) _ _ _); k_dflt (refine' item_led ?k0 ?k1 ?k2 ?k3 ?k4 ?_ ?k6; (case k0 => k_asm); (case k1 => k_mem); (case k2 => decide); (case k3 => decide); (case k4 => rfl); (case k6 => with_unfolding_all rfl); k_whole)))
  (k_with "subscriptTail" => (k_here; (with_reducible show wpAny _ _ (subscriptTail _ _ (Value.ref _) (Value.int _ _)) _ _ _); (with_unfolding_all refine' item_anyK ?k1 ?k2 ?k3 ?k4 ?k5 ?_ ?k6; (case k1 => is_list); (case k2 => l_ints); (case k3 => l_idx); (case k4 => l_idx); (case k5 => l_idx); (case k6 => with_unfolding_all rfl); k_whole); ((first | (k_dflt (refine' (us1 neTok ?z9sl ((?_ : L1 _ _) () ()) :); (case z9sl => k_extra "m:slot"); intros u8 u9 u9; clear u8 u9; k_extra "m:cl")) | (refine (sk1 neTok ((?_ : ∀ (u9 : Tok), _) _) :); intros u9)))))
  (k_with "subscriptTail" => k_extra "m:item")
  (k_with "binaryOp Mult int int" => (with_reducible refine mul_int ?_ (mul_sm (by omega))))
  (k_with "binaryOp Pow int int" => (with_reducible refine pow_int_small ?_ ?_ ?_ ?_ <;> first | omega | skip))
  (k_with "call builtin:chr" => (refine chr_mod (by omega) (by omega) ?_))
  trivial
@[irreducible] noncomputable def KT {β : Type} (T : β → Shared → Prop) (b : β) (s : Shared) : Prop := T b s
theorem gen_T {M : Model} {A : Around} {α β : Type} {c : Sem α} {d : Sem β} {P : β → Shared → Prop} {E E' : Value → Shared → Prop} {s : Shared} (h : ∀ T : β → Shared → Prop, (∀ f s, P f s → KT T f s) → wpAny M A c (fun _ s₂ => wpAny M A d (KT T) E s₂) E' s) : wpAny M A c (fun _ s₂ => wpAny M A d P E s₂) E' s := by
  have e : KT P = P := by funext b s; unfold KT; rfl
  have := h P fun f s hp => by rw [e]; exact hp
  rw [e] at this
  exact this
section
variable {h₀ : Heap} {L I C D : Addr} {m : Str → Option Value} {s₁ : Shared} {oI oC oD : Obj} {S : Led → Prop} {rest : Value → Led → Prop} {y : Value} {h' : Heap} {tk : Nat} {news' : Led}
theorem cend0 (F : Fr h₀ L h' m) (N : News h₀ L h' ((I, oI) :: (C, oC) :: (D, oD) :: news')) (off : LCg.Off3 I C D news') (hS : S news') (r : rest y news') :
    LCg.CompEnd h₀ L m s₁ I oI C oC D oD S rest y { s₁ with heap := h', toks := tk } := ⟨h', tk, news', rfl, F, N, off, hS, r⟩
theorem cend1 {q : Addr × Obj} (F : Fr h₀ L h' m) (N : News h₀ L h' (q :: (I, oI) :: (C, oC) :: (D, oD) :: news')) (off : LCg.Off3 I C D (q :: news')) (hS : S (q :: news')) (r : rest y (q :: news')) :
    LCg.CompEnd h₀ L m s₁ I oI C oC D oD S rest y { s₁ with heap := h', toks := tk } :=
  ⟨h', tk, q :: news', rfl, F, fun p hp => N p (by simp only [List.mem_cons] at hp ⊢; rcases hp with h | h | h | h | h <;> simp [h]), off, hS, r⟩
end
theorem uend3 {h₀ : Heap} {L I : Addr} {it : Obj} {rest : (Str → Option Value) → Led → Prop} {s₁ : Shared} {h' : Heap} {tk : Nat} {m' : Str → Option Value} {a b c : Addr × Obj} {news' : Led} (F : Fr h₀ L h' m') (N : News h₀ L h' (a :: b :: c :: (I, it) :: news'))
    (off : ∀ p ∈ a :: b :: c :: news', p.1 ≠ I) (r : rest m' (a :: b :: c :: news')) : UnrEnd h₀ L s₁ I it rest { s₁ with heap := h', toks := tk } :=
  UnrEnd.intro F N (a :: b :: c :: news') (fun p hp => by simp only [List.mem_cons] at hp ⊢; rcases hp with h | h | h | h | h <;> simp [h]) off r
theorem ln_5 : True := by
  (k_with "CompEnd" => k_dflt (first
    | (refine cend0 (by assumption) (by with_reducible assumption) (by lcg_off) (by lcg_src) ?_)
    | (refine cend1 (by assumption) (by with_reducible assumption) (by lcg_off) (by lcg_src) ?_)))
  (k_with "UnrEnd" => k_dflt (refine uend3 (by assumption) (by first | with_reducible assumption | assumption) (by k_all) ?_))
  trivial
end PA1
section PFlo
open Float64 (cmp)
/-- the best of three by a test of two -/
noncomputable def best3 (bt : UInt64 → UInt64 → Bool) (a b c : UInt64) : UInt64 := if bt c (if bt b a then b else a) then c else if bt b a then b else a
noncomputable abbrev mx3 (a b c : UInt64) : UInt64 := best3 (fun x y => cmp x y == some .gt) a b c
noncomputable abbrev mn3 (a b c : UInt64) : UInt64 := best3 (fun x y => cmp x y == some .lt) a b c
noncomputable def flAt (a b c : UInt64) : Nat → UInt64
  | 0 => a
  | 1 => b
  | _ => c
theorem flAt_of {a b c : UInt64} {ta tb tc : Tok} {i : Nat} {v : Value} (h : (#[Value.float a ta, Value.float b tb, Value.float c tc])[i]? = some v) : ∃ t, v = .float (flAt a b c i) t := by
  match i, h with
  | 0, h => exact ⟨ta, by simpa [flAt] using h.symm⟩
  | 1, h => exact ⟨tb, by simpa [flAt] using h.symm⟩
  | 2, h => exact ⟨tc, by simpa [flAt] using h.symm⟩
  | n + 3, h => simp at h
theorem best_at (bt : UInt64 → UInt64 → Bool) (a b c : UInt64) : flAt a b c (argBest (fun i j => bt (flAt a b c i) (flAt a b c j)) 2) = best3 bt a b c := by
  simp only [argBest, best3]
  cases h1 : bt b a with
  | true =>
    have e : bt (flAt a b c (0 + 1)) (flAt a b c 0) = true := h1
    simp only [e, if_true]
    cases h2 : bt c b with
    | true =>
      have e2 : bt (flAt a b c (1 + 1)) (flAt a b c (0 + 1)) = true := h2
      simp only [e2, if_true]; rfl
    | false =>
      have e2 : bt (flAt a b c (1 + 1)) (flAt a b c (0 + 1)) = false := h2
      simp only [e2, Bool.false_eq_true, if_false]; rfl
  | false =>
    have e : bt (flAt a b c (0 + 1)) (flAt a b c 0) = false := h1
    simp only [e, Bool.false_eq_true, if_false]
    cases h2 : bt c a with
    | true =>
      have e2 : bt (flAt a b c (1 + 1)) (flAt a b c 0) = true := h2
      simp only [e2, if_true]; rfl
    | false =>
      have e2 : bt (flAt a b c (1 + 1)) (flAt a b c 0) = false := h2
      simp only [e2, Bool.false_eq_true, if_false]; rfl
section
variable {prog : Program} {w : World} {A : Around} {E : Value → Shared → Prop} {s : Shared} {h₀ : Heap} {L : Addr} {m : Str → Option Value} {news : Led} {a b c : UInt64} {ta tb tc : Tok} {Q : Value → Shared → Prop}
theorem cmpof_gt {P : Nat → Value → Prop} (f : Nat → UInt64) (hf : ∀ i v, P i v → ∃ t, v = .float (f i) t) : CmpOf prog w A .Gt P (fun i j => cmp (f i) (f j) == some .gt) := by
  intro i j vi vj s Q E hi hj h
  obtain ⟨t, rfl⟩ := hf i vi hi
  obtain ⟨u, rfl⟩ := hf j vj hj
  exact AutoFloatOps.gt_0 h
theorem cmpof_lt {P : Nat → Value → Prop} (f : Nat → UInt64) (hf : ∀ i v, P i v → ∃ t, v = .float (f i) t) : CmpOf prog w A .Lt P (fun i j => cmp (f i) (f j) == some .lt) := by
  intro i j vi vj s Q E hi hj h
  obtain ⟨t, rfl⟩ := hf i vi hi
  obtain ⟨u, rfl⟩ := hf j vj hj
  exact AutoFloatOps.lt_0 h
theorem kept3 {o₁ o₂ : Obj} {h h' : Heap} (hk : ∀ b o, b ∉ [(h.push o₁).objs.size] → ((h.push o₁).push o₂).get? b = some o → h'.get? b = some o) : ∀ b o, h.get? b = some o → h'.get? b = some o := by
  intro b o e
  refine hk b o ?_ (Heap.get?_push_of_some _ (Heap.get?_push_of_some _ e))
  intro hm
  have := Heap.lt_size e
  rw [List.mem_singleton.mp hm, Heap.size_push] at this
  exact absurd this (Nat.not_lt.mpr (Nat.le_succ _))
theorem max_fl (hh : A.handled = none) (F : Fr h₀ L s.heap m) (N : News h₀ L s.heap news)
    (h : ∀ h' tk t', Fr h₀ L h' m → News h₀ L h' news → Q (.float (mx3 a b c) t') { s with heap := h', toks := tk }) :
    wpAny (model prog w) A (call (.builtin "max") [.float a ta, .float b tb, .float c tc]) Q E s := by
  have hT : (s.heap.push { cls := .type "tuple", data := .seq #[.float a ta, .float b tb, .float c tc] }).IsTuple s.heap.objs.size #[.float a ta, .float b tb, .float c tc] := ⟨_, Heap.get?_push_size _ rfl, rfl, 0, rfl⟩
  have hz : (s.heap.push { cls := .type "tuple", data := .seq #[.float a ta, .float b tb, .float c tc] }).objs.size = s.heap.objs.size + 1 := Heap.size_push ..
  refine call_max_three (wpAny_pyIter_tuple hT ?_)
  refine ⟨_, [_, s.heap.objs.size], [_], _, _, _, _, rfl, Walks.tuple (A := A.in1) hh _ s.heap.objs.size (by rw [hz]; exact Nat.ne_of_lt (Nat.lt_succ_self _)) #[.float a ta, .float b tb, .float c tc], ⟨⟨_, Heap.get?_push_size _ rfl, rfl, rfl⟩, hT.push _⟩, ?_, (by show 0 < 3; decide),
    cmpof_gt (flAt a b c) (fun _ _ => flAt_of), fun v h' tk hP hk => ?_⟩
  · intro d hd
    show d < ((s.heap.push _).push _).objs.size
    rw [Heap.size_push, hz]
    rcases List.mem_cons.mp hd with rfl | hd
    · rw [hz]; exact Nat.lt_succ_self _
    · rw [List.mem_singleton.mp hd]; exact Nat.lt_succ_of_lt (Nat.lt_succ_self _)
  · obtain ⟨t, rfl⟩ := flAt_of hP
    have k := kept3 hk
    have := h h' tk t (F.grownK k) (N.grown k)
    have e := best_at (fun x y => cmp x y == some .gt) a b c
    refine Eq.mpr (congrArg (fun z => Q (.float z t) _) e) this
theorem min_fl (hh : A.handled = none) (F : Fr h₀ L s.heap m) (N : News h₀ L s.heap news)
    (h : ∀ h' tk t', Fr h₀ L h' m → News h₀ L h' news → Q (.float (mn3 a b c) t') { s with heap := h', toks := tk }) :
    wpAny (model prog w) A (call (.builtin "min") [.float a ta, .float b tb, .float c tc]) Q E s := by
  have hT : (s.heap.push { cls := .type "tuple", data := .seq #[.float a ta, .float b tb, .float c tc] }).IsTuple s.heap.objs.size #[.float a ta, .float b tb, .float c tc] := ⟨_, Heap.get?_push_size _ rfl, rfl, 0, rfl⟩
  have hz : (s.heap.push { cls := .type "tuple", data := .seq #[.float a ta, .float b tb, .float c tc] }).objs.size = s.heap.objs.size + 1 := Heap.size_push ..
  refine call_min_three (wpAny_pyIter_tuple hT ?_)
  refine ⟨_, [_, s.heap.objs.size], [_], _, _, _, _, rfl, Walks.tuple (A := A.in1) hh _ s.heap.objs.size (by rw [hz]; exact Nat.ne_of_lt (Nat.lt_succ_self _)) #[.float a ta, .float b tb, .float c tc], ⟨⟨_, Heap.get?_push_size _ rfl, rfl, rfl⟩, hT.push _⟩, ?_, (by show 0 < 3; decide),
    cmpof_lt (flAt a b c) (fun _ _ => flAt_of), fun v h' tk hP hk => ?_⟩
  · intro d hd
    show d < ((s.heap.push _).push _).objs.size
    rw [Heap.size_push, hz]
    rcases List.mem_cons.mp hd with rfl | hd
    · rw [hz]; exact Nat.lt_succ_self _
    · rw [List.mem_singleton.mp hd]; exact Nat.lt_succ_of_lt (Nat.lt_succ_self _)
  · obtain ⟨t, rfl⟩ := flAt_of hP
    have k := kept3 hk
    have := h h' tk t (F.grownK k) (N.grown k)
    have e := best_at (fun x y => cmp x y == some .lt) a b c
    refine Eq.mpr (congrArg (fun z => Q (.float z t) _) e) this
end
theorem ln_6 : True := by
  (k_with "call builtin:max" => (k_here; (with_reducible show wpAny _ _ (call (Value.builtin "max") [Value.float _ _, Value.float _ _, Value.float _ _]) _ _ _); k_dflt (refine' max_fl ?k0 ?k1 ?k2 ?_; (case k0 => rfl); (case k1 => k_asm); (case k2 => k_asm); k_whole); ((first | (k_dflt (refine' (us3 neHeap neNat neTok ?z9sl ((?_ : L3 _ _ _ _) () ()) :); (case z9sl => k_extra "m:slot"); intros u8 h' tk' t' u9; clear u8 u9; k_extra "m:cl")) | (refine (sk3 neHeap neNat neTok ((?_ : ∀ (h' : Heap) (tk' : Nat) (t' : Tok), _) _ _ _) :); intros h' tk' t'))); intros F' N'; (try k_sweep)))
  (k_with "call builtin:min" => (k_here; (with_reducible show wpAny _ _ (call (Value.builtin "min") [Value.float _ _, Value.float _ _, Value.float _ _]) _ _ _); k_dflt (refine' min_fl ?k0 ?k1 ?k2 ?_; (case k0 => rfl); (case k1 => k_asm); (case k2 => k_asm); k_whole); ((first | (k_dflt (refine' (us3 neHeap neNat neTok ?z9sl ((?_ : L3 _ _ _ _) () ()) :); (case z9sl => k_extra "m:slot"); intros u8 h' tk' t' u9; clear u8 u9; k_extra "m:cl")) | (refine (sk3 neHeap neNat neTok ((?_ : ∀ (h' : Heap) (tk' : Nat) (t' : Tok), _) _ _ _) :); intros h' tk' t'))); intros F' N'; (try k_sweep)))
  trivial
end PFlo
section PLoop
/-- how a turn of a loop may end: the loop's word again, or a way out -/
noncomputable def TurnK (h₀ : Heap) (L : Addr) (J : (Str → Option Value) → Led → Prop) (I : Addr) (o : Obj) (s₁ : Shared) (R : Result → Shared → Prop) (f : Flow) (s₂ : Shared) : Prop :=
  match f with
  | .ret v => R (.ok (.ret v)) s₂
  | .brk => R (.ok .next) s₂
  | _ => ∃ h' tk m' news', s₂ = { s₁ with heap := h', toks := tk } ∧ Fr h₀ L h' m' ∧ News h₀ L h' ((I, o) :: news') ∧ (∀ p ∈ news', p.1 ≠ I) ∧ J m' news'
section
variable {prog : Program} {w : World} {A : Around} {E : Value → Shared → Prop} {s : Shared} {env : Env} {h₀ : Heap} {target : PySem.Expr} {body : List Stmt} {R : Result → Shared → Prop}
theorem for_list {l : Addr} {items : Array Value} {m : Str → Option Value} {news : Led} (J : Nat → (Str → Option Value) → Led → Prop)
    (hh : A.handled = none)
    (hgo : ∀ I i v (s : Shared) (Q : Unit → Shared → Prop) (E : Value → Shared → Prop), items[i]? = some v → s.heap.IsListIter I l (i + 1) → Q () s → wpAny (model prog w) A (letOwnedTupleGo target (.ref I) v) Q E s)
    (F : Fr h₀ env.locals s.heap m) (N : News h₀ env.locals s.heap news) (hj : J 0 m news)
    (hlst : ∀ i m₁ news₁ h, J i m₁ news₁ → Fr h₀ env.locals h m₁ → News h₀ env.locals h news₁ → h.IsList l items)
    (turn : ∀ I o i v m₁ news₁ h tk, (∀ p ∈ news, p.1 < I) → items[i]? = some v → J i m₁ news₁ → (∀ p ∈ news₁, p.1 ≠ I) → Fr h₀ env.locals h m₁ → News h₀ env.locals h ((I, o) :: news₁) →
      wpAny (model prog w) A (assign target env v) (fun _ s₂ => wpAny (model prog w) A (execs body env) (TurnK h₀ env.locals (J (i + 1)) I o { s with heap := h, toks := tk } R) (fun _ _ => False) s₂) (fun _ _ => False) { s with heap := h, toks := tk })
    (done : ∀ m₁ news₁ h tk, J items.size m₁ news₁ → Fr h₀ env.locals h m₁ → News h₀ env.locals h news₁ → R (.ok .next) { s with heap := h, toks := tk }) :
    wpAny (model prog w) A (pyIter (.ref l)) (fun it s₂ => codeAny (model prog w) A (.forLoop target it body [] env) R s₂) E s := by
  refine wpAny_pyIter_list (hlst 0 m news s.heap hj F N) ?_
  generalize hI : s.heap.objs.size = I
  have hI0 : h₀.get? I = none := by rw [← hI]; exact next_is_new F
  have hIL : I ≠ env.locals := by rw [← hI]; exact fun e => absurd F.ns.lt (e ▸ Nat.lt_irrefl _)
  have hlt : ∀ p ∈ news, p.1 < I := fun p hp => by rw [← hI]; exact Heap.lt_size (N p hp).1
  refine codeAny_forLoop_any
    (fun k s' => ∃ h' tk m' news' i o, s' = { s with heap := h', toks := tk } ∧ h'.IsListIter I l i ∧ Fr h₀ env.locals h' m' ∧ News h₀ env.locals h' ((I, o) :: news') ∧ (∀ p ∈ news', p.1 ≠ I) ∧ J i m' news' ∧ i ≤ items.size ∧ k = items.size + 1 - i) ?_ (items.size + 1) ?_
  · rintro k s' ⟨h', tk, m', news', i, o, rfl, hit, F', N', off, hJ, hi, rfl⟩
    have hl' : h'.IsList l items := hlst i m' news' h' hJ F' (fun p hp => N' p (.tail _ hp))
    by_cases hin : i < items.size
    · refine wpAny_pyNext_list_item hit hl' (x := items[i]) (by simp [hin]) fun h₁ hit₁ hs₁ => ?_
      have F₁ : Fr h₀ env.locals h₁ m' := F'.change hs₁ hIL hI0
      obtain ⟨o₁, ho₁, _⟩ := id hit₁
      have N₁ : News h₀ env.locals h₁ ((I, o₁) :: news') := by
        intro p hp
        rcases List.mem_cons.mp hp with rfl | hp
        · exact ⟨ho₁, hIL, hI0⟩
        · have z := N' p (.tail _ hp)
          exact ⟨(hs₁.2 _ (off p hp)).trans z.1, z.2⟩
      have hx : items[i]? = some items[i] := by simp [hin]
      refine hgo I i _ _ _ _ hx hit₁ ?_
      refine wpAny_mono (turn I o₁ i _ m' news' h₁ tk hlt hx hJ off F₁ N₁) (fun _ s₂ h₂ => wpAny_mono h₂ (fun f s₃ h₃ => ?_) fun _ _ x => x.elim) fun _ _ x => x.elim
      have fin : (∃ h' tk' m'' news'', s₃ = { ({ s with heap := h₁, toks := tk } : Shared) with heap := h', toks := tk' } ∧ Fr h₀ env.locals h' m'' ∧ News h₀ env.locals h' ((I, o₁) :: news'') ∧ (∀ p ∈ news'', p.1 ≠ I) ∧ J (i + 1) m'' news'') →
          ∃ mm, mm < items.size + 1 - i ∧ ∃ h' tk m' news' i o, s₃ = { s with heap := h', toks := tk } ∧ h'.IsListIter I l i ∧ Fr h₀ env.locals h' m' ∧ News h₀ env.locals h' ((I, o) :: news') ∧ (∀ p ∈ news', p.1 ≠ I) ∧ J i m' news' ∧ i ≤ items.size ∧ mm = items.size + 1 - i := by
        rintro ⟨h₂, tk₂, m₂, news₂, rfl, F₂, N₂, off₂, hJ₂⟩
        refine ⟨items.size + 1 - (i + 1), by omega, h₂, tk₂, m₂, news₂, i + 1, o₁, rfl, ?_, F₂, N₂, off₂, hJ₂, hin, rfl⟩
        refine hit₁.at fun o e => ?_
        have : o = o₁ := by rw [ho₁] at e; exact (Option.some.inj e).symm
        rw [this]
        exact (N₂ _ (.head _)).1
      cases f with
      | ret v => exact h₃
      | brk => exact h₃
      | next => exact fin h₃
      | cont => exact fin h₃
    · have hie : i = items.size := by omega
      subst hie
      refine wpAny_pyNext_list_end hh hit hl' (by simp) fun h₁ he => ?_
      refine wpAny_execs_nil ?_
      refine done m' news' h₁ tk hJ ?_ ?_
      · exact ⟨F'.ns.at' fun o e => he _ o (Ne.symm hIL) e, fun b o e => he b o (fun q => by rw [q, hI0] at e; cases e) (F'.keep b o e), F'.above⟩
      · exact fun p hp => ⟨he _ _ (off p hp) (N' p (.tail _ hp)).1, (N' p (.tail _ hp)).2⟩
  · refine ⟨_, s.toks, m, news, 0, { cls := .type "list_iterator", data := .fields #[.ref l, .int 0 0] }, rfl, ⟨_, hI ▸ Heap.get?_push_size _ rfl, rfl, rfl⟩, F.push _, ?_, fun p hp => Nat.ne_of_lt (hlt p hp), hj, Nat.zero_le _, rfl⟩
    have z := N.push F { cls := .type "list_iterator", data := .fields #[.ref l, .int 0 0] }
    rw [hI] at z
    exact z
end
end PLoop
section PC2
theorem tok_f {M : Model} {A : Around} {E : Value → Shared → Prop} {Q : Unit → Shared → Prop} {h : Heap} {g : _} {d : _} {o : _} {T : Nat} {v : UInt64} {t : Tok} {env : Env} {y : Str} (k : ∀ t T, wpAny M A (storeName env y (.float v t)) Q E (Shared.mk h g d T o)) : wpAny M A (storeName env y (.float v t)) Q E (Shared.mk h g d T o) := k t T
theorem tok_i {M : Model} {A : Around} {E : Value → Shared → Prop} {Q : Unit → Shared → Prop} {h : Heap} {g : _} {d : _} {o : _} {T : Nat} {v : Int} {t : Tok} {env : Env} {y : Str} (k : ∀ t T, wpAny M A (storeName env y (.int v t)) Q E (Shared.mk h g d T o)) : wpAny M A (storeName env y (.int v t)) Q E (Shared.mk h g d T o) := k t T
theorem ln_7 : True := by
  (k_with "execs cons" => ((with_reducible refine wpAny_execs_cons ?_); (try dsimp only)))
  (k_with "execs nil" => (refine wpAny_execs_nil ?_))
  (k_with "newList" => (first | (k_here; ktx_write) | (k_here; k_dflt (refine' newList_K ?z9k1 ?z9k2 ?_; (case z9k1 => k_asm); (case z9k2 => k_asm); k_whole); ((first | (k_dflt (refine' (us2 neNat neHeap ?z9sl ((?_ : L2 _ _ _) () ()) :); (case z9sl => k_extra "m:slot"); intros u8 l' h' u9; clear u8 u9; k_extra "m:cl")) | (refine (sk2 neNat neHeap ((?_ : ∀ (l' : Addr) (h' : Heap), _) _ _) :); intros l' h'))); intros F' N' l1; (try k_lt l1); (try k_sweep))))
  (k_with "newTuple" => (first | (k_here; ktx_write) | (k_here; (first | kup_bare | ktd2_look); k_dflt (refine' kup_newTuple ?z9F ?z9N ?_ ?z9z; (case z9F => k_asm); (case z9N => k_asm); (case z9z => kmk_size)); ((first | (k_dflt (refine' (us2 neNat neHeap ?z9sl ((?_ : L2 _ _ _) () ()) :); (case z9sl => k_extra "m:slot"); intros u8 D' h' u9; clear u8 u9; k_extra "m:cl")) | (refine (sk2 neNat neHeap ((?_ : ∀ (D' : Addr) (h' : Heap), _) _ _) :); intros D' h'))); intros F' N' l1; (try k_lt l1); (try k_sweep))))
  (k_with "storeName" => (first
    | (k_here; ktx_write)
    | (k_here; k_dflt (refine' storeX_L ?z9F ?z9N ?_ ?z9a ?z9b; (case z9F => k_asm); (case z9N => k_asm); (case z9a => rfl); (case z9b => rfl); k_whole); ((first | (k_dflt (refine' (us1 neHeap ?z9sl ((?_ : L1 _ _) () ()) :); (case z9sl => k_extra "m:slot"); intros u8 h' u9; clear u8 u9; k_extra "m:cl")) | (refine (sk1 neHeap ((?_ : ∀ (h' : Heap), _) _) :); intros h'))); intros F' N'; (try k_sweep))
    | (k_here; k_dflt (refine' storeX_C ?z9F ?z9N ?z9c ?z9U ?z9d ?_ ?z9a ?z9b; (case z9a => rfl); (case z9b => rfl); (case z9F => k_asm); (case z9N => k_asm); (case z9c => rfl); (case z9U => k_updF); (case z9d => k_asm); k_whole); ((first | (k_dflt (refine' (us2 neHeap neObj ?z9sl ((?_ : L2 _ _ _) () ()) :); (case z9sl => k_extra "m:slot"); intros u8 h' o' u9; clear u8 u9; k_extra "m:cl")) | (refine (sk2 neHeap neObj ((?_ : ∀ (h' : Heap) (o' : Obj), _) _ _) :); intros h' o'))); intros F' N' d'; (try dsimp only at N'); (try k_sweep))
    | (k_here; kn_here; k_dflt (refine' storeX_F ?z9F ?z9N ?z9c ?z9U ?z9d ?_ ?z9a ?z9b; (case z9a => rfl); (case z9b => rfl); (case z9F => k_asm); (case z9N => k_asm); (case z9c => rfl); (case z9U => k_updF); (case z9d => k_asm); k_whole); ((first | (k_dflt (refine' (us2 neHeap neObj ?z9sl ((?_ : L2 _ _ _) () ()) :); (case z9sl => k_extra "m:slot"); intros u8 h' o' u9; clear u8 u9; k_extra "m:cl")) | (refine (sk2 neHeap neObj ((?_ : ∀ (h' : Heap) (o' : Obj), _) _ _) :); intros h' o'))); intros F' N' d'; (try dsimp only at N'); (try k_sweep))))
  (k_with "unpackItems ref" => (k_here; (with_reducible show wpAny _ _ (unpackItems (Value.ref _) _ none) _ _ _); k_dflt (first
    | (refine' kun_items ?z9k1 ?z9k2 ?z9k3 ?z9k4 ?z9k5 ?_; (case z9k1 => k_asm); (case z9k2 => k_asm); (case z9k3 => kun_lst); (case z9k4 => exact rfl); (case z9k5 => exact rfl); k_whole)
    | (refine' unpackItemsN_ ?z9k1 ?z9k2 ?z9k3 ?z9k4 ?z9k5 ?_; (case z9k1 => k_asm); (case z9k2 => k_asm); (case z9k3 => kun_tup); (case z9k4 => exact rfl); (case z9k5 => exact rfl); k_whole)); ((first | (k_dflt (refine' (us1 neHeap ?z9sl ((?_ : L1 _ _) () ()) :); (case z9sl => k_extra "m:slot"); intros u8 h' u9; clear u8 u9; k_extra "m:cl")) | (refine (sk1 neHeap ((?_ : ∀ (h' : Heap), _) _) :); intros h'))); intros F' N'; (try k_sweep)))
  (k_with "m:goDef" => (refine' code_def ?k1 ?k2 ?k3 ?k4 ?k5 ?kA ?kF ?kK ?k6 ?k7 ?k8 ?k9 ?kB ?_ ?c2 ?c3 ?c4 ?c5; (case kA => exact rfl); (case kF => exact rfl); (case kK => first | exact rfl | assumption); k_extra "m:std1"; (case k6 => k_is); (case k7 => k_is); (case k8 => first | k_extra "m:room" | ktr_room); (case k9 => first | exact BindsTo.of_eq rfl | exact binds_K (by k_in) rfl (by k_is) rfl rfl rfl); (case c5 => decide); (case kB => exact locs rfl); (case c2 => exact rfl); (case c3 => exact rfl); (case c4 => exact rfl); k_whole; ((first | (k_dflt (refine' (us3 neHeap neNat neHeap ?z9sl ((?_ : L3 _ _ _ _) () ()) :); (case z9sl => k_extra "m:slot"); intros u8 g' L' h' u9; clear u8 u9; k_extra "m:cl")) | (refine (sk3 neHeap neNat neHeap ((?_ : ∀ (g' : Heap) (L' : Addr) (h' : Heap), _) _ _ _) :); intros g' L' h'))); intros FG' F' N' B' X' T'; (try dsimp only); (try k_lift B')))
  (k_with "m:goDefC" => (refine' code_defC ?k1 ?k2 ?k3 ?k4 ?k5 ?kA ?kF ?kK ?k6 ?k7 ?k8 ?k9 ?kB ?kD ?_ ?c2 ?c3 ?c4; (case kA => exact rfl); (case kF => exact rfl); (case kK => first | exact rfl | assumption); k_extra "m:std1"; (case k6 => k_is); (case k7 => k_is); (case k8 => first | k_extra "m:room" | ktr_room); (case k9 => first | exact BindsTo.of_eq rfl | exact binds_K (by k_in) rfl (by k_is) rfl rfl rfl); (case kB => exact rfl); (case kD => decide +kernel); (case c2 => exact rfl); (case c3 => exact rfl); (case c4 => exact rfl); k_whole; ((first | (k_dflt (refine' (us5 neHeap neNat neHeap neNat neLed ?z9sl ((?_ : L5 _ _ _ _ _ _) () ()) :); (case z9sl => k_extra "m:slot"); intros u8 g' L' h' tk' cells' u9; clear u8 u9; k_extra "m:cl")) | (refine (sk5 neHeap neNat neHeap neNat neLed ((?_ : ∀ (g' : Heap) (L' : Addr) (h' : Heap) (tk' : Nat) (cells' : Led), _) _ _ _ _ _) :); intros g' L' h' tk' cells'))); intros FG' F' N' Y' B' X' T' l1; (try k_lt l1); k_extra "m:cells"; (try simp only [List.cons_append, List.nil_append] at N'); (try dsimp only); (try k_lift B')))
  (k_with "m:goMore" => (kp_kind "more"; (refine' kp_more ?k1 ?k2 ?k3 ?k4 ?k5 ?kA ?kF ?kK ?k6 ?k7 ?k8 ?kX ?kM ?kN ?kD ?kR ?kP ?kT ?kB ?_ ?c2 ?c3 ?c4 ?c5; (case kA => exact rfl); (case kF => exact rfl); (case kK => first | exact rfl | assumption); k_extra "m:std1"; (case k6 => k_is); (case k7 => k_is); (case k8 => first | k_extra "m:room" | ktr_room); (case kX => kp_lit); (case kM => exact rfl); (case kN => exact rfl); (case kD => kp_flats); (case kR => exact rfl); (case kP => exact rfl); (case kT => exact fun _ => rfl); (case kB => exact fun _ => locs rfl); (case c5 => decide); (case c2 => exact rfl); (case c3 => exact rfl); (case c4 => exact rfl); k_whole); ((first | (k_dflt (refine' (us6 neNat neObj neHeap neNat neHeap neNat ?z9sl ((?_ : L6 _ _ _ _ _ _ _) () ()) :); (case z9sl => k_extra "m:slot"); intros u8 D' o' g' L' h' tk' u9; clear u8 u9; k_extra "m:cl")) | (refine (sk6 neNat neObj neHeap neNat neHeap neNat ((?_ : ∀ (D' : Addr) (o' : Obj) (g' : Heap) (L' : Addr) (h' : Heap) (tk' : Nat), _) _ _ _ _ _ _) :); intros D' o' g' L' h' tk'))); intros l1 lo' hs' fs' FG' F' N' B' X' T'; (try k_lt l1); (try dsimp only); (try k_lift B')))
  (k_with "m:go" => first | k_extra "m:goMore" | k_extra "m:goDef" | k_extra "m:goDefC")
  (k_with "call ref" => (k_here; k_dflt (first
    | (refine' call_cls ?z9k1 ?z9k2 ?z9k3 ?z9k4 ?z9k5 ?z9k6 ?_; (case z9k1 => k_asm); (case z9k2 => k_asm); (case z9k3 => k_asm); (case z9k4 => k_is); (case z9k5 => k_is); (case z9k6 => k_is); k_whole; ((first | (k_dflt (refine' (us3 neNat neNat neHeap ?z9sl ((?_ : L3 _ _ _ _) () ()) :); (case z9sl => k_extra "m:slot"); intros u8 x' d' h' u9; clear u8 u9; k_extra "m:cl")) | (refine (sk3 neNat neNat neHeap ((?_ : ∀ (x' : Addr) (d' : Addr) (h' : Heap), _) _ _ _) :); intros x' d' h'))); intros F' N' l1 l2; (try k_lt l1); (try k_lt2 l2); (try k_sweep); k_extra "m:go")
    | (refine' call_meth ?z9k1 ?z9k2 ?_; (case z9k1 => k_asm); (case z9k2 => k_mem); k_whole; k_extra "m:go")
    | (refine wpAny_call ?_; k_extra "m:go"))))
  (k_with "setAttr ref" => (k_here; k_dflt (refine' set_dict ?z9k1 ?z9k2 ?z9k3 ?z9k4 ?z9k5 ?z9k6 ?z9k7 ?z9k8 ?z9k9 ?z9k10 ?z9k11 ?z9k12 ?z9k13 ?_; (case z9k1 => k_asm); (case z9k2 => k_asm); (case z9k3 => k_asm); (case z9k4 => k_inst); (case z9k5 => exact rfl); (case z9k6 => k_is); (case z9k7 => k_is); (case z9k8 => k_is); (case z9k9 => k_is); (case z9k10 => k_get); (case z9k11 => k_put); (case z9k12 => k_upd); (case z9k13 => exact Nat.le_of_ble_eq_true rfl); k_whole); ((first | (k_dflt (refine' (us1 neHeap ?z9sl ((?_ : L1 _ _) () ()) :); (case z9sl => k_extra "m:slot"); intros u8 h' u9; clear u8 u9; k_extra "m:cl")) | (refine (sk1 neHeap ((?_ : ∀ (h' : Heap), _) _) :); intros h'))); intros F' N'; (try k_sweep)))
  (k_with "call builtin:list.append" => (k_here; (with_reducible show wpAny _ _ (call (Value.builtin _) [Value.ref _, _]) _ _ _); k_dflt (refine' append_K ?z9k1 ?z9k2 ?z9k3 ?_ ?z9z; (case z9k1 => k_asm); (case z9k2 => k_asm); (case z9k3 => k_upd); (case z9z => size_fits); k_whole); ((first | (k_dflt (refine' (us1 neHeap ?z9sl ((?_ : L1 _ _) () ()) :); (case z9sl => k_extra "m:slot"); intros u8 h' u9; clear u8 u9; k_extra "m:cl")) | (refine (sk1 neHeap ((?_ : ∀ (h' : Heap), _) _) :); intros h'))); intros F' N'; (try k_sweep)))
  (k_with "call builtin:sum" => (k_here; (with_reducible show wpAny _ _ (call (Value.builtin "sum") [Value.ref _]) _ _ _); (first
    | (with_unfolding_all refine' ktm_sumK ?z9k0 ?z9k1 ?z9k2 ?z9k3 ?z9k4 ?_; (case z9k0 => with_unfolding_all rfl); (case z9k1 => k_asm); (case z9k2 => k_asm); (case z9k3 => k_mem); (case z9k4 => first | l_ints | l_intsW); k_whole)
    | (with_unfolding_all refine' sumK ?z9k0 ?z9k1 ?z9k2 ?z9k3 ?z9k4 ?_; (case z9k0 => with_unfolding_all rfl); (case z9k1 => k_asm); (case z9k2 => k_asm); (case z9k3 => is_list); (case z9k4 => first | l_ints | l_intsW); k_whole)); ((first | (k_dflt (refine' (us3 neHeap neNat neTok ?z9sl ((?_ : L3 _ _ _ _) () ()) :); (case z9sl => k_extra "m:slot"); intros u8 h' tk' t' u9; clear u8 u9; k_extra "m:cl")) | (refine (sk3 neHeap neNat neTok ((?_ : ∀ (h' : Heap) (tk' : Nat) (t' : Tok), _) _ _ _) :); intros h' tk' t'))); intros F' N'; (try simp only [List.sum_cons, List.sum_nil])))
  (k_with "subscriptTail Name Slice ref ref" => (k_here; k_dflt (first
    | ((with_reducible show wpAny _ _ (subscriptTail _ (PySem.Expr.Slice _ _ (some _) _) (Value.ref _) (Value.ref _)) _ _ _); (refine' kmk_slice3_lit ?z9F ?z9N ?z9l ?z9p ?z9q ?z9k ?z9o ?z9e ?_ ?z9s ?z9t ?z9z; (case z9F => k_asm); (case z9N => k_asm); (case z9l => kmk_list); (case z9p => kmk_part); (case z9q => kmk_part); (case z9k => kmk_part); (case z9o => decide); (case z9e => kl_lit); (case z9s => with_unfolding_all rfl); (case z9t => kmk_pure); (case z9z => kmk_size)))
    | ((with_reducible show wpAny _ _ (subscriptTail _ (PySem.Expr.Slice _ _ none _) (Value.ref _) (Value.ref _)) _ _ _); (refine' kms_slice_lit ?z9F ?z9N ?z9l ?z9p ?z9q ?z9e ?_ ?z9s ?z9t ?z9z; (case z9F => k_asm); (case z9N => k_asm); (case z9l => kmk_list); (case z9p => kmk_part); (case z9q => kmk_part); (case z9e => kl_lit); (case z9s => with_unfolding_all rfl); (case z9t => kmk_pure); (case z9z => kmk_size)))
    | ((with_reducible show wpAny _ _ (subscriptTail _ (PySem.Expr.Slice _ _ none _) (Value.ref _) (Value.ref _)) _ _ _); (refine' kmk_slice_lit ?z9F ?z9N ?z9l ?z9p ?z9q ?z9e ?_ ?z9s ?z9t ?z9z; (case z9F => k_asm); (case z9N => k_asm); (case z9l => kmk_list); (case z9p => kmk_part); (case z9q => kmk_part); (case z9e => kl_lit); (case z9s => with_unfolding_all rfl); (case z9t => kmk_pure); (case z9z => kmk_size)))); ((first | (k_dflt (refine' (us2 neNat neHeap ?z9sl ((?_ : L2 _ _ _) () ()) :); (case z9sl => k_extra "m:slot"); intros u8 D' h' u9; clear u8 u9; k_extra "m:cl")) | (refine (sk2 neNat neHeap ((?_ : ∀ (D' : Addr) (h' : Heap), _) _ _) :); intros D' h'))); intros F' N' l1; (try k_lt l1); (try k_sweep)))
  (k_with "binaryOp Add ref ref" => (k_here; (with_reducible show wpAny _ _ (binaryOp _ (Value.ref _) (Value.ref _)) _ _ _); k_dflt (refine' kmk_add_lit ?z9F ?z9N ?z9a ?z9b ?z9e ?_ ?z9z; (case z9F => k_asm); (case z9N => k_asm); (case z9a => kmk_list); (case z9b => kmk_list); (case z9e => kl_lit); (case z9z => kl_room)); ((first | (k_dflt (refine' (us2 neNat neHeap ?z9sl ((?_ : L2 _ _ _) () ()) :); (case z9sl => k_extra "m:slot"); intros u8 D' h' u9; clear u8 u9; k_extra "m:cl")) | (refine (sk2 neNat neHeap ((?_ : ∀ (D' : Addr) (h' : Heap), _) _ _) :); intros D' h'))); intros F' N' l1; (try k_lt l1); (try k_sweep)))
  (k_with "call type:range" => ((rename Fr _ _ _ _ => kF); (rename News _ _ _ _ => kN); (with_unfolding_all first | (refine range1_rows kF kN ?_) | (refine range2_rows kF kN ?_)); ((first | (k_dflt (refine' (us5 neHeap neNat neTok neTok neTok ?z9sl ((?_ : L5 _ _ _ _ _ _) () ()) :); (case z9sl => k_extra "m:slot"); intros u8 h' tk' t9 u9 v9 u9; clear u8 u9; k_extra "m:cl")) | (refine (sk5 neHeap neNat neTok neTok neTok ((?_ : ∀ (h' : Heap) (tk' : Nat) (t9 : Tok) (u9 : Tok) (v9 : Tok), _) _ _ _ _ _) :); intros h' tk' t9 u9 v9))); intros r9 F' N' st9))
  (k_with "assign Tuple" => (k_here; (with_reducible show wpAny _ _ (assign (PySem.Expr.Tuple _ _ _) _ (Value.ref _)) _ _ _); k_dflt (first
    | (refine' kun_list ?z9k1 ?z9k2 ?z9k3 ?z9k4 ?z9k5 ?z9k6 ?_; (case z9k1 => k_asm); (case z9k2 => k_asm); (case z9k3 => kun_lst); (case z9k4 => exact rfl); (case z9k5 => exact rfl); (case z9k6 => exact rfl); k_whole)
    | (refine' unpackN_ ?z9k1 ?z9k2 ?z9k3 ?z9k4 ?z9k5 ?z9k6 ?_; (case z9k1 => k_asm); (case z9k2 => k_asm); (case z9k3 => kun_tup); (case z9k4 => exact rfl); (case z9k5 => exact rfl); (case z9k6 => exact rfl); k_whole)); ((first | (k_dflt (refine' (us1 neHeap ?z9sl ((?_ : L1 _ _) () ()) :); (case z9sl => k_extra "m:slot"); intros u8 h' u9; clear u8 u9; k_extra "m:cl")) | (refine (sk1 neHeap ((?_ : ∀ (h' : Heap), _) _) :); intros h'))); intros F' N'; (try k_sweep)))
  (k_with "setItem ref int" => (k_here; k_dflt (refine' ki_set ?z9F ?z9N ?z9a ?z9b ?z9e ?z9U ?_; (case z9F => k_asm); (case z9N => k_asm); (case z9U => k_upd); (case z9a => decide); (case z9b => decide); (case z9e => rfl)); ((first | (k_dflt (refine' (us1 neHeap ?z9sl ((?_ : L1 _ _) () ()) :); (case z9sl => k_extra "m:slot"); intros u8 h' u9; clear u8 u9; k_extra "m:cl")) | (refine (sk1 neHeap ((?_ : ∀ (h' : Heap), _) _) :); intros h'))); intros F' N'; (try dsimp only [List.nil_append, List.cons_append] at N')))
  (k_with "m:csrc" => (k_dflt (first
    | (refine LCg.CompSrc.ledger (by rfl) (by k_asm) (by k_asm) (by k_mem) (by first | size_fits | exact Nat.le_of_ble_eq_true rfl) ?_; ((first | (k_dflt (refine' (us1 neHeap ?z9sl ((?_ : L1 _ _) () ()) :); (case z9sl => k_extra "m:slot"); intros u8 g' u9; clear u8 u9; k_extra "m:cl")) | (refine (sk1 neHeap ((?_ : ∀ (g' : Heap), _) _) :); intros g'))); lcg_lit)
    | (refine LCg.CompSrc.base (by rfl) (by k_asm) (by k_asm) (by assumption) (by first | size_fits | exact Nat.le_of_ble_eq_true rfl) ?_; ((first | (k_dflt (refine' (us1 neHeap ?z9sl ((?_ : L1 _ _) () ()) :); (case z9sl => k_extra "m:slot"); intros u8 g' u9; clear u8 u9; k_extra "m:cl")) | (refine (sk1 neHeap ((?_ : ∀ (g' : Heap), _) _) :); intros g'))); lcg_lit)
    | (refine LCg.CompSrc.range (by rfl) (by k_asm) (by k_asm) (by assumption) (by first | decide | rfl) (by first | rfl | decide) (by first | size_fits | exact Nat.le_of_ble_eq_true rfl) ?_; ((first | (k_dflt (refine' (us1 neHeap ?z9sl ((?_ : L1 _ _) () ()) :); (case z9sl => k_extra "m:slot"); intros u8 g' u9; clear u8 u9; k_extra "m:cl")) | (refine (sk1 neHeap ((?_ : ∀ (g' : Heap), _) _) :); intros g'))); lcg_lit))))
  (k_with "m:ksrc" => (kcf_src; (try k_fmods); (try kcf_lens); k_dflt (refine LCg.CompSrc.ledger (by rfl) (by k_asm) (by k_asm) (by k_mem) (by kcf_size) ?_; ((first | (k_dflt (refine' (us1 neHeap ?z9sl ((?_ : L1 _ _) () ()) :); (case z9sl => k_extra "m:slot"); intros u8 g' u9; clear u8 u9; k_extra "m:cl")) | (refine (sk1 neHeap ((?_ : ∀ (g' : Heap), _) _) :); intros g'))); (refine' kcf_list _ (by first | assumption | l_ints) ?_ ?_); rotate_left; ((first | (k_dflt (refine' (us8 neInt neTok neNat neObj neNat neObj neNat neFr ?z9sl ((?_ : L8 _ _ _ _ _ _ _ _ _) () ()) :); (case z9sl => k_extra "m:slot"); intros u8 k' t' I' oI' C' oC' D' m' u9; clear u8 u9; k_extra "m:cl")) | (refine (sk8 neInt neTok neNat neObj neNat neObj neNat neFr ((?_ : ∀ (k' : Int) (t' : Tok) (I' : Addr) (oI' : Obj) (C' : Addr) (oC' : Obj) (D' : Addr) (m' : Str → Option Value), _) _ _ _ _ _ _ _ _) :); intros k' t' I' oI' C' oC' D' m')); (first | (k_dflt (refine' (us4 neLv neHeap neNat neQE ?z9sl ((?_ : L4 _ _ _ _ _) () ()) :); (case z9sl => k_extra "m:slot"); intros u8 ys' h' tk' E' u9; clear u8 u9; k_extra "m:cl")) | (refine (sk4 neLv neHeap neNat neQE ((?_ : ∀ (ys' : List Value) (h' : Heap) (tk' : Nat) (E' : Value → Shared → Prop), _) _ _ _ _) :); intros ys' h' tk' E'))); intros hk' hC' hx' F' N' off' ne' hMark'; (all_goals (try (simp only [LCg.Off3, and_true] at off'))); kcf_last)))
  (k_with "CompSrc" => (k_here; k_dflt (first | k_extra "m:ksrc" | k_extra "m:csrc")))
  (k_with "CompRest" => (with_unfolding_all (refine LCg.CompRest.succ ?_; ((first | (k_dflt (refine' (us8 neVal neNat neObj neNat neObj neNat neFr neHeap ?z9sl ((?_ : L8 _ _ _ _ _ _ _ _ _) () ()) :); (case z9sl => k_extra "m:slot"); intros u8 v' I' oI' C' oC' D' m' h' u9; clear u8 u9; k_extra "m:cl")) | (refine (sk8 neVal neNat neObj neNat neObj neNat neFr neHeap ((?_ : ∀ (v' : Value) (I' : Addr) (oI' : Obj) (C' : Addr) (oC' : Obj) (D' : Addr) (m' : Str → Option Value) (h' : Heap), _) _ _ _ _ _ _ _ _) :); intros v' I' oI' C' oC' D' m' h')); (first | (k_dflt (refine' (us2 neNat neQE ?z9sl ((?_ : L2 _ _ _) () ()) :); (case z9sl => k_extra "m:slot"); intros u8 tk' E' u9; clear u8 u9; k_extra "m:cl")) | (refine (sk2 neNat neQE ((?_ : ∀ (tk' : Nat) (E' : Value → Shared → Prop), _) _ _) :); intros tk' E'))); intros hv' hC' hx' F' N' off' ne'; (first | ((try clear_value v'); lcg_open hv') | (refine Exists.elim hv' ?_; ((first | (k_dflt (refine' (us1 neTok ?z9sl ((?_ : L1 _ _) () ()) :); (case z9sl => k_extra "m:slot"); intros u8 t9' u9; clear u8 u9; k_extra "m:cl")) | (refine (sk1 neTok ((?_ : ∀ (t9' : Tok), _) _) :); intros t9'))); intro hv9'; (rw [hv9'] at hx'); clear hv' hv9')); (try simp only [LCg.Off3, and_true] at off'))))
  (k_with "CompRestT" => (with_unfolding_all (refine LCt.CompRestT.succ ?_; ((first | (k_dflt (refine' (us8 neVal neNat neObj neNat neObj neNat neFr neHeap ?z9sl ((?_ : L8 _ _ _ _ _ _ _ _ _) () ()) :); (case z9sl => k_extra "m:slot"); intros u8 v' I' oI' C' oC' D' m' h' u9; clear u8 u9; k_extra "m:cl")) | (refine (sk8 neVal neNat neObj neNat neObj neNat neFr neHeap ((?_ : ∀ (v' : Value) (I' : Addr) (oI' : Obj) (C' : Addr) (oC' : Obj) (D' : Addr) (m' : Str → Option Value) (h' : Heap), _) _ _ _ _ _ _ _ _) :); intros v' I' oI' C' oC' D' m' h')); (first | (k_dflt (refine' (us2 neNat neQE ?z9sl ((?_ : L2 _ _ _) () ()) :); (case z9sl => k_extra "m:slot"); intros u8 tk' E' u9; clear u8 u9; k_extra "m:cl")) | (refine (sk2 neNat neQE ((?_ : ∀ (tk' : Nat) (E' : Value → Shared → Prop), _) _ _) :); intros tk' E'))); intros hv' hC' hx' F' N' off' ne'; (first | ((try clear_value v'); lcg_open hv') | (refine Exists.elim hv' ?_; ((first | (k_dflt (refine' (us1 neTok ?z9sl ((?_ : L1 _ _) () ()) :); (case z9sl => k_extra "m:slot"); intros u8 t9' u9; clear u8 u9; k_extra "m:cl")) | (refine (sk1 neTok ((?_ : ∀ (t9' : Tok), _) _) :); intros t9'))); intro hv9'; (rw [hv9'] at hx'); clear hv' hv9')); (try simp only [LCg.Off3, and_true] at off'))))
  (k_with "CompSrcT" => (k_here; k_dflt (first
    | (refine LCt.CompSrcT.ledger (by rfl) (by k_asm) (by k_asm) (by k_mem) (by first | size_fits | exact Nat.le_of_ble_eq_true rfl) ?_; ((first | (k_dflt (refine' (us1 neHeap ?z9sl ((?_ : L1 _ _) () ()) :); (case z9sl => k_extra "m:slot"); intros u8 g' u9; clear u8 u9; k_extra "m:cl")) | (refine (sk1 neHeap ((?_ : ∀ (g' : Heap), _) _) :); intros g'))); lct_lit)
    | (refine LCt.CompSrcT.base (by rfl) (by k_asm) (by k_asm) (by assumption) (by first | size_fits | exact Nat.le_of_ble_eq_true rfl) ?_; ((first | (k_dflt (refine' (us1 neHeap ?z9sl ((?_ : L1 _ _) () ()) :); (case z9sl => k_extra "m:slot"); intros u8 g' u9; clear u8 u9; k_extra "m:cl")) | (refine (sk1 neHeap ((?_ : ∀ (g' : Heap), _) _) :); intros g'))); lct_lit)
    | (refine LCt.CompSrcT.range (by rfl) (by k_asm) (by k_asm) (by assumption) (by first | decide | rfl) (by first | rfl | decide) (by first | size_fits | exact Nat.le_of_ble_eq_true rfl) ?_; ((first | (k_dflt (refine' (us1 neHeap ?z9sl ((?_ : L1 _ _) () ()) :); (case z9sl => k_extra "m:slot"); intros u8 g' u9; clear u8 u9; k_extra "m:cl")) | (refine (sk1 neHeap ((?_ : ∀ (g' : Heap), _) _) :); intros g'))); lct_lit))))
  trivial
theorem mul_smR {a b : Int} (h : -1000000 ≤ b ∧ b ≤ 1000000) : IntMulOk a b := IntMulOk.of_right (intBits_le (by omega))
theorem bk_sub {a b : Int} (h : -1000 ≤ a ∧ a ≤ 1000) (h1 : -1000 ≤ b ∧ b ≤ 1000) : -1000000 ≤ a - b ∧ a - b ≤ 1000000 := by omega
theorem ln_8 : True := by
  (k_with "binaryOp Mult int int" => (with_reducible refine mul_int ?_ (mul_smR (by first | exact hb.1 | exact hb.2.1 | exact hb.2.2 | exact bk_sub hb.1 hb.2.1 | exact bk_sub hb.1 hb.2.2 | exact bk_sub hb.2.1 hb.1 | exact bk_sub hb.2.1 hb.2.2 | exact bk_sub hb.2.2 hb.1 | exact bk_sub hb.2.2 hb.2.1 | omega))))
  trivial
section
variable {w : World} {p : Program} {loose : List Str} {mean : ExcName → Option Value} {mg mb : Str → Option Value}
noncomputable abbrev Bk (a b c : Int) : Prop := (-1000 ≤ a ∧ a ≤ 1000) ∧ (-1000 ≤ b ∧ b ≤ 1000) ∧ (-1000 ≤ c ∧ c ≤ 1000)
noncomputable abbrev Bd (a b c : Int) : Prop := (-1000000 ≤ a ∧ a ≤ 1000000) ∧ (-1000000 ≤ b ∧ b ≤ 1000000) ∧ (-1000000 ≤ c ∧ c ≤ 1000000)
noncomputable def sizeF (a b c : Int) : Int := a ^ 2 + b ^ 2 + c ^ 2 - a * b - b * c - c * a
theorem size_c {news : Led} {l : Addr} {n : Nat} {a b c : Int} {ta tb tc : Tok} (hm : (l, listOf #[.int a ta, .int b tb, .int c tc] n) ∈ news) (hb : Bd a b c) :
   Claim w p loose mean mg mb (.ref 301) 1 [.ref l] news (fun K => ∀ t, K [] (.int (sizeF a b c) t)) := by
  (revert w p loose mean mg mb news l n a b c ta tb tc; (first | (k_dflt (refine' (us8 neW neProg neLs neMean neFr neFr neLed neNat ?z9sl ((?_ : L8 _ _ _ _ _ _ _ _ _) () ()) :); (case z9sl => k_extra "m:slot"); intros u8 w p loose mean mg mb news l u9; clear u8 u9; k_extra "m:cl")) | (refine (sk8 neW neProg neLs neMean neFr neFr neLed neNat ((?_ : ∀ (w : World) (p : Program) (loose : List Str) (mean : ExcName → Option Value) (mg : Str → Option Value) (mb : Str → Option Value) (news : Led) (l : Addr), _) _ _ _ _ _ _ _ _) :); intros w p loose mean mg mb news l)); (first | (k_dflt (refine' (us7 neNat neInt neInt neInt neTok neTok neTok ?z9sl ((?_ : L7 _ _ _ _ _ _ _ _) () ()) :); (case z9sl => k_extra "m:slot"); intros u8 n a b c ta tb tc u9; clear u8 u9; k_extra "m:cl")) | (refine (sk7 neNat neInt neInt neInt neTok neTok neTok ((?_ : ∀ (n : Nat) (a : Int) (b : Int) (c : Int) (ta : Tok) (tb : Tok) (tc : Tok), _) _ _ _ _ _ _ _) :); intros n a b c ta tb tc)); intros hm hb)
  k_extra "m:enter"
  k_steps
  all_goals (refine m_retI (Q := Q) (s := s) (fun t => hret t) ?_ (by k_asm) (by k_asm))
  all_goals rfl
theorem times_cR {news : Led} {l l' : Addr} {n n' : Nat} {a b c a' b' c' : Int} {ta tb tc ta' tb' tc' : Tok} (hm : (l, listOf #[.int a ta, .int b tb, .int c tc] n) ∈ news)
   (hm' : (l', listOf #[.int a' ta', .int b' tb', .int c' tc'] n') ∈ news) (hb : Bd a' b' c') :
   Claim w p loose mean mg mb (.ref 294) 1 [.ref l, .ref l'] news (fun K => ∀ x t1 t2 t3, K [(x, listOf #[.int (a * a' + b * c' + c * b') t1, .int (a * b' + b * a' + c * c') t2, .int (a * c' + b * b' + c * a') t3] 0)] (.ref x)) := by
  (revert w p loose mean mg mb news l l' n n' a b c a' b' c' ta tb tc ta' tb' tc'; (first | (k_dflt (refine' (us8 neW neProg neLs neMean neFr neFr neLed neNat ?z9sl ((?_ : L8 _ _ _ _ _ _ _ _ _) () ()) :); (case z9sl => k_extra "m:slot"); intros u8 w p loose mean mg mb news l u9; clear u8 u9; k_extra "m:cl")) | (refine (sk8 neW neProg neLs neMean neFr neFr neLed neNat ((?_ : ∀ (w : World) (p : Program) (loose : List Str) (mean : ExcName → Option Value) (mg : Str → Option Value) (mb : Str → Option Value) (news : Led) (l : Addr), _) _ _ _ _ _ _ _ _) :); intros w p loose mean mg mb news l)); (first | (k_dflt (refine' (us8 neNat neNat neNat neInt neInt neInt neInt neInt ?z9sl ((?_ : L8 _ _ _ _ _ _ _ _ _) () ()) :); (case z9sl => k_extra "m:slot"); intros u8 l' n n' a b c a' b' u9; clear u8 u9; k_extra "m:cl")) | (refine (sk8 neNat neNat neNat neInt neInt neInt neInt neInt ((?_ : ∀ (l' : Addr) (n : Nat) (n' : Nat) (a : Int) (b : Int) (c : Int) (a' : Int) (b' : Int), _) _ _ _ _ _ _ _ _) :); intros l' n n' a b c a' b')); (first | (k_dflt (refine' (us7 neInt neTok neTok neTok neTok neTok neTok ?z9sl ((?_ : L7 _ _ _ _ _ _ _ _) () ()) :); (case z9sl => k_extra "m:slot"); intros u8 c' ta tb tc ta' tb' tc' u9; clear u8 u9; k_extra "m:cl")) | (refine (sk7 neInt neTok neTok neTok neTok neTok neTok ((?_ : ∀ (c' : Int) (ta : Tok) (tb : Tok) (tc : Tok) (ta' : Tok) (tb' : Tok) (tc' : Tok), _) _ _ _ _ _ _ _) :); intros c' ta tb tc ta' tb' tc')); intros hm hm' hb)
  k_extra "m:enter"
  k_steps
  all_goals (exact m_ret1 (Q := Q) (s := s) (hret _ _ _ _) (by k_asm) (by k_asm) (by k_asm))
noncomputable def nm1 (a b c a' b' c' : Int) : Int := a * (a' - b') + b * (b' - c') + c * (c' - a')
noncomputable def nm2 (a b c a' b' c' : Int) : Int := a * (c' - b') + b * (a' - c') + c * (b' - a')
noncomputable def nameF (a b c a' b' c' size : Int) : Str := ({ cps := #[(65 + (nm1 a b c a' b' c').fmod size).toNat] } : Str) ++ ({ cps := #[(97 + (nm2 a b c a' b' c').fmod size).toNat] } : Str)
theorem name_cR {news : Led} {l l' : Addr} {n n' : Nat} {a b c a' b' c' size : Int} {ta tb tc ta' tb' tc' ts : Tok} (hm : (l, listOf #[.int a ta, .int b tb, .int c tc] n) ∈ news)
   (hm' : (l', listOf #[.int a' ta', .int b' tb', .int c' tc'] n') ∈ news) (hb : Bk a' b' c') (hs : 0 < size ∧ size ≤ 30) :
   Claim w p loose mean mg mb (.ref 308) 1 [.ref l, .ref l', .int size ts] news (fun K => ∀ t1, K [] (.str (nameF a b c a' b' c' size) t1)) := by
  (revert w p loose mean mg mb news l l' n n' a b c a' b' c' size ta tb tc ta' tb' tc' ts; (first | (k_dflt (refine' (us8 neW neProg neLs neMean neFr neFr neLed neNat ?z9sl ((?_ : L8 _ _ _ _ _ _ _ _ _) () ()) :); (case z9sl => k_extra "m:slot"); intros u8 w p loose mean mg mb news l u9; clear u8 u9; k_extra "m:cl")) | (refine (sk8 neW neProg neLs neMean neFr neFr neLed neNat ((?_ : ∀ (w : World) (p : Program) (loose : List Str) (mean : ExcName → Option Value) (mg : Str → Option Value) (mb : Str → Option Value) (news : Led) (l : Addr), _) _ _ _ _ _ _ _ _) :); intros w p loose mean mg mb news l)); (first | (k_dflt (refine' (us8 neNat neNat neNat neInt neInt neInt neInt neInt ?z9sl ((?_ : L8 _ _ _ _ _ _ _ _ _) () ()) :); (case z9sl => k_extra "m:slot"); intros u8 l' n n' a b c a' b' u9; clear u8 u9; k_extra "m:cl")) | (refine (sk8 neNat neNat neNat neInt neInt neInt neInt neInt ((?_ : ∀ (l' : Addr) (n : Nat) (n' : Nat) (a : Int) (b : Int) (c : Int) (a' : Int) (b' : Int), _) _ _ _ _ _ _ _ _) :); intros l' n n' a b c a' b')); (first | (k_dflt (refine' (us8 neInt neInt neTok neTok neTok neTok neTok neTok ?z9sl ((?_ : L8 _ _ _ _ _ _ _ _ _) () ()) :); (case z9sl => k_extra "m:slot"); intros u8 c' size ta tb tc ta' tb' tc' u9; clear u8 u9; k_extra "m:cl")) | (refine (sk8 neInt neInt neTok neTok neTok neTok neTok neTok ((?_ : ∀ (c' : Int) (size : Int) (ta : Tok) (tb : Tok) (tc : Tok) (ta' : Tok) (tb' : Tok) (tc' : Tok), _) _ _ _ _ _ _ _ _) :); intros c' size ta tb tc ta' tb' tc')); (first | (k_dflt (refine' (us1 neTok ?z9sl ((?_ : L1 _ _) () ()) :); (case z9sl => k_extra "m:slot"); intros u8 ts u9; clear u8 u9; k_extra "m:cl")) | (refine (sk1 neTok ((?_ : ∀ (ts : Tok), _) _) :); intros ts)); intros hm hm' hb hs)
  k_extra "m:enter"
  k_steps
  all_goals (refine m_retS (Q := Q) (s := s) (fun t => hret t) ?_ (by k_asm) (by k_asm))
  all_goals rfl
end
end PC2
section PC3
noncomputable abbrev f1 : UInt64 := 4607182418800017408
noncomputable abbrev f2 : UInt64 := 4611686018427387904
noncomputable abbrev f4 : UInt64 := 4616189618054758400
noncomputable abbrev f6 : UInt64 := 4618441417868443648
noncomputable abbrev fhalf : UInt64 := 4602678819172646912
noncomputable abbrev sixth : UInt64 := 4595172819793696085
noncomputable abbrev third : UInt64 := 4599676419421066581
noncomputable abbrev twoThird : UInt64 := 4604180019048437077
noncomputable abbrev F3 := UInt64 × UInt64 × UInt64
open Float64
noncomputable def vF (a b h : UInt64) : UInt64 :=
  if (cmp (divmod h f1).2 sixth == some .lt) = true then add a (mul (mul (sub b a) (divmod h f1).2) f6) else
  if (cmp (divmod h f1).2 fhalf == some .lt) = true then b else
  if (cmp (divmod h f1).2 twoThird == some .lt) = true then add a (mul (mul (sub b a) (sub twoThird (divmod h f1).2)) f6) else a
noncomputable def hueF (r g b mx rng : UInt64) : UInt64 :=
  (divmod (div (if (cmp r mx == some .eq) = true then sub (div (sub mx b) rng) (div (sub mx g) rng) else
    if (cmp g mx == some .eq) = true then sub (add f2 (div (sub mx r) rng)) (div (sub mx b) rng) else
    sub (add f4 (div (sub mx g) rng)) (div (sub mx r) rng)) f6) f1).2
noncomputable def hlsG (r g b mx mn sum rng l : UInt64) : Option F3 :=
  if (cmp mn mx == some .eq) = true then some (0, l, 0) else
  if (cmp l fhalf == some .lt || cmp l fhalf == some .eq) = true then
    if isZero sum = true then none else if isZero rng = true then none else some (hueF r g b mx rng, l, div rng sum)
  else if isZero (sub (sub f2 mx) mn) = true then none else if isZero rng = true then none else some (hueF r g b mx rng, l, div rng (sub (sub f2 mx) mn))
noncomputable def hlsF (r g b : UInt64) : Option F3 := hlsG r g b (mx3 r g b) (mn3 r g b) (add (mx3 r g b) (mn3 r g b)) (sub (mx3 r g b) (mn3 r g b)) (div (add (mx3 r g b) (mn3 r g b)) f2)
noncomputable def rgbF (h l s : UInt64) : F3 :=
  if (cmp s 0 == some .eq) = true then (l, l, l) else
  if (cmp l fhalf == some .lt || cmp l fhalf == some .eq) = true then
    (vF (sub (mul f2 l) (mul l (add f1 s))) (mul l (add f1 s)) (add h third), vF (sub (mul f2 l) (mul l (add f1 s))) (mul l (add f1 s)) h, vF (sub (mul f2 l) (mul l (add f1 s))) (mul l (add f1 s)) (sub h third))
  else (vF (sub (mul f2 l) (sub (add l s) (mul l s))) (sub (add l s) (mul l s)) (add h third), vF (sub (mul f2 l) (sub (add l s) (mul l s))) (sub (add l s) (mul l s)) h, vF (sub (mul f2 l) (sub (add l s) (mul l s))) (sub (add l s) (mul l s)) (sub h third))
noncomputable def hsvG (r g b mx mn rng : UInt64) : Option F3 :=
  if (cmp mn mx == some .eq) = true then some (0, 0, mx) else
  if isZero mx = true then none else if isZero rng = true then none else some (hueF r g b mx rng, div rng mx, mx)
noncomputable def hsvF (r g b : UInt64) : Option F3 := hsvG r g b (mx3 r g b) (mn3 r g b) (sub (mx3 r g b) (mn3 r g b))
noncomputable def vrgbG (v p q t : UInt64) (i : Int) : Option F3 :=
  if i.fmod 6 = 0 then some (v, t, p) else
  if i.fmod 6 = 1 then some (q, v, p) else
  if i.fmod 6 = 2 then some (p, v, t) else
  if i.fmod 6 = 3 then some (p, q, v) else
  if i.fmod 6 = 4 then some (t, p, v) else
  if i.fmod 6 = 5 then some (v, p, q) else none
noncomputable def vrgbF (h s v : UInt64) : Option F3 :=
  if (cmp s 0 == some .eq) = true then some (v, v, v) else
  if isFinite (mul h f6) = true then
    if (Flt.toInt truncOf (mul h f6)).natAbs < 2 ^ 1024 - 2 ^ 970 then
      vrgbG v (mul v (sub f1 s)) (mul v (sub f1 (mul s (sub (mul h f6) (ofInt (Flt.toInt truncOf (mul h f6)))))))
        (mul v (sub f1 (mul s (sub f1 (sub (mul h f6) (ofInt (Flt.toInt truncOf (mul h f6)))))))) (Flt.toInt truncOf (mul h f6))
    else none
  else none
theorem ite_t {α : Type} {c : Prop} [Decidable c] {a b x : α} (h : c) (e : (if c then a else b) = x) : a = x := (if_pos h).symm.trans e
theorem ite_f {α : Type} {c : Prop} [Decidable c] {a b x : α} (h : ¬ c) (e : (if c then a else b) = x) : b = x := (if_neg h).symm.trans e
theorem ff_nt {b : Bool} (h : b = false) : ¬ b = true := fun e => absurd (h.symm.trans e) (by decide)
theorem hue_1 {r g b mx rng l c : UInt64} {y : Option F3} (h : (cmp r mx == some .eq) = true) (e : some (hueF r g b mx rng, l, c) = y) : some ((divmod (div (sub (div (sub mx b) rng) (div (sub mx g) rng)) f6) f1).2, l, c) = y := by
  unfold hueF at e; rw [if_pos h] at e; exact e
theorem hue_2 {r g b mx rng l c : UInt64} {y : Option F3} (h : ¬ (cmp r mx == some .eq) = true) (h2 : (cmp g mx == some .eq) = true) (e : some (hueF r g b mx rng, l, c) = y) : some ((divmod (div (sub (add f2 (div (sub mx r) rng)) (div (sub mx b) rng)) f6) f1).2, l, c) = y := by
  unfold hueF at e; rw [if_neg h, if_pos h2] at e; exact e
theorem hue_3 {r g b mx rng l c : UInt64} {y : Option F3} (h : ¬ (cmp r mx == some .eq) = true) (h2 : ¬ (cmp g mx == some .eq) = true) (e : some (hueF r g b mx rng, l, c) = y) : some ((divmod (div (sub (add f4 (div (sub mx g) rng)) (div (sub mx r) rng)) f6) f1).2, l, c) = y := by
  unfold hueF at e; rw [if_neg h, if_neg h2] at e; exact e
theorem fin_nan {x : UInt64} (h : Float64.isNaN x = true) : ¬ Float64.isFinite x = true := by
  unfold Float64.isNaN at h; unfold Float64.isFinite
  cases e : decode x <;> rw [e] at h <;> simp at h ⊢
theorem fin_inf {x : UInt64} (h : Float64.isInf x = true) : ¬ Float64.isFinite x = true := by
  unfold Float64.isInf at h; unfold Float64.isFinite
  cases e : decode x <;> rw [e] at h <;> simp at h ⊢
theorem ln_9 : True := by
  (k_with "m:itesF" => (repeat (first | (replace hF := ite_t (by k_extra "m:cond") hF) | (replace hF := ite_f (by k_extra "m:cond") hF))))
  (k_with "m:cond" => first | exact fin_nan (by assumption) | exact fin_inf (by assumption) | exact Nat.not_lt.mpr (by assumption) | assumption | exact ff_nt (by assumption))
  trivial

section
variable {w : World} {p : Program} {loose : List Str} {mean : ExcName → Option Value} {mg mb : Str → Option Value}
theorem v_c {news : Led} {a b c : UInt64} {ta tb tc : Tok} :
   Claim w p loose mean mg mb (.ref 59) 1 [.float a ta, .float b tb, .float c tc] news (fun K => ∀ t1, K [] (.float (vF a b c) t1)) := by
  (revert w p loose mean mg mb news a b c ta tb tc; (first | (k_dflt (refine' (us8 neW neProg neLs neMean neFr neFr neLed neU ?z9sl ((?_ : L8 _ _ _ _ _ _ _ _ _) () ()) :); (case z9sl => k_extra "m:slot"); intros u8 w p loose mean mg mb news a u9; clear u8 u9; k_extra "m:cl")) | (refine (sk8 neW neProg neLs neMean neFr neFr neLed neU ((?_ : ∀ (w : World) (p : Program) (loose : List Str) (mean : ExcName → Option Value) (mg : Str → Option Value) (mb : Str → Option Value) (news : Led) (a : UInt64), _) _ _ _ _ _ _ _ _) :); intros w p loose mean mg mb news a)); (first | (k_dflt (refine' (us5 neU neU neTok neTok neTok ?z9sl ((?_ : L5 _ _ _ _ _ _) () ()) :); (case z9sl => k_extra "m:slot"); intros u8 b c ta tb tc u9; clear u8 u9; k_extra "m:cl")) | (refine (sk5 neU neU neTok neTok neTok ((?_ : ∀ (b : UInt64) (c : UInt64) (ta : Tok) (tb : Tok) (tc : Tok), _) _ _ _ _ _) :); intros b c ta tb tc)))
  k_extra "m:enter"
  k_steps
  all_goals (refine m_retF (Q := Q) (s := s) (fun t => hret t) ?_ (by k_asm) (by k_asm))
  all_goals (unfold vF; k_extra "m:ites")
theorem hls_c {news : Led} {r g b h l c : UInt64} {ta tb tc : Tok} (hF : hlsF r g b = some (h, l, c)) :
   Claim w p loose mean mg mb (.ref 45) 1 [.float r ta, .float g tb, .float b tc] news (fun K => ∀ x t1 t2 t3, K [(x, tupO #[.float h t1, .float l t2, .float c t3])] (.ref x)) := by
  (revert w p loose mean mg mb news r g b h l c ta tb tc; (first | (k_dflt (refine' (us8 neW neProg neLs neMean neFr neFr neLed neU ?z9sl ((?_ : L8 _ _ _ _ _ _ _ _ _) () ()) :); (case z9sl => k_extra "m:slot"); intros u8 w p loose mean mg mb news r u9; clear u8 u9; k_extra "m:cl")) | (refine (sk8 neW neProg neLs neMean neFr neFr neLed neU ((?_ : ∀ (w : World) (p : Program) (loose : List Str) (mean : ExcName → Option Value) (mg : Str → Option Value) (mb : Str → Option Value) (news : Led) (r : UInt64), _) _ _ _ _ _ _ _ _) :); intros w p loose mean mg mb news r)); (first | (k_dflt (refine' (us8 neU neU neU neU neU neTok neTok neTok ?z9sl ((?_ : L8 _ _ _ _ _ _ _ _ _) () ()) :); (case z9sl => k_extra "m:slot"); intros u8 g b h l c ta tb tc u9; clear u8 u9; k_extra "m:cl")) | (refine (sk8 neU neU neU neU neU neTok neTok neTok ((?_ : ∀ (g : UInt64) (b : UInt64) (h : UInt64) (l : UInt64) (c : UInt64) (ta : Tok) (tb : Tok) (tc : Tok), _) _ _ _ _ _ _ _ _) :); intros g b h l c ta tb tc)); intros hF)
  k_extra "m:enter"
  k_steps
  all_goals (unfold hlsF hlsG at hF; k_extra "m:itesF")
  all_goals (first | (exfalso; cases hF; done) | ((first | (replace hF := hue_1 (by k_extra "m:cond") hF) | (replace hF := hue_2 (by k_extra "m:cond") (by k_extra "m:cond") hF) | (replace hF := hue_3 (by k_extra "m:cond") (by k_extra "m:cond") hF) | skip); cases hF; exact m_ret1 (Q := Q) (s := s) (hret _ _ _ _) (by k_asm) (by k_asm) (by k_asm)))
theorem hsv_c {news : Led} {r g b h l c : UInt64} {ta tb tc : Tok} (hF : hsvF r g b = some (h, l, c)) :
   Claim w p loose mean mg mb (.ref 66) 1 [.float r ta, .float g tb, .float b tc] news (fun K => ∀ x t1 t2 t3, K [(x, tupO #[.float h t1, .float l t2, .float c t3])] (.ref x)) := by
  (revert w p loose mean mg mb news r g b h l c ta tb tc; (first | (k_dflt (refine' (us8 neW neProg neLs neMean neFr neFr neLed neU ?z9sl ((?_ : L8 _ _ _ _ _ _ _ _ _) () ()) :); (case z9sl => k_extra "m:slot"); intros u8 w p loose mean mg mb news r u9; clear u8 u9; k_extra "m:cl")) | (refine (sk8 neW neProg neLs neMean neFr neFr neLed neU ((?_ : ∀ (w : World) (p : Program) (loose : List Str) (mean : ExcName → Option Value) (mg : Str → Option Value) (mb : Str → Option Value) (news : Led) (r : UInt64), _) _ _ _ _ _ _ _ _) :); intros w p loose mean mg mb news r)); (first | (k_dflt (refine' (us8 neU neU neU neU neU neTok neTok neTok ?z9sl ((?_ : L8 _ _ _ _ _ _ _ _ _) () ()) :); (case z9sl => k_extra "m:slot"); intros u8 g b h l c ta tb tc u9; clear u8 u9; k_extra "m:cl")) | (refine (sk8 neU neU neU neU neU neTok neTok neTok ((?_ : ∀ (g : UInt64) (b : UInt64) (h : UInt64) (l : UInt64) (c : UInt64) (ta : Tok) (tb : Tok) (tc : Tok), _) _ _ _ _ _ _ _ _) :); intros g b h l c ta tb tc)); intros hF)
  k_extra "m:enter"
  k_steps
  all_goals (unfold hsvF hsvG at hF; k_extra "m:itesF")
  all_goals (first | (exfalso; cases hF; done) | ((first | (replace hF := hue_1 (by k_extra "m:cond") hF) | (replace hF := hue_2 (by k_extra "m:cond") (by k_extra "m:cond") hF) | (replace hF := hue_3 (by k_extra "m:cond") (by k_extra "m:cond") hF) | skip); cases hF; exact m_ret1 (Q := Q) (s := s) (hret _ _ _ _) (by k_asm) (by k_asm) (by k_asm)))
theorem vrgb_c {news : Led} {r g b h l c : UInt64} {ta tb tc : Tok} (hF : vrgbF r g b = some (h, l, c)) :
   Claim w p loose mean mg mb (.ref 73) 1 [.float r ta, .float g tb, .float b tc] news (fun K => ∀ x t1 t2 t3, K [(x, tupO #[.float h t1, .float l t2, .float c t3])] (.ref x)) := by
  (revert w p loose mean mg mb news r g b h l c ta tb tc; (first | (k_dflt (refine' (us8 neW neProg neLs neMean neFr neFr neLed neU ?z9sl ((?_ : L8 _ _ _ _ _ _ _ _ _) () ()) :); (case z9sl => k_extra "m:slot"); intros u8 w p loose mean mg mb news r u9; clear u8 u9; k_extra "m:cl")) | (refine (sk8 neW neProg neLs neMean neFr neFr neLed neU ((?_ : ∀ (w : World) (p : Program) (loose : List Str) (mean : ExcName → Option Value) (mg : Str → Option Value) (mb : Str → Option Value) (news : Led) (r : UInt64), _) _ _ _ _ _ _ _ _) :); intros w p loose mean mg mb news r)); (first | (k_dflt (refine' (us8 neU neU neU neU neU neTok neTok neTok ?z9sl ((?_ : L8 _ _ _ _ _ _ _ _ _) () ()) :); (case z9sl => k_extra "m:slot"); intros u8 g b h l c ta tb tc u9; clear u8 u9; k_extra "m:cl")) | (refine (sk8 neU neU neU neU neU neTok neTok neTok ((?_ : ∀ (g : UInt64) (b : UInt64) (h : UInt64) (l : UInt64) (c : UInt64) (ta : Tok) (tb : Tok) (tc : Tok), _) _ _ _ _ _ _ _ _) :); intros g b h l c ta tb tc)); intros hF)
  k_extra "m:enter"
  k_steps
  all_goals (unfold vrgbF vrgbG at hF; k_extra "m:itesF")
  all_goals (first | (exfalso; cases hF; done) | (cases hF; exact m_ret1 (Q := Q) (s := s) (hret _ _ _ _) (by k_asm) (by k_asm) (by k_asm)))
theorem ln_10 : True := by
  (k_with "call ref" => ((with_reducible show wpAny _ _ (call (Value.ref 59) _ _) _ _ _); (k_here; k_dflt (refine' v_c _ _ _ _ _ _ _ _ _ _ _ _ _ _ _ _ _ ?k1 ?k2 ?k3 ?k4 ?k5 ?kK ?kd ?ku ?_; k_extra "m:std"; k_whole)); ((first | (k_dflt (refine' (us1 neTok ?z9sl ((?_ : L1 _ _) () ()) :); (case z9sl => k_extra "m:slot"); intros u8 t1 u9; clear u8 u9; k_extra "m:cl")) | (refine (sk1 neTok ((?_ : ∀ (t1 : Tok), _) _) :); intros t1))); k_extra "m:got0"))
  trivial
theorem rgb_c {news : Led} {h l c r g b : UInt64} {ta tb tc : Tok} (hF : rgbF h l c = (r, g, b)) :
   Claim w p loose mean mg mb (.ref 52) 2 [.float h ta, .float l tb, .float c tc] news (fun K => ∀ x t1 t2 t3, K [(x, tupO #[.float r t1, .float g t2, .float b t3])] (.ref x)) := by
  (revert w p loose mean mg mb news h l c r g b ta tb tc; (first | (k_dflt (refine' (us8 neW neProg neLs neMean neFr neFr neLed neU ?z9sl ((?_ : L8 _ _ _ _ _ _ _ _ _) () ()) :); (case z9sl => k_extra "m:slot"); intros u8 w p loose mean mg mb news h u9; clear u8 u9; k_extra "m:cl")) | (refine (sk8 neW neProg neLs neMean neFr neFr neLed neU ((?_ : ∀ (w : World) (p : Program) (loose : List Str) (mean : ExcName → Option Value) (mg : Str → Option Value) (mb : Str → Option Value) (news : Led) (h : UInt64), _) _ _ _ _ _ _ _ _) :); intros w p loose mean mg mb news h)); (first | (k_dflt (refine' (us8 neU neU neU neU neU neTok neTok neTok ?z9sl ((?_ : L8 _ _ _ _ _ _ _ _ _) () ()) :); (case z9sl => k_extra "m:slot"); intros u8 l c r g b ta tb tc u9; clear u8 u9; k_extra "m:cl")) | (refine (sk8 neU neU neU neU neU neTok neTok neTok ((?_ : ∀ (l : UInt64) (c : UInt64) (r : UInt64) (g : UInt64) (b : UInt64) (ta : Tok) (tb : Tok) (tc : Tok), _) _ _ _ _ _ _ _ _) :); intros l c r g b ta tb tc)); intros hF)
  k_extra "m:enter"
  k_steps
  all_goals (unfold rgbF at hF; k_extra "m:itesF")
  all_goals (first | (cases hF; exact m_ret1 (Q := Q) (s := s) (hret _ _ _ _) (by k_asm) (by k_asm) (by k_asm)))
end
end PC3
section PC3b
open Float64
/-- a colour's part as a float -/
noncomputable def q64 (a : Int) : UInt64 := ofFrac (decide (a < 0) != decide ((64 : Int) < 0)) a.natAbs (64 : Int).natAbs
noncomputable abbrev f128 : UInt64 := ofInt 128
/-- int(x * 128): the number k, and (k + 1) // 2 is c -/
noncomputable def rndB (x : UInt64) (c : Int) : Bool := isFinite (mul x f128) && (decide (0 ≤ Flt.toInt truncOf (mul x f128)) && (decide (Flt.toInt truncOf (mul x f128) ≤ 1000) && decide ((Flt.toInt truncOf (mul x f128) + 1).fdiv 2 = c)))
@[irreducible] noncomputable def rk (x : UInt64) : Int := Flt.toInt truncOf (mul x f128)
theorem rk_def (x : UInt64) : rk x = Flt.toInt truncOf (mul x f128) := by unfold rk; rfl
theorem rndB_out {x : UInt64} {c : Int} (h : rndB x c = true) : isFinite (mul x f128) = true ∧ (0 ≤ rk x ∧ rk x ≤ 1000) ∧ Int.fdiv (rk x + 1) 2 = c := by
  unfold rndB at h
  simp only [Bool.and_eq_true, decide_eq_true_eq] at h
  rw [rk_def]
  exact ⟨h.1, ⟨h.2.1, h.2.2.1⟩, h.2.2.2⟩
/-- a third of a turn by rgb_to_hls and hls_to_rgb brings (a, b, c) to (a', b', c') -/
noncomputable def turnB (a b c a' b' c' : Int) : Bool := match hlsF (q64 a) (q64 b) (q64 c) with
  | none => false
  | some (h, l, s) => match rgbF (add h third) l s with
    | (x, y, z) => rndB x a' && (rndB y b' && rndB z c')
theorem turnB_out {a b c a' b' c' : Int} (h : turnB a b c a' b' c' = true) : ∃ hu l s x y z, hlsF (q64 a) (q64 b) (q64 c) = some (hu, l, s) ∧ rgbF (add hu third) l s = (x, y, z) ∧ rndB x a' = true ∧ rndB y b' = true ∧ rndB z c' = true := by
  unfold turnB at h
  split at h
  · cases h
  · rename_i hu l s e1
    split at h
    rename_i x y z e2
    simp only [Bool.and_eq_true] at h
    exact ⟨hu, l, s, x, y, z, e1, e2, h.1, h.2.1, h.2.2⟩
theorem q64_fin : ∀ n : Nat, n < 128 → isInf (ofFrac (decide ((n : Int) < 0) != decide ((64 : Int) < 0)) n 64) = false := by decide +kernel
section
variable {prog : Program} {w : World} {A : Around} {E : Value → Shared → Prop} {s : Shared}
theorem div64 {a : Int} {t u : Tok} {Q : Value → Shared → Prop} (ha : 0 ≤ a ∧ a < 128) (h : Q (.float (q64 a) s.toks) { s with toks := s.toks + 1 }) : wpAny (model prog w) A (binaryOp .Div (.int a t) (.int 64 u)) Q E s := by
  refine AutoIntOps.truediv_2 (by decide) ?_ h
  have e := q64_fin a.toNat (by omega)
  rw [show ((a.toNat : Nat) : Int) = a by omega] at e
  rw [show a.natAbs = a.toNat by omega, show (64 : Int).natAbs = 64 from rfl, e]
  exact Bool.false_ne_true
theorem div13 {t u : Tok} {Q : Value → Shared → Prop} (h : Q (.float third s.toks) { s with toks := s.toks + 1 }) : wpAny (model prog w) A (binaryOp .Div (.int 1 t) (.int 3 u)) Q E s := by
  have e : Float64.ofFrac (decide ((1 : Int) < 0) != decide ((3 : Int) < 0)) (1 : Int).natAbs (3 : Int).natAbs = third := by decide +kernel
  refine AutoIntOps.truediv_2 (by decide) ?_ (show Q (.float (Float64.ofFrac (decide ((1 : Int) < 0) != decide ((3 : Int) < 0)) (1 : Int).natAbs (3 : Int).natAbs) s.toks) { s with toks := s.toks + 1 } by rw [e]; exact h)
  rw [e]; decide +kernel
theorem fdiv_as {X d c : Int} {t u : Tok} {Q : Value → Shared → Prop} (e : Int.fdiv X d = c) (hd : 0 < d ∧ d ≤ 1000000) (h : Q (.int c s.toks) { s with toks := s.toks + 1 }) : wpAny (model prog w) A (binaryOp .FloorDiv (.int X t) (.int d u)) Q E s := by
  subst e
  exact floordiv_int (by omega) h (Or.inl (PyProof.noPylong_small (by omega)))
theorem int_fl {x : UInt64} {k : Int} {u : Tok} {Q : Value → Shared → Prop} (hf : isFinite x = true) (he : Flt.toInt truncOf x = k) (h : Q (.int k s.toks) { s with toks := s.toks + 1 }) : wpAny (model prog w) A (call (.type "int") [.float x u]) Q E s := by
  subst he
  cases hd : decode x with
  | fin sg m e =>
    refine call_int_float hd ?_
    have : Flt.toInt truncOf x = truncOf sg m e := by unfold Flt.toInt; rw [hd]
    rw [← this]; exact h
  | nan => unfold Float64.isFinite at hf; rw [hd] at hf; cases hf
  | inf _ => unfold Float64.isFinite at hf; rw [hd] at hf; cases hf
theorem int_rnd {x : UInt64} {c : Int} {u : Tok} {Q : Value → Shared → Prop} (hr : rndB x c = true) (h : Q (.int (rk x) s.toks) { s with toks := s.toks + 1 }) : wpAny (model prog w) A (call (.type "int") [.float (mul x f128) u]) Q E s :=
  int_fl (rndB_out hr).1 (rk_def x).symm h
theorem fdiv_rnd {x : UInt64} {c : Int} {t u : Tok} {Q : Value → Shared → Prop} (hr : rndB x c = true) (h : Q (.int c s.toks) { s with toks := s.toks + 1 }) : wpAny (model prog w) A (binaryOp .FloorDiv (.int (rk x + 1) t) (.int 2 u)) Q E s :=
  fdiv_as (rndB_out hr).2.2 (by decide) h
end
end PC3b
section PComp
open LCg
section
variable {prog : Program} {w : World} {A : Around} {E : Value → Shared → Prop} {s : Shared} {h₀ : Heap} {L : Addr} {m : Str → Option Value} {env : Env}
noncomputable def TupIn (ax : Addr) (its : Array Value) (nw : Led) : Prop := (ax, tupO its) ∈ nw
/-- a comprehension's source that is a made tuple -/
noncomputable def SrcT (prog : Program) (w : World) (A : Around) (h₀ : Heap) (L : Addr) (m : Str → Option Value) (env : Env) (elt : PySem.Expr) (x : Str) (scope : Scope) (cl : List (Str × Addr)) (Fin : Shared → List Value → Led → Prop) (xv : Value) (s₁ : Shared) : Prop :=
  ∃ ax its news, xv = .ref ax ∧ A.handled = none ∧ Fr h₀ L s₁.heap m ∧ News h₀ L s₁.heap news ∧ TupIn ax its news ∧ its.size ≤ sizeLine ∧
    ∀ g, CompRest prog w A h₀ L m env elt x scope cl { s₁ with heap := g } (TupIn ax its) (fun i v => its[i]? = some v) (Fin { s₁ with heap := g }) its.size 0 [] news
theorem SrcT.intro {elt : PySem.Expr} {x : Str} {scope : Scope} {cl : List (Str × Addr)} {Fin : Shared → List Value → Led → Prop} {ax : Addr} {its : Array Value} {news : Led} {s₁ : Shared}
    (hh : A.handled = none) (F : Fr h₀ L s₁.heap m) (N : News h₀ L s₁.heap news) (hm : (ax, tupO its) ∈ news) (hsz : its.size ≤ sizeLine)
    (h : ∀ g, CompRest prog w A h₀ L m env elt x scope cl { s₁ with heap := g } (TupIn ax its) (fun i v => its[i]? = some v) (Fin { s₁ with heap := g }) its.size 0 [] news) :
    SrcT prog w A h₀ L m env elt x scope cl Fin (.ref ax) s₁ := ⟨ax, its, news, rfl, hh, F, N, hm, hsz, h⟩
theorem tup_st {ax I : Addr} {its : Array Value} : ∀ i (h h' : Heap) (o : Obj) (nw : Led), (h.IsTupleIter I ax i ∧ h.IsTuple ax its) → h.get? I = some o → h'.get? I = some o → (∀ b o, h₀.get? b = some o → h'.get? b = some o) → News h₀ L h' nw → TupIn ax its nw → (h'.IsTupleIter I ax i ∧ h'.IsTuple ax its) := by
  intro i h h' o nw st e e' _ N hm
  refine ⟨?_, ⟨_, (N _ hm).1, rfl, 0, rfl⟩⟩
  obtain ⟨o', q, r⟩ := st.1
  rw [e] at q; cases q
  exact ⟨o, e', r⟩
theorem comp_tup {elt iter : PySem.Expr} {x : Str} {px : Pos} {scope : Scope} {cl : List (Str × Addr)} {pos : Pos} {Q : Value → Shared → Prop} (_F₀ : Fr h₀ L s.heap m)
    (hclos : closureFor scope env = pure cl) (hcell : ∀ y ∈ scope.names, y.2 ≠ .cell) (hkind : scope.kind = .function)
    (hnames : ∀ y ∈ scope.names, y.2 = .local → scope.names.lookup y.1 = some .local) (hx : scope.names.lookup x = some .local)
    (h : wpAny (model prog w) A (eval iter env) (SrcT prog w A h₀ L m env elt x scope cl (fun s₂ => FinE h₀ L m s₂ Q)) E s)
    (hs : ∀ x, foldedSetIterable iter env x = pure x := by intro _; rfl) :
    wpAny (model prog w) A (eval (.ListComp elt [⟨.Name x px, iter, [], 0⟩] scope pos) env) Q E s := by
  rw [eval_ListComp]
  refine wpAny_comprehension_free (use := none) rfl hs hclos hkind hnames (wpAny_mono h (fun xv s₁ h₁ => ?_) fun _ _ e => e)
  obtain ⟨ax, its, news, rfl, hh, F, N, hm, hsz, R⟩ := h₁
  have hT : s₁.heap.IsTuple ax its := ⟨_, (N _ hm).1, rfl, 0, rfl⟩
  have hlt : ax < s₁.heap.objs.size := Heap.lt_size (N _ hm).1
  refine wpAny_pyIter_tuple hT ?_
  have up : ∀ b o, s₁.heap.get? b = some o → (s₁.heap.push { cls := .type "tuple_iterator", data := .fields #[.ref ax, .int 0 0] }).get? b = some o := fun b o e => Heap.get?_push_of_some _ e
  refine block_U (Walks.tuple hh s₁.heap.objs.size ax (Nat.ne_of_lt hlt) its) hsz (fun i h st => by obtain ⟨o, e, _⟩ := st.1; exact ⟨o, e⟩) tup_st hcell hkind hx ⟨⟨_, Heap.get?_push_size _ rfl, rfl, rfl⟩, hT.push _⟩ (fun b hb => ?_)
    (F.keeps up) (N.grown up) (Nat.ne_of_lt F.ns.lt) (next_is_new F) (fun p hp => Nat.ne_of_lt (Heap.lt_size (N p hp).1)) hm (R _) ?_
  · show b < (s₁.heap.push _).objs.size
    rw [Heap.size_push]
    rcases List.mem_cons.mp hb with rfl | hb
    · exact Nat.lt_succ_self _
    · rw [List.mem_singleton.mp hb]; exact Nat.lt_succ_of_lt hlt
  · intro D C h tk m' ys news' F' N' o1 hn hC₀ hD₀ hCL hDL hCD offC fin
    refine ⟨m', hn, fun h'' hs'' => fin D h'' tk (F'.change hs'' hCL hC₀) (fun p hp => ?_) o1⟩
    refine ⟨hs''.extBut _ _ ?_ (N' p hp).1, (N' p hp).2⟩
    rcases List.mem_cons.mp hp with rfl | hp
    · exact Ne.symm hCD
    · exact offC p hp
end
theorem ln_11 : True := by
  (k_with "m:src" => (unfold TupIn; k_mem))
  (k_with "m:off" => ((simp only [LCg.Off3, and_true]); first | with_reducible assumption | (refine ⟨⟨?_, ?_, ?_⟩, ?_⟩ <;> first | k_extra "m:part" | lcg_off | k_ne)))
  (k_with "m:comptup" => (k_here; k_dflt (refine comp_tup (by k_asm) (by rfl) (by decide) (by rfl) (by decide) (by rfl) ?_)))
  (k_with "SrcT" => (k_here; k_dflt ((refine SrcT.intro (by rfl) (by k_asm) (by k_asm) (by k_mem) (by first | size_fits | exact Nat.le_of_ble_eq_true rfl) ?_); ((first | (k_dflt (refine' (us1 neHeap ?z9sl ((?_ : L1 _ _) () ()) :); (case z9sl => k_extra "m:slot"); intros u8 g' u9; clear u8 u9; k_extra "m:cl")) | (refine (sk1 neHeap ((?_ : ∀ (g' : Heap), _) _) :); intros g'))); lcg_lit)))
  trivial
end PComp
section PCompT
open LCg
section
variable {prog : Program} {w : World} {A : Around} {E : Value → Shared → Prop} {s : Shared} {h₀ : Heap} {L : Addr} {m : Str → Option Value} {env : Env}
/-- a comprehension over a made tuple, given a name -/
theorem assign_tup {elt iter : PySem.Expr} {x y : Str} {px py : Pos} {scope : Scope} {cl : List (Str × Addr)} {pos spos : Pos} {Q : Flow → Shared → Prop} (_F₀ : Fr h₀ L s.heap m) (hLe : env.locals = L)
    (hsw : swapsWith (.ListComp elt [⟨.Name x px, iter, [], 0⟩] scope pos) (some (.Name y py)) spos.line env = pure true)
    (hclos : closureFor scope env = pure cl) (hcell : ∀ z ∈ scope.names, z.2 ≠ .cell) (hkind : scope.kind = .function)
    (hnames : ∀ z ∈ scope.names, z.2 = .local → scope.names.lookup z.1 = some .local) (hx : scope.names.lookup x = some .local)
    (hy : env.kindOf y = some .local) (hp : (env.scope.kind == .class || (env.scope.kind == .module && env.locals != env.globals)) = false)
    (h : wpAny (model prog w) A (eval iter env) (SrcT prog w A h₀ L m env elt x scope cl (fun s₂ => FinA h₀ L m s₂ y Q)) E s)
    (hs : ∀ x, foldedSetIterable iter env x = pure x := by intro _; rfl) :
    wpAny (model prog w) A (exec (.Assign [.Name y py] (.ListComp elt [⟨.Name x px, iter, [], 0⟩] scope pos) spos) env) Q E s := by
  subst hLe
  rw [exec_Assign_Name_used _ _ _ _ hsw]
  refine wpAny_bind (wpAny_standAt (wpAny_bind ?_))
  show wpAny _ A (do let _ ← comprehension (.ListComp elt [⟨.Name x px, iter, [], 0⟩] scope pos) scope env _ (newList []) false (eval iter env) (some (assign (.Name y py) env))) _ _ s
  refine wpAny_bind (wpAny_mono (wpAny_comprehension_free (use := some (assign (.Name y py) env)) (Q := fun _ s' => Q .next s') rfl hs hclos hkind hnames
    (wpAny_mono h (fun xv s₁ h₁ => ?_) fun _ _ e => e)) (fun _ s' hq => wpAny_pure (wpAny_pure hq)) fun _ _ e => e)
  obtain ⟨ax, its, news, rfl, hh, F, N, hm, hsz, R⟩ := h₁
  have hT : s₁.heap.IsTuple ax its := ⟨_, (N _ hm).1, rfl, 0, rfl⟩
  have hlt : ax < s₁.heap.objs.size := Heap.lt_size (N _ hm).1
  refine wpAny_pyIter_tuple hT ?_
  have up : ∀ b o, s₁.heap.get? b = some o → (s₁.heap.push { cls := .type "tuple_iterator", data := .fields #[.ref ax, .int 0 0] }).get? b = some o := fun b o e => Heap.get?_push_of_some _ e
  refine block_U (Walks.tuple hh s₁.heap.objs.size ax (Nat.ne_of_lt hlt) its) hsz (fun i h st => by obtain ⟨o, e, _⟩ := st.1; exact ⟨o, e⟩) tup_st hcell hkind hx ⟨⟨_, Heap.get?_push_size _ rfl, rfl, rfl⟩, hT.push _⟩ (fun b hb => ?_)
    (F.keeps up) (N.grown up) (Nat.ne_of_lt F.ns.lt) (next_is_new F) (fun p hp => Nat.ne_of_lt (Heap.lt_size (N p hp).1)) hm (R _) ?_
  · show b < (s₁.heap.push _).objs.size
    rw [Heap.size_push]
    rcases List.mem_cons.mp hb with rfl | hb
    · exact Nat.lt_succ_self _
    · rw [List.mem_singleton.mp hb]; exact Nat.lt_succ_of_lt hlt
  · intro D C h' tk m' ys news' F' N' o1 hn hC₀ hD₀ hCL hDL hCD offC fin
    show wpAny _ A (assign (.Name y py) env (.ref D)) _ _ _
    refine wpAny_assign_Name (wpAny_storeName_local hy F'.ns (fun h₂ hn₂ hs₂ => ?_) hp)
    have hL₀ : h₀.get? env.locals = none := Heap.get?_none_of_le F'.above
    have F₂ : Fr h₀ env.locals h₂ (fun z => if z = y then some (.ref D) else m z) := ⟨hn₂, fun b o e => hs₂.extBut b o (fun q => by rw [q, hL₀] at e; cases e) (F'.keep b o e), F'.above⟩
    refine ⟨m', hn.sameBut hs₂ hCL, fun h'' hs'' => fin D h'' _ (F₂.change hs'' hCL hC₀) (fun p hp => ?_) o1⟩
    have z : h₂.get? p.1 = some p.2 := hs₂.extBut _ _ (N' p hp).2.1 (N' p hp).1
    refine ⟨hs''.extBut _ _ ?_ z, (N' p hp).2⟩
    rcases List.mem_cons.mp hp with rfl | hp
    · exact Ne.symm hCD
    · exact offC p hp
end
theorem ln_12 : True := by
  (k_with "m:asgtup" => (k_here; k_dflt (refine assign_tup (by k_asm) (by rfl) (by with_unfolding_all rfl) (by with_unfolding_all rfl) (by decide) (by rfl) (by decide) (by rfl) (by rfl) (by rfl) ?_)))
  trivial
end PCompT
section PCompJ
open PySem.Spec PySem.Calls
open LCg
noncomputable abbrev cellN : Obj := { cls := .type "cell", data := .cell none }
noncomputable def newCells (q : Option Str) (C : Addr) : Led := match q with | none => [] | some _ => [(C + 1, cellN)]
noncomputable def moreCells (q : Option Str) (C : Addr) (cl : List (Str × Addr)) : List (Str × Addr) := match q with | none => cl | some x => (x, C + 1) :: cl
noncomputable def CellsBy (q : Option Str) (scope : Scope) (cl : List (Str × Addr)) : Prop := (∀ n, cellsFrom (n + 1) scope.names cl = moreCells q n cl) ∧ ∀ h : Heap, pushCells h scope.names = match q with | none => h | some _ => h.push cellN
/-- how a turn of a comprehension ends -/
noncomputable def TurnC (h₀ : Heap) (L : Addr) (m : Str → Option Value) (s₁ : Shared) (I : Addr) (oI : Obj) (C D : Addr) (ys : List Value) (J : List Value → Led → Prop) (y : Value) (s₂ : Shared) : Prop :=
  ∃ h' tk oC news', s₂ = { s₁ with heap := h', toks := tk } ∧ Fr h₀ L h' m ∧ News h₀ L h' ((I, oI) :: (C, oC) :: (D, lst ys) :: news') ∧ (∃ m₂, NsObj oC m₂) ∧ Off3 I C D news' ∧ J (ys ++ [y]) news'
section
variable {prog : Program} {w : World} {A : Around} {E : Value → Shared → Prop} {s : Shared} {h₀ : Heap} {L : Addr} {m : Str → Option Value} {env : Env}
theorem block_J {elt target iter : PySem.Expr} {scope : Scope} {cl : List (Str × Addr)} {q : Option Str} {pos : Pos} {s₂ : Shared} {I : Addr} {fp : List Addr} {n : Nat} {P : Nat → Value → Prop} {St : Nat → Heap → Prop} {S : Led → Prop} {news : Led}
    {RR : Value → Addr → Result → Shared → Prop} (J : Addr → Nat → List Value → Led → Prop)
    (W : Walks prog w A I fp [I] n P St) (hsz : n ≤ sizeLine) (hIo : ∀ i h, St i h → ∃ o, h.get? I = some o)
    (hSt : ∀ i h h' o nw, St i h → h.get? I = some o → h'.get? I = some o → (∀ b o, h₀.get? b = some o → h'.get? b = some o) → News h₀ L h' nw → S nw → St i h')
    (hgo : ∀ i v (s : Shared) (Q : Unit → Shared → Prop) (E : Value → Shared → Prop), P i v → St (i + 1) s.heap → Q () s → wpAny (model prog w) A (letOwnedTupleGo target (.ref I) v) Q E s)
    (hq : CellsBy q scope cl) (hst : St 0 s₂.heap) (hfp : ∀ b ∈ fp, b < s₂.heap.objs.size)
    (F : Fr h₀ L s₂.heap m) (N : News h₀ L s₂.heap news) (hIL : L ≠ I) (hI₀ : h₀.get? I = none) (off : ∀ p ∈ news, p.1 ≠ I)
    (hS : ∀ C i ys nw, J C i ys nw → S nw) (hj : ∀ C, (∀ p ∈ news, p.1 < C) → J C 0 [] (newCells q C ++ news))
    (turn : ∀ C D oI oC i ys v m₂ news₁ h tk (E' : Value → Shared → Prop), i < n → P i v → J C i ys news₁ → NsObj oC m₂ → Fr h₀ L h m → News h₀ L h ((I, oI) :: (C, oC) :: (D, lst ys) :: news₁) → Off3 I C D news₁ → ((@Ne Nat I C) ∧ (@Ne Nat I D) ∧ (@Ne Nat C D)) →
      wpAny (model prog w) A (assign target (compEnvC scope (moreCells q C cl) C env) v) (fun _ s' => wpAny (model prog w) A (eval elt (compEnvC scope (moreCells q C cl) C env)) (TurnC h₀ L m { s₂ with heap := h, toks := tk } I oI C D ys (J C (i + 1))) E' s') E' { s₂ with heap := h, toks := tk })
    (hRR : ∀ D C h tk m' ys news', Fr h₀ L h m → News h₀ L h ((D, lst ys) :: news') → Off1 D news' → h.Ns C m' → h₀.get? C = none → h₀.get? D = none → C ≠ L → D ≠ L → C ≠ D → (∀ p ∈ news', p.1 ≠ C) → J C n ys news' → RR (.ref D) C (.ok .next) { s₂ with heap := h, toks := tk }) :
    wpAny (model prog w) A (newList []) (fun acc s₃ => wpAny (model prog w) A (newFunctionEnv scope env.globals cl [] env.qual none .none (some env)) (fun cenv s₄ =>
      codeAny (model prog w) A (.compStart (.ListComp elt [⟨target, iter, [], 0⟩] scope pos) 0 (.ref I) acc { cenv with scope := relabel scope env }) (RR acc cenv.locals) s₄) E s₃) E s₂ := by
  refine wpAny_newObj_type ?_
  generalize hH2 : s₂.heap.push { cls := .type "list", dict := none, data := .seq ([] : List Value).toArray } = H2
  have hC : H2.objs.size = s₂.heap.objs.size + 1 := by rw [← hH2, Heap.size_push]
  simp only [newFunctionEnv, Option.isSome_some, if_true]
  refine wpAny_bind (wpAny_alloc ?_)
  refine wpAny_bind (wpAny_layCells _ (fun name kind cells => by cases hkc : kind == NameKind.cell <;> simp [hkc]) _ _ _ _ ?_)
  simp only [Heap.size_push]
  rw [hq.1 H2.objs.size, hq.2]
  refine wpAny_bind ?_
  rw [List.forIn_nil]
  refine wpAny_pure (wpAny_pure ?_)
  generalize hh₁ : (match q with | none => H2.push { cls := .type "dict", data := .dict #[] } | some _ => (H2.push { cls := .type "dict", data := .dict #[] }).push cellN) = h₁
  have hDC : s₂.heap.objs.size ≠ H2.objs.size := by rw [hC]; exact Nat.ne_of_lt (Nat.lt_succ_self _)
  have below : ∀ b, b < s₂.heap.objs.size → b ≠ H2.objs.size ∧ b ≠ s₂.heap.objs.size := fun b hb => ⟨by rw [hC]; exact Nat.ne_of_lt (Nat.lt_succ_of_lt hb), Nat.ne_of_lt hb⟩
  have hDf : s₂.heap.objs.size ∉ fp := fun hm => Nat.lt_irrefl _ (hfp _ hm)
  have hCf : H2.objs.size ∉ fp := fun hm => by have := hfp _ hm; rw [hC] at this; exact Nat.lt_irrefl _ (Nat.lt_of_succ_lt this)
  have hIf : I ∈ fp := W.sub I (List.mem_singleton.mpr rfl)
  have hIlt : I < s₂.heap.objs.size := hfp I hIf
  have up2 : ∀ b o, H2.get? b = some o → h₁.get? b = some o := by
    intro b o e
    rw [← hh₁]
    cases q with
    | none => exact Heap.get?_push_of_some _ e
    | some x => exact Heap.get?_push_of_some _ (Heap.get?_push_of_some _ e)
  have old : ∀ b o, s₂.heap.get? b = some o → h₁.get? b = some o := fun b o e => up2 b o (hH2 ▸ Heap.get?_push_of_some _ e)
  have hacc : h₁.get? s₂.heap.objs.size = some (lst []) := up2 _ _ (hH2 ▸ Heap.get?_push_size _ rfl)
  have hCob : h₁.get? H2.objs.size = some { cls := .type "dict", data := .dict #[] } := by
    rw [← hh₁]
    cases q with
    | none => exact Heap.get?_push_size _ rfl
    | some x => exact Heap.get?_push_of_some _ (Heap.get?_push_size _ rfl)
  have hns₁ : h₁.Ns H2.objs.size (fun _ => none) := by
    have z := Heap.Ns.new H2 (.type "dict")
    refine z.at' fun o e => ?_
    have e' : o = { cls := .type "dict", data := .dict #[] } := by
      have := Heap.get?_push_size (h := H2) (o := ({ cls := .type "dict", data := .dict #[] } : Obj)) rfl
      rw [this] at e; exact (Option.some.inj e).symm
    rw [e']; exact hCob
  have hst₁ : St 0 h₁ := W.frame _ _ _ hst fun b _ o e => old b o e
  have fresh : ∀ a, s₂.heap.objs.size ≤ a → s₂.heap.get? a = none := fun a ha => by
    cases e : s₂.heap.get? a with
    | none => rfl
    | some o' => exact absurd (Heap.lt_size e) (Nat.not_lt.mpr ha)
  have fresh₀ : ∀ a, s₂.heap.objs.size ≤ a → h₀.get? a = none := fun a ha => by
    cases e : h₀.get? a with
    | none => rfl
    | some o' => have := F.keep a o' e; rw [fresh a ha] at this; cases this
  have hD₀ : h₀.get? s₂.heap.objs.size = none := fresh₀ _ (Nat.le_refl _)
  have hC₀ : h₀.get? H2.objs.size = none := fresh₀ _ (by rw [hC]; exact Nat.le_succ _)
  have hLlt : L < s₂.heap.objs.size := F.ns.lt
  have hDL : s₂.heap.objs.size ≠ L := Ne.symm (below L hLlt).2
  have hCL : H2.objs.size ≠ L := Ne.symm (below L hLlt).1
  have hCI : I ≠ H2.objs.size := (below I hIlt).1
  have hDI : I ≠ s₂.heap.objs.size := (below I hIlt).2
  have hnew : ∀ p ∈ newCells q H2.objs.size, h₁.get? p.1 = some p.2 ∧ p.1 ≠ L ∧ h₀.get? p.1 = none ∧ p.1 ≠ I ∧ p.1 ≠ H2.objs.size ∧ p.1 ≠ s₂.heap.objs.size := by
    intro p hp
    cases q with
    | none => cases hp
    | some x =>
      rw [List.mem_singleton.mp hp]
      have e1 : (H2.push ({ cls := .type "dict", data := .dict #[] } : Obj)).objs.size = H2.objs.size + 1 := Heap.size_push ..
      refine ⟨by rw [← hh₁, ← e1]; exact Heap.get?_push_size _ rfl, ?_, fresh₀ _ (by rw [hC]; exact Nat.le_succ_of_le (Nat.le_succ _)), ?_, Nat.ne_of_gt (Nat.lt_succ_self _), ?_⟩
      · rw [hC]; exact Nat.ne_of_gt (Nat.lt_succ_of_lt (Nat.lt_succ_of_lt hLlt))
      · rw [hC]; exact Nat.ne_of_gt (Nat.lt_succ_of_lt (Nat.lt_succ_of_lt hIlt))
      · rw [hC]; exact Nat.ne_of_gt (Nat.lt_succ_of_lt (Nat.lt_succ_self _))
  have off₀ : Off3 I H2.objs.size s₂.heap.objs.size (newCells q H2.objs.size ++ news) := Off3.of fun p hp => by
    rcases List.mem_append.mp hp with hp | hp
    · exact ⟨(hnew p hp).2.2.2.1, (hnew p hp).2.2.2.2.1, (hnew p hp).2.2.2.2.2⟩
    · exact ⟨off p hp, (below _ (Heap.lt_size (N p hp).1)).1, (below _ (Heap.lt_size (N p hp).1)).2⟩
  have hj₀ := hj H2.objs.size (fun p hp => by rw [hC]; exact Nat.lt_succ_of_lt (Heap.lt_size (N p hp).1))
  have loop : ∀ s₃ : Shared, s₃ = { s₂ with heap := h₁ } →
      codeAny (model prog w) A (.compLoop (.ListComp elt [⟨target, iter, [], 0⟩] scope pos) 0 (.ref I) (.ref s₂.heap.objs.size) (compEnvC scope (moreCells q H2.objs.size cl) H2.objs.size env))
        (RR (.ref s₂.heap.objs.size) H2.objs.size) s₃ := by
    rintro s₃ rfl
    refine kcp_loop
      (fun k s' => ∃ h' tk i ys m' news', s' = { s₂ with heap := h', toks := tk } ∧ i ≤ n ∧ k = n + 1 - i ∧ ys.length = i ∧ St i h' ∧ Fr h₀ L h' m ∧ h'.Ns H2.objs.size m' ∧ News h₀ L h' ((s₂.heap.objs.size, lst ys) :: news') ∧
        Off3 I H2.objs.size s₂.heap.objs.size news' ∧ J H2.objs.size i ys news') ?_ (n + 1)
      ⟨h₁, _, 0, [], _, _, rfl, Nat.zero_le _, rfl, rfl, hst₁, F.keeps old, hns₁, fun p hp => ?_, off₀, hj₀⟩
    · rintro k s' ⟨h', tk, i, ys, m', news', rfl, hi, rfl, hyl, hst', F', hn', N', off', hJ⟩
      have off3 := off'.mem
      by_cases hlt : i < n
      · refine W.item i _ _ _ hlt hst' fun v h₂ tk₂ hPv hst₂ hk₂ => ?_
        have hn₂ : h₂.Ns H2.objs.size m' := hn'.at' fun o e => hk₂ _ o (by simpa using Ne.symm hCI) e
        obtain ⟨oI, heI⟩ := hIo _ _ hst₂
        obtain ⟨oC, heC, hoC⟩ := ns_obj hn₂
        have F₂ : Fr h₀ L h₂ m := fr_but F' hk₂ hIL hI₀
        have N₂ : News h₀ L h₂ ((s₂.heap.objs.size, lst ys) :: news') := news_but N' hk₂ fun p hp => by
          rcases List.mem_cons.mp hp with rfl | hp
          · exact Ne.symm hDI
          · exact (off3 p hp).1
        have N₃ : News h₀ L h₂ ((I, oI) :: (H2.objs.size, oC) :: (s₂.heap.objs.size, lst ys) :: news') := fun p hp => by
          rcases List.mem_cons.mp hp with rfl | hp
          · exact ⟨heI, Ne.symm hIL, hI₀⟩
          · rcases List.mem_cons.mp hp with rfl | hp
            · exact ⟨heC, hCL, hC₀⟩
            · exact N₂ p hp
        refine hgo i v _ _ _ hPv hst₂ ?_
        refine wpAny_mono (turn H2.objs.size s₂.heap.objs.size oI oC i ys v _ news' h₂ tk₂ _ hlt hPv hJ hoC F₂ N₃ off' ⟨hCI, hDI, Ne.symm hDC⟩) (fun _ s₃ h₃ => wpAny_mono h₃ (fun y s₄ h₄ => ?_) fun _ _ e => e) fun _ _ e => e
        obtain ⟨h₄, tk₄, oC₄, news₄, rfl, F₄, N₄, ⟨m₄, hoC₄⟩, off₄, J₄⟩ := h₄
        have zI := (N₄ (I, oI) List.mem_cons_self).1
        have zC := (N₄ (H2.objs.size, oC₄) (List.mem_cons_of_mem _ List.mem_cons_self)).1
        have zD := (N₄ (s₂.heap.objs.size, lst ys) (List.mem_cons_of_mem _ (List.mem_cons_of_mem _ List.mem_cons_self))).1
        have N₄' : News h₀ L h₄ news₄ := fun p hp => N₄ p (List.mem_cons_of_mem _ (List.mem_cons_of_mem _ (List.mem_cons_of_mem _ hp)))
        have hst₄ : St (i + 1) h₄ := hSt _ _ _ _ _ hst₂ heI zI F₄.keep N₄' (hS _ _ _ _ J₄)
        refine append_at (hsz := by show ys.toArray.size ≤ sizeLine; rw [List.size_toArray, hyl]; exact Nat.le_trans hi hsz) zD fun h₅ hs₅ hD₅ => ?_
        have off4 := off₄.mem
        refine ⟨n + 1 - (i + 1), by omega, h₅, tk₄, i + 1, ys ++ [y], _, news₄, rfl, hlt, rfl, by rw [List.length_append, List.length_singleton, hyl], W.frame _ _ _ hst₄ fun b hb o e => hs₅.extBut b o (fun q => hDf (q ▸ hb)) e, F₄.change hs₅ hDL hD₀,
          (hoC₄.ns zC).sameBut hs₅ (Ne.symm hDC), fun p hp => ?_, off₄, J₄⟩
        rcases List.mem_cons.mp hp with rfl | hp
        · exact ⟨hD₅.trans (congrArg some (lst_snoc ys y)), hDL, hD₀⟩
        · exact ⟨hs₅.extBut _ _ (off4 p hp).2.2 (N₄' p hp).1, (N₄' p hp).2⟩
      · obtain rfl : i = n := Nat.le_antisymm hi (Nat.not_lt.mp hlt)
        refine W.done _ _ _ hst' fun h₂ tk₂ hk₂ => ?_
        exact hRR _ _ h₂ tk₂ _ ys news' (fr_but F' hk₂ hIL hI₀) (news_but N' hk₂ fun p hp => by
          rcases List.mem_cons.mp hp with rfl | hp
          · exact Ne.symm hDI
          · exact (off3 p hp).1) off'.one (hn'.at' fun o e => hk₂ _ o (by simpa using Ne.symm hCI) e) hC₀ hD₀ hCL hDL (Ne.symm hDC) (fun p hp => (off3 p hp).2.1) hJ
    · rcases List.mem_cons.mp hp with rfl | hp
      · exact ⟨hacc, hDL, hD₀⟩
      · rcases List.mem_append.mp hp with hp | hp
        · exact ⟨(hnew p hp).1, (hnew p hp).2.1, (hnew p hp).2.2.1⟩
        · exact ⟨old _ _ (N p hp).1, (N p hp).2⟩
  exact codeAny_compStart_list (loop _ rfl) (W.self 0 _ _ _ hst₁ (loop _ rfl))
/-- what a comprehension's source must bring: the word J over the turn's number, what is gathered, the ledger -/
structure BodyJ (prog : Program) (w : World) (A : Around) (h₀ : Heap) (L : Addr) (m : Str → Option Value) (env : Env) (elt target : PySem.Expr) (scope : Scope) (cl : List (Str × Addr)) (q : Option Str) (Q : Value → Shared → Prop)
    (s₁ : Shared) (n : Nat) (P : Nat → Value → Prop) (S : Led → Prop) (news : Led) (J : Addr → Nat → List Value → Led → Prop) : Prop where
  src : ∀ C i ys nw, J C i ys nw → S nw
  start : ∀ C, (∀ p ∈ news, p.1 < C) → J C 0 [] (newCells q C ++ news)
  turn : ∀ I C D oI oC i ys v m₂ news₁ g h tk (E' : Value → Shared → Prop), i < n → P i v → J C i ys news₁ → NsObj oC m₂ → Fr h₀ L h m → News h₀ L h ((I, oI) :: (C, oC) :: (D, lst ys) :: news₁) → Off3 I C D news₁ → ((@Ne Nat I C) ∧ (@Ne Nat I D) ∧ (@Ne Nat C D)) →
      wpAny (model prog w) A (assign target (compEnvC scope (moreCells q C cl) C env) v) (fun _ s' => wpAny (model prog w) A (eval elt (compEnvC scope (moreCells q C cl) C env)) (TurnC h₀ L m { ({ s₁ with heap := g } : Shared) with heap := h, toks := tk } I oI C D ys (J C (i + 1))) E' s') E' { ({ s₁ with heap := g } : Shared) with heap := h, toks := tk }
  done : ∀ C D ys news' h tk, J C n ys news' → Fr h₀ L h m → News h₀ L h ((D, lst ys) :: news') → Off1 D news' → Q (.ref D) { s₁ with heap := h, toks := tk }
noncomputable def SrcJ (prog : Program) (w : World) (A : Around) (h₀ : Heap) (L : Addr) (m : Str → Option Value) (env : Env) (elt target : PySem.Expr) (scope : Scope) (cl : List (Str × Addr)) (q : Option Str) (Q : Value → Shared → Prop) (xv : Value) (s₁ : Shared) : Prop :=
  (∃ ax its news J, xv = .ref ax ∧ A.handled = none ∧ Fr h₀ L s₁.heap m ∧ News h₀ L s₁.heap news ∧ SrcAt h₀ ax its news ∧ its.size ≤ sizeLine ∧
    (∀ I i v (s : Shared) (Q : Unit → Shared → Prop) (E : Value → Shared → Prop), its[i]? = some v → s.heap.IsListIter I ax (i + 1) → Q () s → wpAny (model prog w) A (letOwnedTupleGo target (.ref I) v) Q E s) ∧
    BodyJ prog w A h₀ L m env elt target scope cl q Q s₁ its.size (fun i v => its[i]? = some v) (SrcAt h₀ ax its) news J) ∨
  (∃ r a b t u v n news J, xv = .ref r ∧ A.handled = none ∧ Fr h₀ L s₁.heap m ∧ News h₀ L s₁.heap news ∧ IsRange s₁.heap r a b 1 t u v ∧ Builtin.Range.small a b 1 = true ∧ Builtin.Range.rangeSize a b 1 = ((n : Nat) : Int) ∧ n ≤ sizeLine ∧
    (∀ I v (s : Shared) (Q : Unit → Shared → Prop) (E : Value → Shared → Prop), Q () s → wpAny (model prog w) A (letOwnedTupleGo target (.ref I) v) Q E s) ∧
    BodyJ prog w A h₀ L m env elt target scope cl q Q s₁ n (fun i v => ∃ t, v = .int (a + (i : Int)) t) (fun _ => True) news J)
theorem comp_J {elt target iter : PySem.Expr} {scope : Scope} {cl : List (Str × Addr)} (q : Option Str) {pos : Pos} {Q : Value → Shared → Prop} (_F₀ : Fr h₀ L s.heap m)
    (hclos : closureFor scope env = pure cl) (hkind : scope.kind = .function) (hq : CellsBy q scope cl)
    (hnames : ∀ y ∈ scope.names, y.2 = .local → scope.names.lookup y.1 = some .local)
    (h : wpAny (model prog w) A (eval iter env) (SrcJ prog w A h₀ L m env elt target scope cl q Q) E s)
    (hs : ∀ x, foldedSetIterable iter env x = pure x := by intro _; rfl) :
    wpAny (model prog w) A (eval (.ListComp elt [⟨target, iter, [], 0⟩] scope pos) env) Q E s := by
  rw [eval_ListComp]
  refine wpAny_comprehension_free (use := none) rfl hs hclos hkind hnames (wpAny_mono h (fun xv s₁ h₁ => ?_) fun _ _ e => e)
  rcases h₁ with ⟨ax, its, news, J, rfl, hh, F, N, S, hsz, hgo, B⟩ | ⟨r, a, b, t, u, v, n, news, J, rfl, hh, F, N, hr, hsm, hn, hsz, hgo, B⟩
  · have hl := S.list F.keep N
    have hlt : ax < s₁.heap.objs.size := by obtain ⟨_, e, _⟩ := hl; exact Heap.lt_size e
    refine wpAny_pyIter_list hl ?_
    have up : ∀ b o, s₁.heap.get? b = some o → (s₁.heap.push { cls := .type "list_iterator", data := .fields #[.ref ax, .int 0 0] }).get? b = some o := fun b o e => Heap.get?_push_of_some _ e
    refine block_J (q := q) J (Walks.list hh s₁.heap.objs.size ax (Nat.ne_of_lt hlt) its) hsz (fun i h st => by obtain ⟨o, e, _⟩ := st.1; exact ⟨o, e⟩) list_st (fun i v s Q E hP st hQ => hgo _ i v s Q E hP st.1 hQ) hq ⟨⟨_, Heap.get?_push_size _ rfl, rfl, rfl⟩, hl.push _⟩ (fun b hb => ?_)
      (F.keeps up) (N.grown up) (Nat.ne_of_lt F.ns.lt) (next_is_new F) (fun p hp => Nat.ne_of_lt (Heap.lt_size (N p hp).1)) B.src B.start (fun C D oI oC i ys v m₂ news₁ h tk E' hi hP hJ hC F N o n => B.turn _ C D oI oC i ys v m₂ news₁ _ h tk E' hi hP hJ hC F N o n) ?_
    · show b < (s₁.heap.push _).objs.size
      rw [Heap.size_push]
      rcases List.mem_cons.mp hb with rfl | hb
      · exact Nat.lt_succ_self _
      · rw [List.mem_singleton.mp hb]; exact Nat.lt_succ_of_lt hlt
    · intro D C h tk m' ys news' F' N' o1 hn hC₀ hD₀ hCL hDL hCD offC fin
      refine ⟨m', hn, fun h'' hs'' => B.done C D ys news' h'' tk fin (F'.change hs'' hCL hC₀) (fun p hp => ?_) o1⟩
      refine ⟨hs''.extBut _ _ ?_ (N' p hp).1, (N' p hp).2⟩
      rcases List.mem_cons.mp hp with rfl | hp
      · exact Ne.symm hCD
      · exact offC p hp
  · refine wpAny_pyIter_range hr hsm ?_
    refine block_J (q := q) J (range_walks hh a n) hsz (fun i h st => ⟨_, st⟩) range_st (fun i v s Q E _ _ hQ => hgo _ v s Q E hQ) hq (by show IsRangeIter _ _ _ _ _; rw [hn]; simpa using Heap.get?_push_size _ rfl) (fun b hb => ?_)
      (F.keeps fun _ _ e => Heap.get?_push_of_some _ e) (N.grown fun _ _ e => Heap.get?_push_of_some _ e) (Nat.ne_of_lt F.ns.lt) (next_is_new F) (fun p hp => Nat.ne_of_lt (Heap.lt_size (N p hp).1)) B.src B.start (fun C D oI oC i ys v m₂ news₁ h tk E' hi hP hJ hC F N o n => B.turn _ C D oI oC i ys v m₂ news₁ _ h tk E' hi hP hJ hC F N o n) ?_
    · rw [List.mem_singleton.mp hb]
      show s₁.heap.objs.size < (s₁.heap.push _).objs.size
      rw [Heap.size_push]; exact Nat.lt_succ_self _
    · intro D C h tk m' ys news' F' N' o1 hn hC₀ hD₀ hCL hDL hCD offC fin
      refine ⟨m', hn, fun h'' hs'' => B.done C D ys news' h'' tk fin (F'.change hs'' hCL hC₀) (fun p hp => ?_) o1⟩
      refine ⟨hs''.extBut _ _ ?_ (N' p hp).1, (N' p hp).2⟩
      rcases List.mem_cons.mp hp with rfl | hp
      · exact Ne.symm hCD
      · exact offC p hp
end
end PCompJ
section PCompK
open PySem.Spec PySem.Calls
open LCg
section
variable {prog : Program} {w : World} {A : Around} {E : Value → Shared → Prop} {s : Shared} {h₀ : Heap} {L : Addr} {m : Str → Option Value} {env : Env}
/-- a comprehension's own name is bound -/
theorem store_comp {x : Str} {px : Pos} {v : Value} {scope : Scope} {cl : List (Str × Addr)} {I C D : Addr} {oI oC oD : Obj} {m₂ : Str → Option Value} {news : Led} {Q : Unit → Shared → Prop}
    (hx : scope.names.lookup x = some .local) (hkind : scope.kind = .function) (F : Fr h₀ L s.heap m) (N : News h₀ L s.heap ((I, oI) :: (C, oC) :: (D, oD) :: news)) (hC : NsObj oC m₂)
    (off : Off3 I C D news) (ne : ((@Ne Nat I C) ∧ (@Ne Nat I D) ∧ (@Ne Nat C D)))
    (h : ∀ h' oC' m₃, NsObj oC' m₃ → m₃ x = some v → (∀ y, y ≠ x → m₃ y = m₂ y) → Fr h₀ L h' m → News h₀ L h' ((I, oI) :: (C, oC') :: (D, oD) :: news) → Q () { s with heap := h', toks := s.toks + 1 }) :
    wpAny (model prog w) A (assign (.Name x px) (compEnvC scope cl C env) v) Q E s := by
  have zC := N (C, oC) (.tail _ (.head _))
  refine wpAny_assign_Name (wpAny_storeName_local (lookup_relabel_local hx) (hC.ns zC.1) (fun h' hn' hs' => ?_) (by simp [compEnvC, relabel, hkind]))
  obtain ⟨oC', heC, hoC⟩ := ns_obj hn'
  refine h h' oC' _ hoC (by simp) (fun y hy => by simp [hy]) (F.change hs' zC.2.1 zC.2.2) ?_
  intro p hp
  rcases List.mem_cons.mp hp with rfl | hp
  · have z := N _ (.head _); exact ⟨(hs'.2 _ ne.1).trans z.1, z.2⟩
  rcases List.mem_cons.mp hp with rfl | hp
  · exact ⟨heC, zC.2⟩
  rcases List.mem_cons.mp hp with rfl | hp
  · have z := N _ (.tail _ (.tail _ (.head _))); exact ⟨(hs'.2 _ (Ne.symm ne.2.2)).trans z.1, z.2⟩
  · have z := N p (.tail _ (.tail _ (.tail _ hp))); exact ⟨(hs'.2 _ (off.mem p hp).2.1).trans z.1, z.2⟩
/-- a comprehension's own name that its inner blocks read is bound -/
theorem store_compC {x : Str} {px : Pos} {v : Value} {scope : Scope} {cl : List (Str × Addr)} {I C D : Addr} {oI oC oD oc : Obj} {v₀ : Option Value} {tl : Led} {Q : Unit → Shared → Prop}
    (hk : (relabel scope env).kind = .function) (hx : (compEnvC scope ((x, C + 1) :: cl) C env).kindOf x = some .cell) (F : Fr h₀ L s.heap m) (N : News h₀ L s.heap ((I, oI) :: (C, oC) :: (D, oD) :: (C + 1, oc) :: tl)) (hd : oc.data = .cell v₀)
    (hne : ∀ p ∈ tl, p.1 ≠ C + 1) (off : Off3 I C D ((C + 1, oc) :: tl))
    (h : ∀ h' oc', oc'.data = .cell (some v) → Fr h₀ L h' m → News h₀ L h' ((I, oI) :: (C, oC) :: (D, oD) :: (C + 1, oc') :: tl) → Q () { s with heap := h' }) :
    wpAny (model prog w) A (assign (.Name x px) (compEnvC scope ((x, C + 1) :: cl) C env) v) Q E s := by
  have zc := N (C + 1, oc) (.tail _ (.tail _ (.tail _ (.head _))))
  refine wpAny_assign_Name (wpAny_storeName_cell hk hx (by simp [compEnvC]) ⟨oc, zc.1, hd⟩ fun h' hv hs => ?_)
  obtain ⟨oc', hg, hd'⟩ := hv
  refine h h' oc' hd' (F.change hs zc.2.1 zc.2.2) ?_
  have o := off.1
  intro p hp
  rcases List.mem_cons.mp hp with rfl | hp
  · have z := N _ (.head _); exact ⟨(hs.2 _ (Ne.symm o.1)).trans z.1, z.2⟩
  rcases List.mem_cons.mp hp with rfl | hp
  · have z := N _ (.tail _ (.head _)); exact ⟨(hs.2 _ (Ne.symm o.2.1)).trans z.1, z.2⟩
  rcases List.mem_cons.mp hp with rfl | hp
  · have z := N _ (.tail _ (.tail _ (.head _))); exact ⟨(hs.2 _ (Ne.symm o.2.2)).trans z.1, z.2⟩
  rcases List.mem_cons.mp hp with rfl | hp
  · exact ⟨hg, zc.2⟩
  · have z := N p (.tail _ (.tail _ (.tail _ (.tail _ hp)))); exact ⟨(hs.2 _ (hne p hp)).trans z.1, z.2⟩
theorem TurnC.intro {I C D : Addr} {oI oC : Obj} {ys : List Value} {y : Value} {J : List Value → Led → Prop} {s₁ : Shared} {h' : Heap} {tk : Nat} {m₂ : Str → Option Value} {all : Led} (F : Fr h₀ L h' m) (N : News h₀ L h' all) (news' : Led)
    (sub : ∀ p ∈ (I, oI) :: (C, oC) :: (D, lst ys) :: news', p ∈ all) (hC : NsObj oC m₂) (off : Off3 I C D news') (hJ : J (ys ++ [y]) news') : TurnC h₀ L m s₁ I oI C D ys J y { s₁ with heap := h', toks := tk } :=
  ⟨h', tk, oC, news', rfl, F, fun p hp => N p (sub p hp), ⟨m₂, hC⟩, off, hJ⟩
end
end PCompK
section PKit
theorem ln_13 : True := by
  (k_with "FinE" => ((unfold LCg.FinE); ((first | (k_dflt (refine' (us3 neNat neHeap neNat ?z9sl ((?_ : L3 _ _ _ _) () ()) :); (case z9sl => k_extra "m:slot"); intros u8 D' h' tk' u9; clear u8 u9; k_extra "m:cl")) | (refine (sk3 neNat neHeap neNat ((?_ : ∀ (D' : Addr) (h' : Heap) (tk' : Nat), _) _ _ _) :); intros D' h' tk'))); intros F' N' o1'; (try simp only [LCg.Off1, and_true] at o1'); (try simp only [List.nil_append, List.cons_append] at N'); (have kp' := o1'); (repeat replace kp' := And.right kp'); (try dsimp only); (try k_sweep)))
  (k_with "FinA" => ((unfold LCg.FinA); ((first | (k_dflt (refine' (us3 neNat neHeap neNat ?z9sl ((?_ : L3 _ _ _ _) () ()) :); (case z9sl => k_extra "m:slot"); intros u8 D' h' tk' u9; clear u8 u9; k_extra "m:cl")) | (refine (sk3 neNat neHeap neNat ((?_ : ∀ (D' : Addr) (h' : Heap) (tk' : Nat), _) _ _ _) :); intros D' h' tk'))); intros F' N' o1'; (try simp only [LCg.Off1, and_true] at o1'); (try simp only [List.nil_append, List.cons_append] at N'); (have kp' := o1'); (repeat replace kp' := And.right kp'); (try dsimp only); (try k_sweep)))
  trivial
theorem fit_small {n : Int} (h : n.natAbs < 1000) : n.natAbs < 2 ^ 1023 := Nat.lt_of_lt_of_le h (Nat.le_trans (by decide : 1000 ≤ 2 ^ 10) (Nat.pow_le_pow_right (by decide) (by decide)))
theorem ln_14 : True := by
  (k_with "binaryOp Mult float int" => ((with_reducible show wpAny _ _ (binaryOp Operator.Mult (Value.float _ _) (Value.int _ _)) _ _ _); with_reducible refine mul_fi_fits (fit_small ?_) ?_; focus (decide)))
  (k_with "binaryOp Add float int" => ((with_reducible show wpAny _ _ (binaryOp Operator.Add (Value.float _ _) (Value.int _ _)) _ _ _); with_reducible refine add_fi_fits (fit_small ?_) ?_; focus (decide)))
  (k_with "binaryOp Div int int" => ((with_reducible show wpAny _ _ (binaryOp Operator.Div (Value.int _ _) (Value.int 64 _)) _ _ _); k_dflt (refine div64 (by omega) ?_)))
  (k_with "binaryOp Div int int" => ((with_reducible show wpAny _ _ (binaryOp Operator.Div (Value.int 1 _) (Value.int 3 _)) _ _ _); k_dflt (refine div13 ?_)))
  (k_with "binaryOp FloorDiv int int" => ((with_reducible show wpAny _ _ (binaryOp Operator.FloorDiv (Value.int (rk _ + 1) _) (Value.int 2 _)) _ _ _); k_dflt (refine' fdiv_rnd ?e ?_; (case e => with_reducible assumption))))
  (k_with "call type:int" => ((with_reducible show wpAny _ _ (call (Value.type "int") [Value.float _ _] _) _ _ _); k_dflt (refine' int_rnd ?e ?_; (case e => with_reducible assumption))))
  trivial
theorem ln_15 : True := by
  (k_with "m:read" => first
    | exact Reads.int _ _
    | exact Reads.str _ _
    | exact reads_list_at (News.get (by k_asm) (by k_mem)) rfl rfl (by k_extra "m:reads")
    | exact reads_tuple_at (News.get (by k_asm) (by k_mem)) rfl rfl (by k_extra "m:reads"))
  (k_with "m:reads" => first
    | exact ReadsAll.nil
    | exact ReadsAll.cons (by k_extra "m:read") (by k_extra "m:reads"))
  (k_with "m:shaped" => first | rfl | decide | (simp [SeqAt.shaped, PyData.canLay0, PyData.canLayAll0, PyData.depth, PyData.depthAll]; done))
  (k_with "compareOp NotEq ref ref" => ((with_reducible show wpAny _ _ (compareOp CmpOp.NotEq (Value.ref _) (Value.ref _)) _ _ _); k_dflt (refine ne_dataH (by k_extra "m:read") (by k_extra "m:read") (by k_extra "m:shaped") (by k_extra "m:shaped") ?hu9 ?_; (case hu9 => (first | k_extra "m:unit" | ktr_units))); (simp only [PyData.eqv, PyData.eqvAll, beq_self_eq_true, Bool.and_true, Bool.and_self, Bool.not_true, Bool.not_false, Bool.true_and])))
  (k_with "compareOp Eq ref ref" => ((with_reducible show wpAny _ _ (compareOp CmpOp.Eq (Value.ref _) (Value.ref _)) _ _ _); k_dflt (refine eq_dataH (by k_extra "m:read") (by k_extra "m:read") (by k_extra "m:shaped") (by k_extra "m:shaped") ?hu9 ?_; (case hu9 => (first | k_extra "m:unit" | ktr_units))); (simp only [PyData.eqv, PyData.eqvAll, beq_self_eq_true, Bool.and_true, Bool.and_self, Bool.not_true, Bool.not_false, Bool.true_and])))
  trivial
end PKit
section PClO
/-- the new ones of a ledger stand apart from all others -/
noncomputable def Apart : Led → Led → Prop
  | [], _ => True
  | q :: tl, news => (∀ p ∈ tl ++ news, p.1 ≠ q.1) ∧ Apart tl news
noncomputable abbrev ClaimO (w : World) (p : Program) (loose : List Str) (mean : ExcName → Option Value) (mg mb : Str → Option Value) (f : Value) (n : Nat) (vs : List Value) (news : Led) (Ret : (Led → Value → Prop) → Prop) : Prop :=
  ∀ (dp un : Nat) (gd : Option (List Code)) (cn : Str) (cs : Scope) (a : Addr) (ccd : Value) (cl : List (Str × Addr)) (outer : List Env) (A₀ : Around) (base h₀ : Heap) (L : Addr) (m : Str → Option Value) (s : Shared) (Q E : Value → Shared → Prop),
    Below A₀ base outer h₀ → Fr h₀ L s.heap m → (heapK w.params).In h₀ → News h₀ L s.heap news → Top p loose mean mg mb h₀ → cs.kind = .function → dp + n < recursionLimit → un + 8 * n < cLine →
    Ret (fun tl r => ∀ (h' : Heap) (tk' : Nat), Fr h₀ L h' m → News h₀ L h' (tl ++ news) → Apart tl news → Q r { s with heap := h', toks := tk' }) →
    wpAny (model PySem.Challenge.rw_kl0382_01.row.toRowW.prog w) (ktrTop dp un gd cn cs L a ccd cl outer) (call f vs) Q E s
theorem ret_old {h₀ h' : Heap} {L : Addr} {v : Value} {m : Str → Option Value} {news all : Led} {s : Shared} {Q : Value → Shared → Prop} {tk' : Nat}
    (hret : (fun tl r => ∀ (h' : Heap) (tk' : Nat), Fr h₀ L h' m → News h₀ L h' (tl ++ news) → Apart tl news → Q r { s with heap := h', toks := tk' }) ([] : Led) v) (F : Fr h₀ L h' m) (N : News h₀ L h' all) (sub : ∀ p ∈ news, p ∈ all) :
    Q v { s with heap := h', toks := tk' } := hret h' tk' F (fun p hp => N p (sub p hp)) trivial
theorem ret_new {h₀ h' : Heap} {L x : Addr} {o : Obj} {m : Str → Option Value} {news all : Led} {s : Shared} {Q : Value → Shared → Prop} {tk' : Nat}
    (hret : (fun tl r => ∀ (h' : Heap) (tk' : Nat), Fr h₀ L h' m → News h₀ L h' (tl ++ news) → Apart tl news → Q r { s with heap := h', toks := tk' }) ([(x, o)] : Led) (Value.ref x)) (F : Fr h₀ L h' m) (N : News h₀ L h' all) (sub : ∀ p ∈ (x, o) :: news, p ∈ all) (off : ∀ p ∈ news, p.1 ≠ x) :
    Q (.ref x) { s with heap := h', toks := tk' } := hret h' tk' F (fun p hp => N p (sub p hp)) ⟨off, trivial⟩
end PClO
section PDrawn
noncomputable def drawnF (n : Int) : Int × Int × Int :=
  if (n.fmod 6 + ((n.fdiv 6).fmod 6 + ((n.fdiv 36).fmod 6 + 0))).fmod 3 = 0 then (n.fdiv 216 + (n.fmod 6 + 1).fmod 6, n.fdiv 216 + (n.fdiv 6).fmod 6, n.fdiv 216 + (n.fdiv 36).fmod 6)
  else (n.fdiv 216 + n.fmod 6, n.fdiv 216 + (n.fdiv 6).fmod 6, n.fdiv 216 + (n.fdiv 36).fmod 6)
theorem ints3 {ys : List Value} {x y z : Int} (h : IntsAre ys [x, y, z]) : ∃ t1 t2 t3, ys = [.int x t1, .int y t2, .int z t3] := by
  cases h with
  | cons _ t1 h =>
    cases h with
    | cons _ t2 h =>
      cases h with
      | cons _ t3 h => cases h; exact ⟨t1, t2, t3, rfl⟩
section
variable {w : World} {p : Program} {loose : List Str} {mean : ExcName → Option Value} {mg mb : Str → Option Value}
theorem ln_16 : True := by
  (k_with "m:enterE" => (k_extra "m:fill"; unfold ClaimO; k_extra "m:skC"; intros B F X N T hk hd9 hu9 hret; (refine wpAny_call ?_); k_dflt (k_extra "m:center")))
  (k_with "m:enterCO" => (k_extra "m:fill"; unfold ClaimO; k_extra "m:skC"; intros B F X N T hk hd9 hu9 hret; (refine wpAny_call ?_); k_dflt (k_extra "m:code")))
  trivial
theorem drawn_c {news : Led} {n : Int} {tn : Tok} (hn : 0 ≤ n ∧ n < 12744) : ClaimO w p loose mean mg mb (.ref 272) 2 [.int n tn] news (fun K => ∀ D t1 t2 t3, K [(D, LCg.lst [.int (drawnF n).1 t1, .int (drawnF n).2.1 t2, .int (drawnF n).2.2 t3])] (.ref D)) := by
  (revert w p loose mean mg mb news n tn; (first | (k_dflt (refine' (us8 neW neProg neLs neMean neFr neFr neLed neInt ?z9sl ((?_ : L8 _ _ _ _ _ _ _ _ _) () ()) :); (case z9sl => k_extra "m:slot"); intros u8 w p loose mean mg mb news n u9; clear u8 u9; k_extra "m:cl")) | (refine (sk8 neW neProg neLs neMean neFr neFr neLed neInt ((?_ : ∀ (w : World) (p : Program) (loose : List Str) (mean : ExcName → Option Value) (mg : Str → Option Value) (mb : Str → Option Value) (news : Led) (n : Int), _) _ _ _ _ _ _ _ _) :); intros w p loose mean mg mb news n)); (first | (k_dflt (refine' (us1 neTok ?z9sl ((?_ : L1 _ _) () ()) :); (case z9sl => k_extra "m:slot"); intros u8 tn u9; clear u8 u9; k_extra "m:cl")) | (refine (sk1 neTok ((?_ : ∀ (tn : Tok), _) _) :); intros tn)); intros hn)
  k_extra "m:enterCO"
  k_steps
  all_goals (
    rename IntsAre _ _ => hI9
    obtain ⟨u1, u2, u3, hy9⟩ := ints3 hI9
    subst hy9
    unfold drawnF at hret
    first | rw [if_pos (by assumption)] at hret | rw [if_neg (by assumption)] at hret
    dsimp only at hret
    exact ret_new (Q := Q) (s := s) (hret _ u1 u2 u3) (by assumption) (by assumption) (by lcg_sub) (m_ne_off1 (by k_extra "m:part")))
end
end PDrawn
section POct
noncomputable def octF (a b c : Int) : List Int := if 0 < a then [a + 64, b + 64, c + 128] else if 0 < b then [b + 64, c + 128] else [c + 128]
section
variable {w : World} {p : Program} {loose : List Str} {mean : ExcName → Option Value} {mg mb : Str → Option Value}
theorem oct_c {news : Led} {l : Addr} {n : Nat} {a b c : Int} {ta tb tc : Tok} (hm : (l, listOf #[.int a ta, .int b tb, .int c tc] n) ∈ news) (hb : (0 ≤ a ∧ a < 64) ∧ (0 ≤ b ∧ b < 64) ∧ (0 ≤ c ∧ c < 64)) :
    ClaimO w p loose mean mg mb (.ref 277) 2 [.ref l] news (fun K => ∀ D ys, IntsAre ys (octF a b c) → K [(D, listOf ys.toArray 0)] (.ref D)) := by
  (revert w p loose mean mg mb news l n a b c ta tb tc; (first | (k_dflt (refine' (us8 neW neProg neLs neMean neFr neFr neLed neNat ?z9sl ((?_ : L8 _ _ _ _ _ _ _ _ _) () ()) :); (case z9sl => k_extra "m:slot"); intros u8 w p loose mean mg mb news l u9; clear u8 u9; k_extra "m:cl")) | (refine (sk8 neW neProg neLs neMean neFr neFr neLed neNat ((?_ : ∀ (w : World) (p : Program) (loose : List Str) (mean : ExcName → Option Value) (mg : Str → Option Value) (mb : Str → Option Value) (news : Led) (l : Addr), _) _ _ _ _ _ _ _ _) :); intros w p loose mean mg mb news l)); (first | (k_dflt (refine' (us7 neNat neInt neInt neInt neTok neTok neTok ?z9sl ((?_ : L7 _ _ _ _ _ _ _ _) () ()) :); (case z9sl => k_extra "m:slot"); intros u8 n a b c ta tb tc u9; clear u8 u9; k_extra "m:cl")) | (refine (sk7 neNat neInt neInt neInt neTok neTok neTok ((?_ : ∀ (n : Nat) (a : Int) (b : Int) (c : Int) (ta : Tok) (tb : Tok) (tc : Tok), _) _ _ _ _ _ _ _) :); intros n a b c ta tb tc)); intros hm hb)
  k_extra "m:enterE"
  k_steps
  all_goals (
    unfold octF at hret
    (first | rw [if_pos (by assumption)] at hret | (rw [if_neg (by assumption)] at hret; first | rw [if_pos (by assumption)] at hret | rw [if_neg (by assumption)] at hret))
    refine' ret_new (Q := Q) (s := s) (o := listOf (List.toArray _) 0) (hret _ _ ?i9) (by assumption) (by assumption) ?s9 ?o9
    case s9 => lcg_sub
    case i9 => repeat constructor
    case o9 => k_all)
end
end POct
section PRd
open PySem.Spec PySem.Calls
/-- an iterator over bytes, i of them taken -/
noncomputable abbrev itB (b : Array UInt8) (t : Tok) (i : Nat) : Obj := { cls := .type "bytes_iterator", data := .fields #[.bytes b t, .int i 0] }
section
variable {prog : Program} {w : World} {A : Around} {E : Value → Shared → Prop} {s : Shared} {h₀ : Heap} {L : Addr} {m : Str → Option Value} {news : Led} {b : Array UInt8} {t : Tok}
theorem isB {I : Addr} {i : Nat} (N : News h₀ L s.heap news) (hm : (I, itB b t i) ∈ news) : KBw.IsBytesIter s.heap I b t i := ⟨_, (N _ hm).1, rfl, rfl⟩
theorem iter_b {Q : Value → Shared → Prop} (F : Fr h₀ L s.heap m) (N : News h₀ L s.heap news)
    (h : ∀ I h', Fr h₀ L h' m → News h₀ L h' ((I, itB b t 0) :: news) → (∀ p ∈ news, p.1 < I) → Q (.ref I) { s with heap := h' }) : wpAny (model prog w) A (call (.builtin "iter") [.bytes b t]) Q E s := by
  refine call_function_entry (by decide +kernel) (by decide +kernel) kdk_entry_iter (kdk_args_iter _) ?_
  unfold Builtin.«iter»
  refine wpAny_bind (m := PySem.someArgs "iter" 1 2 _) (wpAny_of_eq (a := [Value.bytes b t]) (by first | rfl | kernel_rfl!) ?_)
  show wpAny _ _ (pyIter (.bytes b t) >>= _) _ _ _
  refine wpAny_bind (KBw.pyIter_bytes ?_)
  exact wpAny_pure ⟨_, rfl, h _ _ (F.push _) (News.push F N _ rfl) (fun q hq => Heap.lt_size (N q hq).1)⟩
theorem next_b {I : Addr} {i : Nat} {c : UInt8} {news' : Led} {Q : Value → Shared → Prop} (F : Fr h₀ L s.heap m) (N : News h₀ L s.heap news) (U : Upd I (itB b t i) (itB b t (i + 1)) news news') (hx : b[i]? = some c)
    (h : ∀ h', Fr h₀ L h' m → News h₀ L h' news' → Q (.int (c.toNat : Int) s.toks) { s with heap := h', toks := s.toks + 1 }) : wpAny (model prog w) A (call (.builtin "next") [.ref I]) Q E s := by
  obtain ⟨pre, post, rfl, rfl, a, c'⟩ := U.split
  have z := N (I, itB b t i) (List.mem_append.mpr (.inr (.head _)))
  have hit : KBw.IsBytesIter s.heap I b t i := ⟨_, z.1, rfl, rfl⟩
  refine call_function_entry (by decide +kernel) (by decide +kernel) kdk_entry_next (kdk_args_next _) ?_
  unfold Builtin.«next»
  refine wpAny_bind (m := PySem.someArgs "next" 1 2 _) (wpAny_of_eq (a := [Value.ref I]) (by first | rfl | kernel_rfl!) ?_)
  dsimp only
  refine wpAny_bind (wpAny_specialOf (name := Str.ofString "__next__") (KBw.iter_typeIs hit) KBw.slot_next.lookup ?_)
  refine wpAny_ite_split (fun hab => absurd hab (by decide)) (fun _ => ?_)
  obtain ⟨o, ho, hc, hd⟩ := id hit
  refine wpAny_bind (wpAny_callSpecial?_slot (name := Str.ofString "__next__") (KBw.iter_typeIs hit) KBw.slot_next
    (wpAny_call_entry KBw.slot_next (KBw.iter_typeIs hit) KBw.entry_next ?_ (KBw.args_next _)))
  show wpAny _ _ (field (.ref I) 0 >>= _) _ _ s
  refine wpAny_bind (wpAny_field ho hd (x := .bytes b t) rfl ?_)
  show wpAny _ _ (if (Value.bytes b t == Value.none) = true then _ else _) _ _ s
  rw [if_neg (show ¬ ((Value.bytes b t == Value.none) = true) from Bool.false_ne_true)]
  show wpAny _ _ (field (.ref I) 1 >>= _) _ _ s
  refine wpAny_bind (wpAny_field ho hd (x := .int i 0) rfl ?_)
  refine wpAny_bind (wpAny_of_eq (a := b) rfl ?_)
  simp only [Int.toNat_natCast, hx]
  refine wpAny_bind (wpAny_setField ho hd (by simp) (wpAny_bind (wpAny_mkInt (wpAny_pure ⟨_, rfl, wpAny_pure ⟨_, rfl, h _ (F.change (Heap.SameBut.update ..) z.2.1 z.2.2) (news_set N a c' (Heap.SameBut.update ..) ?_)⟩⟩))))
  rw [z.1] at ho
  cases ho
  refine (Heap.get?_update_self _ z.1 rfl).trans ?_
  simp [Obj.mapFields, rawInt]
theorem nolen : typeLookup (.type "bytes_iterator") (Str.ofString "__len__") = pure none := by rw [typeLookup_type, builtinLookup_eq_fast]; kernel_rfl
theorem slot_hint : Slot "bytes_iterator" "__length_hint__" "bytes_iterator.__length_hint__" :=
  .of (owner := "bytes_iterator") (n := "__length_hint__") (by rw [typeLookup_type, builtinLookup_eq_fast]; kernel_rfl) (by decide +kernel) (by decide +kernel) (by decide +kernel)
    (by first | exact .inl (by decide +kernel) | exact .inr (by decide +kernel)) (by rw [isSubtype_type]; kernel_rfl)
theorem hint_b {I : Addr} {i : Nat} {Q : Bool → Shared → Prop} (hit : KBw.IsBytesIter s.heap I b t i) (h : Q false s) : wpAny (model prog w) A (Builtin.List.listLengthHint (.ref I)) Q E s := by
  unfold Builtin.List.listLengthHint
  refine wpAny_bind (wpAny_specialOf (KBw.iter_typeIs hit) nolen ?_)
  refine wpAny_ite_split (fun hab => absurd hab (by decide)) (fun _ => ?_)
  refine wpAny_bind (wpAny_specialOf (KBw.iter_typeIs hit) slot_hint.lookup ?_)
  generalize hid : ("bytes_iterator.__length_hint__" : String) = id0
  wp_delta
  rw [show splitId id0 = some ("bytes_iterator", "__length_hint__") from by subst hid; decide +kernel]
  subst hid
  refine wpAny_bind (wpAny_isInstance (T := "bytes_iterator") (b := true) (KBw.iter_typeIs hit) (by rw [isSubtype_type]; kernel_rfl) ?_)
  refine wpAny_ite_split (fun hab => absurd hab (by decide)) (fun _ => ?_)
  refine wpAny_ite_split (fun _ => ?_) (fun hab => absurd (by decide +kernel) hab)
  refine wpAny_ite_split (fun hab => absurd hab (by decide)) (fun _ => ?_)
  exact wpAny_pure h
/-- the octets that are left, as ints -/
noncomputable def restIs (ys : List Value) (b : Array UInt8) (i : Nat) : Prop := ys.length = b.size - i ∧ ∀ j v, ys[j]? = some v → ∃ c u, b[i + j]? = some c ∧ v = .int (c.toNat : Int) u
theorem walks_from (hh : A.handled = none) (I : Addr) (b : Array UInt8) (t : Tok) (i : Nat) :
    Walks prog w A I [I] [I] (b.size - i) (fun j v => ∃ c u, b[i + j]? = some c ∧ v = .int (c.toNat : Int) u) (fun j h => KBw.IsBytesIter h I b t (i + j) ∧ i + j ≤ max b.size i) where
  sub := fun _ hb => hb
  frame := fun _ _ _ st hk => ⟨(KBw.walks (prog := prog) (w := w) hh I b t).frame _ _ _ st.1 hk, st.2⟩
  item := fun j s Q E hj st hQ => (KBw.walks (prog := prog) (w := w) hh I b t).item (i + j) s Q E (by omega) st.1 fun v h' tk hP hst hk => hQ v h' tk hP ⟨hst, by omega⟩ hk
  done := fun s Q E st hQ => by
    by_cases hi : i ≤ b.size
    · refine (KBw.walks (prog := prog) (w := w) hh I b t).done s Q E ?_ hQ
      have := st.1
      rw [show i + (b.size - i) = b.size by omega] at this
      exact this
    · refine KBw.next_end hh st.1 (by simp; omega) fun h' he' => hQ h' s.toks fun b o hb e => he' b o (fun h => hb (by simp [h])) e
  self := fun j s Q E st hQ => (KBw.walks (prog := prog) (w := w) hh I b t).self _ s Q E st.1 hQ
theorem extend_b {R : Result → Shared → Prop} (hh : A.handled = none) {I : Addr} {i : Nat} (hit : KBw.IsBytesIter s.heap I b t i) (S : Addr) (hSI : S ≠ I) (res : Value) (c₀ : Nat) (hS : s.heap.get? S = some { cls := .type "list", data := .seq #[] c₀ })
    (hR : ∀ h' tk acc' c', (∀ a o, a ≠ S → a ≠ I → s.heap.get? a = some o → h'.get? a = some o) → h'.get? S = some { cls := .type "list", dict := none, data := .seq acc' c', slots := #[] } →
      ItemsOf (fun j v => ∃ c u, b[i + j]? = some c ∧ v = .int (c.toNat : Int) u) acc' (b.size - i) → R (.ok (.ret res)) { s with heap := h', toks := tk }) (hn : b.size ≤ sizeLine) :
    wpAny (model prog w) A.in1 (Builtin.List.listExtendWith (.ref S) (.ref I) res)
      (fun fin s' => match fin with | .done f => R (.ok f) s' | .again c' => c'.quiet = true ∧ codeAny (model prog w) A c' R s') (fun e s' => R (.error e) s') s := by
  have hSf : S ∉ [I] := fun hm => hSI (List.mem_singleton.mp hm)
  unfold Builtin.List.listExtendWith
  refine wpAny_bind (wpAny_typeOf (T := "bytes_iterator") (KBw.iter_typeIs hit) ?_)
  have h1 : Builtin.List.listSameRef (.ref S) (.ref I) = false := by simp [Builtin.List.listSameRef, hSI]
  have h2 : (Value.type "bytes_iterator" == Value.type "list") = false := by decide
  have h3 : (Value.type "bytes_iterator" == Value.type "tuple") = false := by decide
  simp only [h1, h2, h3, Bool.or_false, Bool.false_eq_true, if_false]
  refine wpAny_bind (KBw.pyIter_self hit ?_)
  refine wpAny_bind (wpAny_holding (hint_b hit ?_))
  refine wpAny_ite_split (fun hab => absurd hab (by decide)) (fun _ => ?_)
  have W := walks_from (prog := prog) (w := w) (A := A.in1) hh I b t i
  refine wpAny_pure ⟨plainId_quiet F.plain_extend_loop _, codeAny_extend_loopS W.toS (by omega) _ hSf _ (b.size - i) 0 _ _ _ rfl (Nat.zero_le _) ⟨hit, by omega⟩ hS (ItemsOf.nil _) fun s' acc' c' hm hS' hacc => ?_⟩
  rw [Moved.eq_with hm]
  refine hR s'.heap s'.toks acc' c' (fun a ob hb hb2 e => hm.heap a ob (fun hmem => ?_) e) hS' hacc
  rcases List.mem_cons.mp hmem with e' | hmem
  · exact hb e'
  · exact hb2 (List.mem_singleton.mp hmem)
theorem init_b {R : Result → Shared → Prop} (hh : A.handled = none) {I : Addr} {i : Nat} (hit : KBw.IsBytesIter s.heap I b t i) (S : Addr) (hSI : S ≠ I) (hS : s.heap.get? S = some { cls := .type "list", data := .seq #[] })
    (hR : ∀ h' tk acc' c', (∀ a o, a ≠ S → a ≠ I → s.heap.get? a = some o → h'.get? a = some o) → h'.get? S = some { cls := .type "list", dict := none, data := .seq acc' c', slots := #[] } →
      ItemsOf (fun j v => ∃ c u, b[i + j]? = some c ∧ v = .int (c.toNat : Int) u) acc' (b.size - i) → R (.ok (.ret .none)) { s with heap := h', toks := tk }) (hn : b.size ≤ sizeLine) :
    wpAny (model prog w) A.in1 (Builtin.«list.__init__» ⟨[.ref S, .ref I], []⟩)
      (fun fin s' => match fin with | .done f => R (.ok f) s' | .again c' => c'.quiet = true ∧ codeAny (model prog w) A c' R s') (fun e s' => R (.error e) s') s := by
  show wpAny _ _ (do let old ← Builtin.List.listItems (.ref S); Builtin.List.listUpdate (.ref S) (fun _ => #[]); letGo old.toList.reverse; Builtin.List.listExtendWith (.ref S) (.ref I) .none) _ _ s
  refine wpAny_bind ?_
  unfold Builtin.List.listItems
  refine wpAny_bind (wpAny_seqItems hS rfl (wpAny_pure ?_))
  show wpAny _ _ (updateSeq S (fun _ => #[]) >>= fun _ => letGo (#[] : Array Value).toList.reverse >>= fun _ => Builtin.List.listExtendWith (.ref S) (.ref I) .none) _ _ s
  refine wpAny_bind (wpAny_updateSeq hS rfl ?_)
  have hS₂ := Heap.get?_update_self (Obj.mapSeq (fun _ => (#[] : Array Value))) hS rfl
  have oth : ∀ b o, b ≠ S → s.heap.get? b = some o → (s.heap.update S (Obj.mapSeq (fun _ => (#[] : Array Value)))).get? b = some o :=
    fun b o hb e => (Heap.get?_update_other _ _ (Ne.symm hb)).trans e
  refine wpAny_bind (wpAny_letGo ?_)
  have hit2 : KBw.IsBytesIter (s.heap.update S (Obj.mapSeq (fun _ => (#[] : Array Value)))) I b t i := let ⟨o, ho, r⟩ := hit; ⟨o, oth _ _ (Ne.symm hSI) ho, r⟩
  refine extend_b hh hit2 S hSI .none _ hS₂ (fun h' tk acc' c' hk hS' hacc => ?_) hn
  exact hR h' tk acc' c' (fun a o ha ha2 e => hk a o ha ha2 (oth a o ha e)) hS' hacc
theorem list_b {I : Addr} {i : Nat} {Q : Value → Shared → Prop} (hh : A.handled = none) (Fh : Fr h₀ L s.heap m) (N : News h₀ L s.heap news) (hm : (I, itB b t i) ∈ news) (hz : b.size ≤ sizeLine) (rest : Led) (sub : ∀ p ∈ rest, p ∈ news) (hI : ∀ p ∈ rest, p.1 ≠ I)
    (h : ∀ D ys c h' k, restIs ys b i → Fr h₀ L h' m → News h₀ L h' ((D, listOf ys.toArray c) :: rest) → (∀ p ∈ rest, p.1 < D) → Q (.ref D) { s with heap := h', toks := k }) : wpAny (model prog w) A (call (.type "list") [.ref I]) Q E s := by
  refine callType_codes (Q₁ := fun obj s₁ => obj = .ref s.heap.objs.size ∧ s₁ = { s with heap := s.heap.push { cls := .type "list", data := .seq #[] } }) F.called_list (F.typeCall_list_1 _) F.entry_list_init
    (code_list_new _ ⟨rfl, rfl⟩) fun obj s₁ h₁ => ?_
  obtain ⟨rfl, rfl⟩ := h₁
  have z := N _ hm
  have hS : (s.heap.push { cls := .type "list", data := .seq #[] }).get? s.heap.objs.size = some { cls := .type "list", data := .seq #[] } := Heap.get?_push_size _ rfl
  have hSI : s.heap.objs.size ≠ I := Nat.ne_of_gt (Heap.lt_size z.1)
  have hit : KBw.IsBytesIter (s.heap.push { cls := .type "list", data := .seq #[] }) I b t i := ⟨_, Heap.get?_push_of_some _ z.1, rfl, rfl⟩
  refine ⟨⟨_, hS, rfl⟩, F.args_list_init_2 _ _, init_b (A := A.in1) (s := { s with heap := s.heap.push { cls := .type "list", data := .seq #[] } }) hh hit _ hSI hS (fun h' tk acc' c' hk hS' hacc => ?_) hz⟩
  have old : ∀ a o, a ≠ I → s.heap.get? a = some o → h'.get? a = some o := fun a o ha e => hk a o (Nat.ne_of_lt (Heap.lt_size e)) ha (Heap.get?_push_of_some _ e)
  have hI0 : I ≠ L := z.2.1
  refine ⟨rfl, h _ acc'.toList c' h' tk ⟨by simpa using hacc.1, fun j v hv => hacc.2 j v (by simpa using hv)⟩ ?_ ?_ (fun p hp => Heap.lt_size (N p (sub p hp)).1)⟩
  · exact ⟨Fh.ns.at' fun o e => old _ o (Ne.symm hI0) e, fun a o e => old a o (fun q => by rw [q, z.2.2] at e; cases e) (Fh.keep a o e), Fh.above⟩
  · intro p hp
    rcases List.mem_cons.mp hp with rfl | hp
    · exact ⟨by simpa using hS', Nat.ne_of_gt Fh.ns.lt, next_is_new Fh⟩
    · exact ⟨old _ _ (hI p hp) (N p (sub p hp)).1, (N p (sub p hp)).2⟩
end
end PRd
section PRd2
open PySem.Spec PySem.Calls
noncomputable def octAt (b : Array UInt8) (i : Nat) (k : Int) : Prop := ∃ c, b[i]? = some c ∧ (c.toNat : Int) = k
section
variable {prog : Program} {w : World} {A : Around} {E : Value → Shared → Prop} {s : Shared} {h₀ : Heap} {L : Addr} {m : Str → Option Value} {news : Led} {b : Array UInt8} {t : Tok}
theorem next_o {I : Addr} {i : Nat} {k : Int} {news' : Led} {Q : Value → Shared → Prop} (F : Fr h₀ L s.heap m) (N : News h₀ L s.heap news) (U : Upd I (itB b t i) (itB b t (i + 1)) news news') (hx : octAt b i k)
    (h : ∀ h', Fr h₀ L h' m → News h₀ L h' news' → Q (.int k s.toks) { s with heap := h', toks := s.toks + 1 }) : wpAny (model prog w) A (call (.builtin "next") [.ref I]) Q E s := by
  obtain ⟨c, hc, rfl⟩ := hx
  exact next_b F N U hc h
theorem and_as {a b k : Int} {t u : Tok} {Q : Value → Shared → Prop} (e : Builtin.bitAnd a b = k) (h : Q (.int k s.toks) { s with toks := s.toks + 1 }) : wpAny (model prog w) A (binaryOp .BitAnd (.int a t) (.int b u)) Q E s := by
  subst e; exact and_int h
theorem ior_as {a b k : Int} {t u : Tok} {Q : Value → Shared → Prop} (e : Builtin.bitOr a b = k) (h : Q (.int k s.toks) { s with toks := s.toks + 1 }) : wpAny (model prog w) A (inplaceOp .BitOr (.int a t) (.int b u)) Q E s := by
  subst e; exact ior_int h
end
theorem bits_and : ∀ x : Nat, x < 64 → Builtin.bitAnd ((x : Int) + 64) 63 = x ∧ Builtin.bitAnd ((x : Int) + 64) 64 = 64 ∧ Builtin.bitAnd ((x : Int) + 128) 63 = x ∧ Builtin.bitAnd ((x : Int) + 128) 64 = 0 := by decide +kernel
theorem or_nat (x y : Nat) : Builtin.bitOr (x : Int) (y : Int) = ((x ||| y : Nat) : Int) := by
  have hx : decide (0 ≤ bitNot (x : Int)) = false := by unfold bitNot; simp; omega
  have hy : decide (0 ≤ bitNot (y : Int)) = false := by unfold bitNot; simp; omega
  have nn : ∀ z : Int, bitNot (bitNot z) = z := fun z => by unfold bitNot; omega
  show bitNot (bitAnd (bitNot x) (bitNot y)) = _
  unfold bitAnd
  rw [hx, hy]
  simp only [nn, Int.toNat_natCast]
theorem bits_or {v y : Int} (hv : 0 ≤ v) (hy : 0 ≤ y ∧ y < 64) : Builtin.bitOr (v * 2 ^ (6 : Int).toNat) y = v * 64 + y := by
  obtain ⟨n, rfl⟩ := Int.eq_ofNat_of_zero_le hv
  obtain ⟨k, rfl⟩ := Int.eq_ofNat_of_zero_le hy.1
  have e : ((n : Int) * 2 ^ (6 : Int).toNat) = ((n * 2 ^ 6 : Nat) : Int) := by simp
  rw [e, or_nat, ← Nat.shiftLeft_eq, ← Nat.shiftLeft_add_eq_or_of_lt (by omega)]
  rw [Nat.shiftLeft_eq]
  push_cast
  rfl
theorem bits_and' {x : Int} (h : 0 ≤ x ∧ x < 64) : Builtin.bitAnd (x + 64) 63 = x ∧ Builtin.bitAnd (x + 64) 64 = 64 ∧ Builtin.bitAnd (x + 128) 63 = x ∧ Builtin.bitAnd (x + 128) 64 = 0 := by
  obtain ⟨n, rfl⟩ := Int.eq_ofNat_of_zero_le h.1
  exact bits_and n (by omega)
/-- a number's octets, written by _law_octets, read by _parse_varint: the iterator moves on -/
noncomputable abbrev ClaimI (w : World) (p : Program) (loose : List Str) (mean : ExcName → Option Value) (mg mb : Str → Option Value) (n : Nat) (I : Addr) (b : Array UInt8) (t : Tok) (i k : Nat) (news : Led) (val : Int) : Prop :=
  ∀ (dp un : Nat) (gd : Option (List Code)) (cn : Str) (cs : Scope) (a : Addr) (ccd : Value) (cl : List (Str × Addr)) (outer : List Env) (A₀ : Around) (base h₀ : Heap) (L : Addr) (m : Str → Option Value) (s : Shared) (Q E : Value → Shared → Prop),
    Below A₀ base outer h₀ → Fr h₀ L s.heap m → (heapK w.params).In h₀ → News h₀ L s.heap ((I, itB b t i) :: news) → Top p loose mean mg mb h₀ → cs.kind = .function → dp + n < recursionLimit → un + 8 * n < cLine →
    (∀ (tv : Tok) (h' : Heap) (tk' : Nat), Fr h₀ L h' m → News h₀ L h' ((I, itB b t (i + k)) :: news) → Q (.int val tv) { s with heap := h', toks := tk' }) →
    wpAny (model PySem.Challenge.rw_kl0382_01.row.toRowW.prog w) (ktrTop dp un gd cn cs L a ccd cl outer) (call (.ref 110) [.ref I]) Q E s
theorem ln_17 : True := by
  (k_with "m:enterI" => (k_extra "m:fill"; unfold ClaimI; k_extra "m:skC"; intros B F X N T hk hd9 hu9 hret; (refine wpAny_call ?_); k_dflt (k_extra "m:center")))
  (k_with "m:k_all" => with_reducible assumption)
  (k_with "exec While BinOp cons nil" => (k_here; k_dflt (refine whl_start 100 ?_)))
  (k_with "call builtin:next" => (k_here; (with_reducible show wpAny _ _ (call (Value.builtin "next") [Value.ref _]) _ _ _); k_dflt (refine' next_o ?F ?N ?U ?hx ?_; (case F => k_asm); (case N => k_asm); (case U => k_upd); (case hx => assumption); k_whole); ((first | (k_dflt (refine' (us1 neHeap ?z9sl ((?_ : L1 _ _) () ()) :); (case z9sl => k_extra "m:slot"); intros u8 h' u9; clear u8 u9; k_extra "m:cl")) | (refine (sk1 neHeap ((?_ : ∀ (h' : Heap), _) _) :); intros h'))); intros F' N'; (try k_sweep)))
  (k_with "binaryOp BitAnd int int" => (k_here; k_dflt (refine' and_as ?e ?_; (case e => assumption); k_whole)))
  (k_with "inplaceOp BitOr int int" => (k_here; k_dflt (refine' ior_as ?e ?_; (case e => assumption); k_whole)))
  trivial
section
variable {w : World} {p : Program} {loose : List Str} {mean : ExcName → Option Value} {mg mb : Str → Option Value}
theorem parse3 {news : Led} {I : Addr} {b : Array UInt8} {t : Tok} {i : Nat} {x y z : Int} (hI : ∀ p ∈ news, p.1 ≠ I) (hx : 0 ≤ x ∧ x < 64) (hy : 0 ≤ y ∧ y < 64) (hz : 0 ≤ z ∧ z < 64) (o1 : octAt b i (x + 64)) (o2 : octAt b (i + 1) (y + 64)) (o3 : octAt b (i + 1 + 1) (z + 128)) :
    ClaimI w p loose mean mg mb 2 I b t i 3 news ((x * 64 + y) * 64 + z) := by
  (revert w p loose mean mg mb news I b t i x y z; (first | (k_dflt (refine' (us8 neW neProg neLs neMean neFr neFr neLed neNat ?z9sl ((?_ : L8 _ _ _ _ _ _ _ _ _) () ()) :); (case z9sl => k_extra "m:slot"); intros u8 w p loose mean mg mb news I u9; clear u8 u9; k_extra "m:cl")) | (refine (sk8 neW neProg neLs neMean neFr neFr neLed neNat ((?_ : ∀ (w : World) (p : Program) (loose : List Str) (mean : ExcName → Option Value) (mg : Str → Option Value) (mb : Str → Option Value) (news : Led) (I : Addr), _) _ _ _ _ _ _ _ _) :); intros w p loose mean mg mb news I)); (first | (k_dflt (refine' (us6 neArr neTok neNat neInt neInt neInt ?z9sl ((?_ : L6 _ _ _ _ _ _ _) () ()) :); (case z9sl => k_extra "m:slot"); intros u8 b t i x y z u9; clear u8 u9; k_extra "m:cl")) | (refine (sk6 neArr neTok neNat neInt neInt neInt ((?_ : ∀ (b : Array UInt8) (t : Tok) (i : Nat) (x : Int) (y : Int) (z : Int), _) _ _ _ _ _ _) :); intros b t i x y z)); intros hI hx hy hz o1 o2 o3)
  obtain ⟨a1, a2, -, -⟩ := bits_and' hx
  obtain ⟨a3, a4, -, -⟩ := bits_and' hy
  obtain ⟨-, -, a5, a6⟩ := bits_and' hz
  have r1 := bits_or hx.1 hy
  have r2 := bits_or (show 0 ≤ x * 64 + y by omega) hz
  k_extra "m:enterI"
  k_steps
  all_goals exact hret _ _ _ (by assumption) (by assumption)
theorem parse2 {news : Led} {I : Addr} {b : Array UInt8} {t : Tok} {i : Nat} {y z : Int} (hI : ∀ p ∈ news, p.1 ≠ I) (hy : 0 ≤ y ∧ y < 64) (hz : 0 ≤ z ∧ z < 64) (o2 : octAt b i (y + 64)) (o3 : octAt b (i + 1) (z + 128)) :
    ClaimI w p loose mean mg mb 2 I b t i 2 news (y * 64 + z) := by
  (revert w p loose mean mg mb news I b t i y z; (first | (k_dflt (refine' (us8 neW neProg neLs neMean neFr neFr neLed neNat ?z9sl ((?_ : L8 _ _ _ _ _ _ _ _ _) () ()) :); (case z9sl => k_extra "m:slot"); intros u8 w p loose mean mg mb news I u9; clear u8 u9; k_extra "m:cl")) | (refine (sk8 neW neProg neLs neMean neFr neFr neLed neNat ((?_ : ∀ (w : World) (p : Program) (loose : List Str) (mean : ExcName → Option Value) (mg : Str → Option Value) (mb : Str → Option Value) (news : Led) (I : Addr), _) _ _ _ _ _ _ _ _) :); intros w p loose mean mg mb news I)); (first | (k_dflt (refine' (us5 neArr neTok neNat neInt neInt ?z9sl ((?_ : L5 _ _ _ _ _ _) () ()) :); (case z9sl => k_extra "m:slot"); intros u8 b t i y z u9; clear u8 u9; k_extra "m:cl")) | (refine (sk5 neArr neTok neNat neInt neInt ((?_ : ∀ (b : Array UInt8) (t : Tok) (i : Nat) (y : Int) (z : Int), _) _ _ _ _ _) :); intros b t i y z)); intros hI hy hz o2 o3)
  obtain ⟨a3, a4, -, -⟩ := bits_and' hy
  obtain ⟨-, -, a5, a6⟩ := bits_and' hz
  have r1 := bits_or hy.1 hz
  k_extra "m:enterI"
  k_steps
  all_goals exact hret _ _ _ (by assumption) (by assumption)
theorem parse1 {news : Led} {I : Addr} {b : Array UInt8} {t : Tok} {i : Nat} {z : Int} (hI : ∀ p ∈ news, p.1 ≠ I) (hz : 0 ≤ z ∧ z < 64) (o3 : octAt b i (z + 128)) :
    ClaimI w p loose mean mg mb 2 I b t i 1 news z := by
  (revert w p loose mean mg mb news I b t i z; (first | (k_dflt (refine' (us8 neW neProg neLs neMean neFr neFr neLed neNat ?z9sl ((?_ : L8 _ _ _ _ _ _ _ _ _) () ()) :); (case z9sl => k_extra "m:slot"); intros u8 w p loose mean mg mb news I u9; clear u8 u9; k_extra "m:cl")) | (refine (sk8 neW neProg neLs neMean neFr neFr neLed neNat ((?_ : ∀ (w : World) (p : Program) (loose : List Str) (mean : ExcName → Option Value) (mg : Str → Option Value) (mb : Str → Option Value) (news : Led) (I : Addr), _) _ _ _ _ _ _ _ _) :); intros w p loose mean mg mb news I)); (first | (k_dflt (refine' (us4 neArr neTok neNat neInt ?z9sl ((?_ : L4 _ _ _ _ _) () ()) :); (case z9sl => k_extra "m:slot"); intros u8 b t i z u9; clear u8 u9; k_extra "m:cl")) | (refine (sk4 neArr neTok neNat neInt ((?_ : ∀ (b : Array UInt8) (t : Tok) (i : Nat) (z : Int), _) _ _ _ _) :); intros b t i z)); intros hI hz o3)
  obtain ⟨-, -, a5, a6⟩ := bits_and' hz
  k_extra "m:enterI"
  k_steps
  all_goals exact hret _ _ _ (by assumption) (by assumption)
end
end PRd2
section PRd3
open PySem.Spec PySem.Calls
noncomputable abbrev In64 (a b c : Int) : Prop := (0 ≤ a ∧ a < 64) ∧ (0 ≤ b ∧ b < 64) ∧ (0 ≤ c ∧ c < 64)
theorem octF_in {a b c : Int} (h : In64 a b c) : ∀ x ∈ octF a b c, 0 ≤ x ∧ x < 256 := by
  intro x hx
  unfold octF at hx
  split at hx
  · simp only [List.mem_cons, List.not_mem_nil, or_false] at hx; omega
  · split at hx
    · simp only [List.mem_cons, List.not_mem_nil, or_false] at hx; omega
    · simp only [List.mem_cons, List.not_mem_nil, or_false] at hx; omega
theorem octF_len {a b c : Int} : 1 ≤ (octF a b c).length ∧ (octF a b c).length ≤ 3 := by
  unfold octF
  split
  · simp
  · split <;> simp
theorem octAt_of {b : Array UInt8} {ns : List Int} {i : Nat} {k : Int} (hb : KBw.bInts b = ns) (h : ns[i]? = some k) : octAt b i k := by
  subst hb
  unfold KBw.bInts at h
  rw [List.getElem?_map] at h
  cases e : b.toList[i]? with
  | none => rw [e] at h; cases h
  | some c =>
    rw [e] at h
    refine ⟨c, by simpa using e, ?_⟩
    exact Option.some.inj h
section
variable {w : World} {p : Program} {loose : List Str} {mean : ExcName → Option Value} {mg mb : Str → Option Value}
theorem parse_c {news : Led} {I : Addr} {b : Array UInt8} {t : Tok} {i : Nat} {x y z : Int} (hI : ∀ p ∈ news, p.1 ≠ I) (h : In64 x y z) (ho : ∀ j k, (octF x y z)[j]? = some k → octAt b (i + j) k) :
    ClaimI w p loose mean mg mb 2 I b t i (octF x y z).length news ((x * 64 + y) * 64 + z) := by
  obtain ⟨hx, hy, hz⟩ := h
  unfold octF at ho ⊢
  by_cases h1 : 0 < x
  · rw [if_pos h1] at ho ⊢
    exact parse3 hI hx hy hz (ho 0 _ rfl) (ho 1 _ rfl) (ho 2 _ rfl)
  · rw [if_neg h1] at ho ⊢
    have hx0 : x = 0 := by omega
    subst hx0
    by_cases h2 : 0 < y
    · rw [if_pos h2] at ho ⊢
      have := parse2 (w := w) (p := p) (loose := loose) (mean := mean) (mg := mg) (mb := mb) (t := t) hI hy hz (ho 0 _ rfl) (ho 1 _ rfl)
      rw [show (0 * 64 + y) * 64 + z = y * 64 + z by lia]
      exact this
    · rw [if_neg h2] at ho ⊢
      have hy0 : y = 0 := by omega
      subst hy0
      have := parse1 (w := w) (p := p) (loose := loose) (mean := mean) (mg := mg) (mb := mb) (t := t) hI hz (ho 0 _ rfl)
      rw [show ((0 : Int) * 64 + 0) * 64 + z = z by omega]
      exact this
end
end PRd3
section PRd4
open PySem.Spec PySem.Calls
theorem ln_18 : True := by
  (k_with "call type:bytes" => (k_here; (with_reducible show wpAny _ _ (call (Value.type "bytes") [Value.ref _]) _ _ _); k_dflt (refine' KBa.make_K ?z9F ?z9N ?z9h ?z9l ?z9i ?z9r ?z9n ?_; (case z9F => k_asm); (case z9N => k_asm); (case z9h => exact rfl); (case z9l => exact News.isList (by k_asm) (by k_mem)); (case z9i => assumption); (case z9r => assumption); (case z9n => assumption); k_whole); ((first | (k_dflt (refine' (us3 neHeap neTok neNat ?z9sl ((?_ : L3 _ _ _ _) () ()) :); (case z9sl => k_extra "m:slot"); intros u8 h' t' k' u9; clear u8 u9; k_extra "m:cl")) | (refine (sk3 neHeap neTok neNat ((?_ : ∀ (h' : Heap) (t' : Tok) (k' : Nat), _) _ _ _) :); intros h' t' k'))); intros F' N' hIn'; (try k_sweep)))
  (k_with "call builtin:iter" => (k_here; (with_reducible show wpAny _ _ (call (Value.builtin "iter") [Value.bytes _ _]) _ _ _); k_dflt (refine' iter_b ?z9F ?z9N ?_; (case z9F => k_asm); (case z9N => k_asm); k_whole); ((first | (k_dflt (refine' (us2 neNat neHeap ?z9sl ((?_ : L2 _ _ _) () ()) :); (case z9sl => k_extra "m:slot"); intros u8 I' h' u9; clear u8 u9; k_extra "m:cl")) | (refine (sk2 neNat neHeap ((?_ : ∀ (I' : Addr) (h' : Heap), _) _ _) :); intros I' h'))); intros F' N' l1; (try k_lt l1); (try k_sweep)))
  (k_with "call ref" => ((with_reducible show wpAny _ _ (call (Value.ref 110) _ _) _ _ _); k_here; k_dflt (refine' parse_c ?hI ?h ?ho _ _ _ _ _ _ _ _ _ _ _ _ _ _ _ _ _ ?k1 ?k2 ?k3 ?k4 ?k5 ?kK ?kd ?ku ?_; k_extra "m:std1"; (case ho => assumption); (case h => assumption); (case hI => k_all); k_extra "m:std2"; k_whole); ((first | (k_dflt (refine' (us3 neTok neHeap neNat ?z9sl ((?_ : L3 _ _ _ _) () ()) :); (case z9sl => k_extra "m:slot"); intros u8 t1 h' tk' u9; clear u8 u9; k_extra "m:cl")) | (refine (sk3 neTok neHeap neNat ((?_ : ∀ (t1 : Tok) (h' : Heap) (tk' : Nat), _) _ _ _) :); intros t1 h' tk'))); intros F' N'; (try dsimp only); (try k_sweep)))
  trivial
theorem fdmod {x y z : Int} (hx : 0 ≤ x ∧ x < 64) (hy : 0 ≤ y ∧ y < 64) (hz : 0 ≤ z ∧ z < 64) : Int.fdiv ((x * 64 + y) * 64 + z) 4096 = x ∧ Int.fmod (Int.fdiv ((x * 64 + y) * 64 + z) 64) 64 = y ∧ Int.fmod ((x * 64 + y) * 64 + z) 64 = z := by
  rw [Int.fdiv_eq_ediv_of_nonneg _ (by decide), Int.fdiv_eq_ediv_of_nonneg _ (by decide), Int.fmod_eq_emod_of_nonneg _ (by decide), Int.fmod_eq_emod_of_nonneg _ (by decide)]
  omega
theorem list_b4 {prog : Program} {w : World} {A : Around} {E : Value → Shared → Prop} {s : Shared} {h₀ : Heap} {L : Addr} {m : Str → Option Value} {news : Led} {b : Array UInt8} {t : Tok} {I a1 a2 a3 a4 : Addr} {o1 o2 o3 o4 : Obj} {i : Nat} {Q : Value → Shared → Prop} (hh : A.handled = none) (Fh : Fr h₀ L s.heap m) (N : News h₀ L s.heap ((a1, o1) :: (a2, o2) :: (a3, o3) :: (a4, o4) :: (I, itB b t i) :: news)) (hz : b.size ≤ sizeLine) (n1 : a1 ≠ I) (n2 : a2 ≠ I) (n3 : a3 ≠ I) (n4 : a4 ≠ I) (hI : ∀ p ∈ news, p.1 ≠ I)
    (h : ∀ D ys c h' k, restIs ys b i → Fr h₀ L h' m → News h₀ L h' ((D, listOf ys.toArray c) :: (a1, o1) :: (a2, o2) :: (a3, o3) :: (a4, o4) :: news) → @LT.lt Nat _ a1 D → @LT.lt Nat _ a2 D → @LT.lt Nat _ a3 D → @LT.lt Nat _ a4 D → (∀ p ∈ news, p.1 < D) → Q (.ref D) { s with heap := h', toks := k }) : wpAny (model prog w) A (call (.type "list") [.ref I]) Q E s := by
  refine list_b (t := t) (i := i) hh Fh N (by simp only [List.mem_cons, true_or, or_true]) hz ((a1, o1) :: (a2, o2) :: (a3, o3) :: (a4, o4) :: news) (fun p hp => ?_) (fun p hp => ?_) (fun D ys c h' k r F N l => h D ys c h' k r F N (l (a1, o1) (by simp)) (l (a2, o2) (by simp)) (l (a3, o3) (by simp)) (l (a4, o4) (by simp)) fun p hp => l p (by simp [hp]))
  · simp only [List.mem_cons] at hp ⊢
    rcases hp with h | h | h | h | h <;> simp [h]
  · simp only [List.mem_cons] at hp
    rcases hp with rfl | rfl | rfl | rfl | h
    · exact n1
    · exact n2
    · exact n3
    · exact n4
    · exact hI p h
theorem size_of {b : Array UInt8} {ns : List Int} (hb : KBw.bInts b = ns) : b.size = ns.length := by
  subst hb
  simp [KBw.bInts]
theorem rest_one {ys : List Value} {ks : List Int} {wh : Int} (hr : KBa.In (ks ++ [wh])) (h : restIs ys (byteArr (ks ++ [wh])) ks.length) : ∃ u, ys = [.int wh u] := by
  obtain ⟨hl, hv⟩ := h
  have hB := KBa.ints_make hr
  have hs := size_of hB
  rw [hs, List.length_append, List.length_singleton, Nat.add_sub_cancel_left] at hl
  obtain ⟨v, rfl⟩ := List.length_eq_one_iff.mp hl
  obtain ⟨c, u, h1, h2⟩ := hv 0 v rfl
  obtain ⟨c', h3, h4⟩ := octAt_of hB (i := ks.length) (k := wh) (by simp)
  rw [Nat.add_zero, h3] at h1
  cases h1
  exact ⟨u, by rw [h2, h4]⟩
noncomputable abbrev readTl (T D B A1 A2 : Addr) (cc : Nat) (u u1 u2 u3 u4 u5 u6 : Tok) (a b c x y z wh : Int) : Led := [(T, tupO #[.ref B, .ref D]), (D, listOf #[.int wh u] cc), (B, LCg.lst [.ref A1, .ref A2]), (A2, W.listOf #[.int x u1, .int y u2, .int z u3] 0), (A1, W.listOf #[.int a u4, .int b u5, .int c u6] 0)]
theorem ret_read {h₀ h' : Heap} {L T D B A1 A2 X : Addr} {oT oD oB o1 o2 oX : Obj} {news : Led} (N : News h₀ L h' ((T, oT) :: (D, oD) :: (B, oB) :: (A2, o2) :: (A1, o1) :: (X, oX) :: news)) (n1 : D ≠ T) (n2 : B ≠ T) (n3 : A2 ≠ T) (n4 : A1 ≠ T) (n5 : ∀ p ∈ news, p.1 ≠ T)
    (m2 : B ≠ D) (m3 : A2 ≠ D) (m4 : A1 ≠ D) (m5 : ∀ p ∈ news, p.1 ≠ D) (l3 : A2 ≠ B) (l4 : A1 ≠ B) (l5 : ∀ p ∈ news, p.1 ≠ B) (k4 : A1 ≠ A2) (k5 : ∀ p ∈ news, p.1 ≠ A2) (j5 : ∀ p ∈ news, p.1 ≠ A1) :
    News h₀ L h' ([(T, oT), (D, oD), (B, oB), (A2, o2), (A1, o1)] ++ news) ∧ Apart [(T, oT), (D, oD), (B, oB), (A2, o2), (A1, o1)] news := by
  refine ⟨fun p hp => N p ?_, ?_, ?_, ?_, ?_, ?_, trivial⟩
  · simp only [List.cons_append, List.nil_append, List.mem_cons] at hp ⊢
    rcases hp with h | h | h | h | h | h <;> simp [h]
  all_goals (
    intro p hp
    simp only [List.cons_append, List.nil_append, List.mem_cons] at hp)
  · rcases hp with rfl | rfl | rfl | rfl | h <;> first | assumption | exact n5 p h
  · rcases hp with rfl | rfl | rfl | h <;> first | assumption | exact m5 p h
  · rcases hp with rfl | rfl | h <;> first | assumption | exact l5 p h
  · rcases hp with rfl | h <;> first | assumption | exact k5 p h
  · exact j5 p hp
section
variable {w : World} {p : Program} {loose : List Str} {mean : ExcName → Option Value} {mg mb : Str → Option Value}
theorem read_c {news : Led} {l : Addr} {n : Nat} {ys : List Value} {a b c x y z wh : Int} (hm : (l, listOf ys.toArray n) ∈ news) (h1 : In64 a b c) (h2 : In64 x y z) (hw : 0 ≤ wh ∧ wh < 256) (hi : IntsAre ys (octF a b c ++ octF x y z ++ [wh])) :
    ClaimO w p loose mean mg mb (.ref 282) 6 [.ref l] news (fun K => ∀ (T D B A1 A2 : Addr) (cc : Nat) (u u1 u2 u3 u4 u5 u6 : Tok), K (readTl T D B A1 A2 cc u u1 u2 u3 u4 u5 u6 a b c x y z wh) (.ref T)) := by
  (revert w p loose mean mg mb news l n ys a b c x y z wh; (first | (k_dflt (refine' (us8 neW neProg neLs neMean neFr neFr neLed neNat ?z9sl ((?_ : L8 _ _ _ _ _ _ _ _ _) () ()) :); (case z9sl => k_extra "m:slot"); intros u8 w p loose mean mg mb news l u9; clear u8 u9; k_extra "m:cl")) | (refine (sk8 neW neProg neLs neMean neFr neFr neLed neNat ((?_ : ∀ (w : World) (p : Program) (loose : List Str) (mean : ExcName → Option Value) (mg : Str → Option Value) (mb : Str → Option Value) (news : Led) (l : Addr), _) _ _ _ _ _ _ _ _) :); intros w p loose mean mg mb news l)); (first | (k_dflt (refine' (us8 neNat neLv neInt neInt neInt neInt neInt neInt ?z9sl ((?_ : L8 _ _ _ _ _ _ _ _ _) () ()) :); (case z9sl => k_extra "m:slot"); intros u8 n ys a b c x y z u9; clear u8 u9; k_extra "m:cl")) | (refine (sk8 neNat neLv neInt neInt neInt neInt neInt neInt ((?_ : ∀ (n : Nat) (ys : List Value) (a : Int) (b : Int) (c : Int) (x : Int) (y : Int) (z : Int), _) _ _ _ _ _ _ _ _) :); intros n ys a b c x y z)); (first | (k_dflt (refine' (us1 neInt ?z9sl ((?_ : L1 _ _) () ()) :); (case z9sl => k_extra "m:slot"); intros u8 wh u9; clear u8 u9; k_extra "m:cl")) | (refine (sk1 neInt ((?_ : ∀ (wh : Int), _) _) :); intros wh)); intros hm h1 h2 hw hi)
  have hr : KBa.In (octF a b c ++ octF x y z ++ [wh]) := by
    intro k hk
    simp only [List.mem_append, List.mem_singleton] at hk
    rcases hk with (hk | hk) | rfl
    · exact octF_in h1 k hk
    · exact octF_in h2 k hk
    · exact hw
  have hl1 := @octF_len a b c
  have hl2 := @octF_len x y z
  have hn : (octF a b c ++ octF x y z ++ [wh]).length ≤ 16777216 := by
    simp only [List.length_append, List.length_singleton]; omega
  have hB := KBa.ints_make hr
  have hoA : ∀ j k, (octF a b c)[j]? = some k → octAt (byteArr (octF a b c ++ octF x y z ++ [wh])) (0 + j) k := fun j k hj => octAt_of hB (by
    have hlt := (List.getElem?_eq_some_iff.mp hj).1
    rw [Nat.zero_add, List.append_assoc, List.getElem?_append_left hlt]; exact hj)
  have hoB : ∀ j k, (octF x y z)[j]? = some k → octAt (byteArr (octF a b c ++ octF x y z ++ [wh])) (0 + (octF a b c).length + j) k := fun j k hj => octAt_of hB (by
    have hlt := (List.getElem?_eq_some_iff.mp hj).1
    rw [Nat.zero_add, List.append_assoc, List.getElem?_append_right (by omega), Nat.add_sub_cancel_left, List.getElem?_append_left hlt]; exact hj)
  k_extra "m:enterE"
  k_steps
  k_here
  k_dflt (refine' list_b4 ?hh ?F ?N ?z ?n1 ?n2 ?n3 ?n4 ?hI ?_; (case hh => rfl); (case F => k_asm); (case N => k_asm); (case hI => k_all); (case z => rw [size_of hB]; simp only [List.length_append, List.length_singleton]; exact Nat.le_trans (by omega) (show 20 ≤ sizeLine by decide)); (case n1 => k_extra "m:ne"); (case n2 => k_extra "m:ne"); (case n3 => k_extra "m:ne"); (case n4 => k_extra "m:ne"))
  ((first | (k_dflt (refine' (us5 neNat neLv neNat neHeap neNat ?z9sl ((?_ : L5 _ _ _ _ _ _) () ()) :); (case z9sl => k_extra "m:slot"); intros u8 D ys cc h' kk u9; clear u8 u9; k_extra "m:cl")) | (refine (sk5 neNat neLv neNat neHeap neNat ((?_ : ∀ (D : Addr) (ys : List Value) (cc : Nat) (h' : Heap) (kk : Nat), _) _ _ _ _ _) :); intros D ys cc h' kk)))
  intros hrest F' N' q1 q2 q3 q4 q5
  try k_sweep
  k_steps
  have hr9 := rest_one hr (by rw [List.length_append]; rw [Nat.zero_add] at hrest; exact hrest)
  obtain ⟨u9, rfl⟩ := hr9
  obtain ⟨e1, e2, e3⟩ := fdmod h1.1 h1.2.1 h1.2.2
  obtain ⟨e4, e5, e6⟩ := fdmod h2.1 h2.2.1 h2.2.2
  rename News h₀ L _ _ => N9
  simp only [e1, e2, e3, e4, e5, e6] at N9
  obtain ⟨N8, P8⟩ := ret_read N9 (by k_extra "m:ne") (by k_extra "m:ne") (by k_extra "m:ne") (by k_extra "m:ne") (by k_all) (by k_extra "m:ne") (by k_extra "m:ne") (by k_extra "m:ne") (by k_all) (by k_extra "m:ne") (by k_extra "m:ne") (by k_all) (by k_extra "m:ne") (by k_all) (by k_all)
  exact hret _ _ _ _ _ _ _ _ _ _ _ _ _ _ _ (by assumption) N8 P8
end
end PRd4
section PDr2
theorem drawn_in {n : Int} (h : 0 ≤ n ∧ n < 12744) : In64 (drawnF n).1 (drawnF n).2.1 (drawnF n).2.2 := by
  unfold In64 drawnF
  have e0 : n.fdiv 216 = n / 216 := Int.fdiv_eq_ediv_of_nonneg _ (by decide)
  have e1 : n.fmod 6 = n % 6 := Int.fmod_eq_emod_of_nonneg _ (by decide)
  have e2 : (n.fdiv 6).fmod 6 = (n / 6) % 6 := by rw [Int.fdiv_eq_ediv_of_nonneg _ (by decide), Int.fmod_eq_emod_of_nonneg _ (by decide)]
  have e3 : (n.fdiv 36).fmod 6 = (n / 36) % 6 := by rw [Int.fdiv_eq_ediv_of_nonneg _ (by decide), Int.fmod_eq_emod_of_nonneg _ (by decide)]
  have e4 : (n.fmod 6 + 1).fmod 6 = (n % 6 + 1) % 6 := by rw [Int.fmod_eq_emod_of_nonneg _ (by decide), Int.fmod_eq_emod_of_nonneg _ (by decide)]
  rw [e0, e1, e2, e3] at *
  split
  · dsimp only
    rw [← e1, e4]
    omega
  · dsimp only
    omega
end PDr2
section PComp2
theorem turn_in (elt t1 i1 t2 i2 : PySem.Expr) (scope : Scope) (pos : Pos) (it acc : Value) (env : Env) :
    compTurn (.ListComp elt [⟨t1, i1, [], 0⟩, ⟨t2, i2, [], 0⟩] scope pos) 1 it acc env = (do
      standAt i2.pos
      match ← pyNext it with
      | none => pure (.done .next)
      | some v =>
        letOwnedTupleGo t2 it v
        assign t2 env v
        let mut ok := true
        for c in ([] : List PySem.Expr) do
          if ok then ok ← isTrue c env (eval c env)
        if ok then
          (do let _ ← call (.builtin "list.append") [acc, ← eval elt env])
        again (.compLoop (.ListComp elt [⟨t1, i1, [], 0⟩, ⟨t2, i2, [], 0⟩] scope pos) 1 it acc env)) := by rfl
theorem turn_out (elt t1 i1 t2 i2 : PySem.Expr) (scope : Scope) (pos : Pos) (it acc : Value) (env : Env) :
    compTurn (.ListComp elt [⟨t1, i1, [], 0⟩, ⟨t2, i2, [], 0⟩] scope pos) 0 it acc env = (do
      standAt i1.pos
      match ← pyNext it with
      | none => pure (.done .next)
      | some v =>
        letOwnedTupleGo t1 it v
        assign t1 env v
        let mut ok := true
        for c in ([] : List PySem.Expr) do
          if ok then ok ← isTrue c env (eval c env)
        if ok then
          let x ← eval i2 env
          standAt i2.pos
          let x ← foldedSetIterable i2 env x
          let _ ← runOwn (.compStart (.ListComp elt [⟨t1, i1, [], 0⟩, ⟨t2, i2, [], 0⟩] scope pos) 1 (← holding [x] (pyIter x)) acc env) env
        again (.compLoop (.ListComp elt [⟨t1, i1, [], 0⟩, ⟨t2, i2, [], 0⟩] scope pos) 0 it acc env)) := by rfl
section
variable {prog : Program} {w : World} {A : Around} {E : Value → Shared → Prop} {R : Result → Shared → Prop} {s : Shared} {elt t1 i1 t2 i2 : PySem.Expr} {scope : Scope} {pos : Pos} {it acc : Value} {env : Env}
theorem loop_in (I : Nat → Shared → Prop)
    (turn : ∀ n s, I n s → wpAny (model prog w) A (pyNext it) (fun r s₁ => match r with
      | none => R (.ok .next) s₁
      | some v => wpAny (model prog w) A (assign t2 env v) (fun _ s₂ =>
          wpAny (model prog w) A (eval elt env) (fun x s₄ =>
              wpAny (model prog w) A (call (.builtin "list.append") [acc, x]) (fun _ s₅ => ∃ m, m < n ∧ I m s₅) (notedBy (model prog w) A env fun e s' => R (.error e) s') s₄) (notedBy (model prog w) A env fun e s' => R (.error e) s') s₂) (notedBy (model prog w) A env fun e s' => R (.error e) s') s₁) (notedBy (model prog w) A env fun e s' => R (.error e) s') s)
    (n : Nat) (h : I n s) (ht : ∀ v, letOwnedTupleGo t2 it v = pure () := by intro _; rfl) :
    codeAny (model prog w) A (.compLoop (.ListComp elt [⟨t1, i1, [], 0⟩, ⟨t2, i2, [], 0⟩] scope pos) 1 it acc env) R s := by
  refine codeAny_loop rfl I (fun n s hI => ?_) n h
  show wpAny _ A ((compTurn (.ListComp elt [⟨t1, i1, [], 0⟩, ⟨t2, i2, [], 0⟩] scope pos) 1 it acc env).onRaise (fun x => do noteFrame x env; theTreesLotGoes x)) _ _ s
  refine wpAny_noted ?_
  rw [turn_in]
  refine wpAny_bind (wpAny_standAt (wpAny_bind (wpAny_mono (turn n s hI) (fun r s₁ h₁ => ?_) fun _ _ h' => h')))
  cases r with
  | none => exact wpAny_pure h₁
  | some v =>
    refine wpAny_bind (wpAny_of_eq (ht v) ?_)
    refine wpAny_bind (wpAny_mono h₁ (fun _ s₂ h₂ => wpAny_bind (wpAny_tests_nil ?_)) fun _ _ h' => h')
    exact wpAny_bind (wpAny_bind (wpAny_mono h₂ (fun x s₄ h₄ => wpAny_bind (wpAny_mono h₄ (fun _ s₅ h₅ => wpAny_pure (wpAny_pure ⟨rfl, h₅⟩)) fun _ _ h' => h')) fun _ _ h' => h'))
theorem loop_out (I : Nat → Shared → Prop)
    (turn : ∀ n s, I n s → wpAny (model prog w) A (pyNext it) (fun r s₁ => match r with
      | none => R (.ok .next) s₁
      | some v => wpAny (model prog w) A (assign t1 env v) (fun _ s₂ =>
          wpAny (model prog w) A (eval i2 env) (fun x s₄ => wpAny (model prog w) A (pyIter x) (fun it2 s₅ =>
              codeAny (model prog w) A (.compStart (.ListComp elt [⟨t1, i1, [], 0⟩, ⟨t2, i2, [], 0⟩] scope pos) 1 it2 acc env) (fun r s₆ => match r with | .ok _ => ∃ m, m < n ∧ I m s₆ | .error e => False) s₅)
              (notedBy (model prog w) A env fun e s' => R (.error e) s') s₄) (notedBy (model prog w) A env fun e s' => R (.error e) s') s₂) (notedBy (model prog w) A env fun e s' => R (.error e) s') s₁) (notedBy (model prog w) A env fun e s' => R (.error e) s') s)
    (n : Nat) (h : I n s) (ht : ∀ v, letOwnedTupleGo t1 it v = pure () := by intro _; rfl) (hs : ∀ x, foldedSetIterable i2 env x = pure x := by intro _; rfl) :
    codeAny (model prog w) A (.compLoop (.ListComp elt [⟨t1, i1, [], 0⟩, ⟨t2, i2, [], 0⟩] scope pos) 0 it acc env) R s := by
  refine codeAny_loop rfl I (fun n s hI => ?_) n h
  show wpAny _ A ((compTurn (.ListComp elt [⟨t1, i1, [], 0⟩, ⟨t2, i2, [], 0⟩] scope pos) 0 it acc env).onRaise (fun x => do noteFrame x env; theTreesLotGoes x)) _ _ s
  refine wpAny_noted ?_
  rw [turn_out]
  refine wpAny_bind (wpAny_standAt (wpAny_bind (wpAny_mono (turn n s hI) (fun r s₁ h₁ => ?_) fun _ _ h' => h')))
  cases r with
  | none => exact wpAny_pure h₁
  | some v =>
    refine wpAny_bind (wpAny_of_eq (ht v) ?_)
    refine wpAny_bind (wpAny_mono h₁ (fun _ s₂ h₂ => wpAny_bind (wpAny_tests_nil ?_)) fun _ _ h' => h')
    refine wpAny_bind (wpAny_mono h₂ (fun x s₄ h₄ => wpAny_bind (wpAny_standAt (wpAny_bind (wpAny_of_eq (hs x) ?_)))) fun _ _ h' => h')
    refine wpAny_bind (wpAny_holding (wpAny_mono h₄ (fun it2 s₅ h₅ => ?_) fun _ _ h' => h'))
    refine wpAny_bind (wpAny_runOwn (codeAny_mono h₅ (fun r s₆ h₆ => ?_)))
    cases r with
    | ok f => exact wpAny_pure ⟨rfl, h₆⟩
    | error e => exact h₆.elim
theorem start_in
    (h0 : codeAny (model prog w) A (.compLoop (.ListComp elt [⟨t1, i1, [], 0⟩, ⟨t2, i2, [], 0⟩] scope pos) 1 it acc env) R s)
    (h : wpAny (model prog w) A (pyIter it) (fun it' s' => codeAny (model prog w) A (.compLoop (.ListComp elt [⟨t1, i1, [], 0⟩, ⟨t2, i2, [], 0⟩] scope pos) 1 it' acc env) R s')
      (notedBy (model prog w) A env fun x s' => R (.error x) s') s) :
    codeAny (model prog w) A (.compStart (.ListComp elt [⟨t1, i1, [], 0⟩, ⟨t2, i2, [], 0⟩] scope pos) 1 it acc env) R s := by
  refine codeAny_of_tree ?_
  show wpAny _ _ ((compStart (.ListComp elt [⟨t1, i1, [], 0⟩, ⟨t2, i2, [], 0⟩] scope pos) 1 it acc env).onRaise (fun x => do noteFrame x env; standAt theWindowsPlace)) _ _ s
  refine wpAny_notedAt ?_
  unfold compStart
  show wpAny _ _ (ask >>= _) _ _ s
  refine wpAny_bind (wpAny_askSetting (wpAny_ite ?_))
  split
  · first
      | exact wpAny_bind (wpAny_pure (wpAny_pure (And.intro rfl h0)))
      | exact wpAny_pure (And.intro rfl h0)
  · refine wpAny_bind (wpAny_rule ?_)
    show wpAny _ _ (standAt i2.pos >>= _) _ _ s
    exact wpAny_bind (wpAny_standAt (wpAny_bind (wpAny_mono h (fun it' s' h' => wpAny_pure (And.intro rfl h')) fun _ _ x => x)))
theorem inner {C D I ax : Addr} {y : Str} {py pn : Pos} {vs : List Value} (ys : List Value) {m : Str → Option Value} (hh : A.handled = none) (hC : env.locals = C) (hy : env.kindOf y = some .local) (hk : env.scope.kind = .function) (hd : (y == ("__debug__" : Str)) = false)
    (hIC : I ≠ C) (hID : I ≠ D) (hDC : D ≠ C) (hxI : ax ≠ I) (hxC : ax ≠ C) (hxD : ax ≠ D)
    (hit : s.heap.IsListIter I ax 0) (hl : s.heap.IsList ax vs.toArray) (hacc : s.heap.get? D = some (LCg.lst ys)) (hn : s.heap.Ns C m) (hsz : ys.length + vs.length ≤ sizeLine)
    (hR : ∀ h' tk m', h'.Ns C m' → h'.get? D = some (LCg.lst (ys ++ vs)) → (∀ b o, b ≠ C → b ≠ I → b ≠ D → s.heap.get? b = some o → h'.get? b = some o) → R (.ok .next) { s with heap := h', toks := tk }) :
    codeAny (model prog w) A (.compStart (.ListComp (.Name y pn) [⟨t1, i1, [], 0⟩, ⟨.Name y py, i2, [], 0⟩] scope pos) 1 (.ref I) (.ref D) env) R s := by
  subst hC
  have W := Walks.list (prog := prog) (w := w) hh I ax hxI vs.toArray
  have loop : codeAny (model prog w) A (.compLoop (.ListComp (.Name y pn) [⟨t1, i1, [], 0⟩, ⟨.Name y py, i2, [], 0⟩] scope pos) 1 (.ref I) (.ref D) env) R s := by
    refine loop_in (fun k s' => ∃ h' tk i m', s' = { s with heap := h', toks := tk } ∧ i ≤ vs.length ∧ k = vs.length + 1 - i ∧ (h'.IsListIter I ax i ∧ h'.IsList ax vs.toArray) ∧ h'.get? D = some (LCg.lst (ys ++ vs.take i)) ∧ h'.Ns env.locals m' ∧
      (∀ b o, b ≠ env.locals → b ≠ I → b ≠ D → s.heap.get? b = some o → h'.get? b = some o)) ?_ (vs.length + 1) ⟨s.heap, s.toks, 0, m, rfl, Nat.zero_le _, rfl, ⟨hit, hl⟩, by simpa using hacc, hn, fun _ _ _ _ _ e => e⟩
    rintro k s' ⟨h, tk, i, m', rfl, hi, rfl, st, hD, hN, hkeep⟩
    by_cases hlt : i < vs.length
    · refine W.item i _ _ _ (by simpa using hlt) st fun v h₁ tk₁ hP st₁ hk₁ => ?_
      refine wpAny_assign_Name (wpAny_storeName_local hy (hN.at' fun o e => hk₁ _ o (by simpa using Ne.symm hIC) e) (fun h₂ hn₂ hs₂ => ?_) (by simp [hk]))
      refine wpAny_Name (wpAny_loadName_local (v := v) hk hy hn₂ (by simp) ?_) hd
      have hD₂ : h₂.get? D = some (LCg.lst (ys ++ vs.take i)) := hs₂.extBut _ _ hDC (hk₁ _ _ (by simpa using Ne.symm hID) hD)
      refine append_at hD₂ (fun h₃ hs₃ hD₃ => ?_) (by rw [List.size_toArray, List.length_append, List.length_take]; omega)
      have hv : vs[i]? = some v := by simpa using hP
      refine ⟨vs.length + 1 - (i + 1), by omega, h₃, _, i + 1, _, rfl, hlt, rfl, ⟨st₁.1.at fun o e => hs₃.extBut _ _ hID (hs₂.extBut _ _ hIC e), st₁.2.at fun o e => hs₃.extBut _ _ hxD (hs₂.extBut _ _ hxC e)⟩, ?_, hn₂.sameBut hs₃ (Ne.symm hDC), fun b o b1 b2 b3 e => hs₃.extBut _ _ b3 (hs₂.extBut _ _ b1 (hk₁ _ _ (by simpa using b2) (hkeep b o b1 b2 b3 e)))⟩
      rw [hD₃, LCg.lst_snoc, List.take_add_one, hv, ← List.append_assoc]
      rfl
    · obtain rfl : i = vs.length := Nat.le_antisymm hi (Nat.not_lt.mp hlt)
      refine W.done _ _ _ (by simpa using st) fun h₁ tk₁ hk₁ => ?_
      refine hR h₁ tk₁ m' (hN.at' fun o e => hk₁ _ o (by simpa using Ne.symm hIC) e) ?_ fun b o b1 b2 b3 e => hk₁ _ _ (by simpa using b2) (hkeep b o b1 b2 b3 e)
      rw [List.take_length] at hD
      exact hk₁ _ _ (by simpa using Ne.symm hID) hD
  exact start_in loop (W.self 0 _ _ _ ⟨hit, hl⟩ loop)
end
end PComp2
section PComp3
open LCg
section
variable {prog : Program} {w : World} {A : Around} {E : Value → Shared → Prop} {s : Shared} {h₀ : Heap} {L : Addr} {m : Str → Option Value} {env : Env}
noncomputable def Got2 (h₀ : Heap) (L : Addr) (m : Str → Option Value) (s : Shared) (I : Addr) (oI : Obj) (C : Addr) (oC : Obj) (D : Addr) (oD : Obj) (news : Led) (G : List Value → Prop) (y : Value) (s₂ : Shared) : Prop :=
  ∃ D2 vs c h' tk, y = .ref D2 ∧ s₂ = { s with heap := h', toks := tk } ∧ Fr h₀ L h' m ∧ News h₀ L h' ((D2, ({ cls := .type "list", data := .seq vs.toArray c } : Obj)) :: (I, oI) :: (C, oC) :: (D, oD) :: news) ∧ (I ≠ D2 ∧ C ≠ D2 ∧ D ≠ D2) ∧ vs.length ≤ 3 ∧ G vs
noncomputable def Item2 (prog : Program) (w : World) (A : Around) (h₀ : Heap) (L : Addr) (m : Str → Option Value) (env : Env) (i2 : PySem.Expr) (x : Str) (scope : Scope) (cl : List (Str × Addr)) (news : Led) (s : Shared) (v : Value) (G : List Value → Prop) : Prop :=
  ∀ I oI C oC D ys m₂ h tk (E' : Value → Shared → Prop), NsObj oC m₂ → m₂ x = some v → Fr h₀ L h m → News h₀ L h ((I, oI) :: (C, oC) :: (D, lst ys) :: news) → Off3 I C D news → ((@Ne Nat I C) ∧ (@Ne Nat I D) ∧ (@Ne Nat C D)) →
    wpAny (model prog w) A (eval i2 (compEnvC scope cl C env)) (Got2 h₀ L m { s with heap := h, toks := tk } I oI C oC D (lst ys) news G) E' { s with heap := h, toks := tk }
noncomputable def Src2 (prog : Program) (w : World) (A : Around) (h₀ : Heap) (L : Addr) (m : Str → Option Value) (env : Env) (i2 : PySem.Expr) (x : Str) (scope : Scope) (cl : List (Str × Addr)) (Q : Value → Shared → Prop) (xv : Value) (s₁ : Shared) : Prop :=
  ∃ ax v1 v2 k news G1 G2, xv = .ref ax ∧ A.handled = none ∧ Fr h₀ L s₁.heap m ∧ News h₀ L s₁.heap news ∧ (ax, ({ cls := .type "list", data := .seq #[v1, v2] k } : Obj)) ∈ news ∧ (∀ g, Item2 prog w A h₀ L m env i2 x scope cl news { s₁ with heap := g } v1 G1) ∧ (∀ g, Item2 prog w A h₀ L m env i2 x scope cl news { s₁ with heap := g } v2 G2) ∧ (∀ g vs1 vs2, G1 vs1 → G2 vs2 → FinE h₀ L m { s₁ with heap := g } Q (vs1 ++ vs2) news)
noncomputable def Stage2 (G1 G2 : List Value → Prop) (i : Nat) (ys : List Value) : Prop := (i = 0 ∧ ys = []) ∨ (i = 1 ∧ G1 ys ∧ ys.length ≤ 3) ∨ (i = 2 ∧ ∃ vs1 vs2, ys = vs1 ++ vs2 ∧ G1 vs1 ∧ G2 vs2 ∧ ys.length ≤ 6)
theorem comp2 {i1 i2 : PySem.Expr} {x y : Str} {px py pn : Pos} {scope : Scope} {cl : List (Str × Addr)} {pos : Pos} {Q : Value → Shared → Prop} (_F₀ : Fr h₀ L s.heap m)
    (hclos : closureFor scope env = pure cl) (hcell : ∀ y ∈ scope.names, y.2 ≠ .cell) (hkind : scope.kind = .function)
    (hnames : ∀ y ∈ scope.names, y.2 = .local → scope.names.lookup y.1 = some .local) (hx : scope.names.lookup x = some .local) (hy : scope.names.lookup y = some .local) (hd : (y == ("__debug__" : Str)) = false)
    (h : wpAny (model prog w) A (eval i1 env) (Src2 prog w A h₀ L m env i2 x scope cl Q) E s)
    (hs : ∀ x, foldedSetIterable i1 env x = pure x := by intro _; rfl) (hs2 : ∀ e x, foldedSetIterable i2 e x = pure x := by intro _ _; rfl) :
    wpAny (model prog w) A (eval (.ListComp (.Name y pn) [⟨.Name x px, i1, [], 0⟩, ⟨.Name y py, i2, [], 0⟩] scope pos) env) Q E s := by
  rw [eval_ListComp]
  refine wpAny_comprehension_free (use := none) rfl hs hclos hkind hnames (wpAny_mono h (fun xv s₁ h₁ => ?_) fun _ _ e => e)
  obtain ⟨ax, v1, v2, k, news, G1, G2, rfl, hh, F, N, hm, R1, R2, fin⟩ := h₁
  have hl : s₁.heap.IsList ax #[v1, v2] := ⟨_, (N _ hm).1, rfl, k, rfl⟩
  have hlt : ax < s₁.heap.objs.size := Heap.lt_size (N _ hm).1
  refine wpAny_pyIter_list hl ?_
  have up : ∀ b o, s₁.heap.get? b = some o → (s₁.heap.push { cls := .type "list_iterator", data := .fields #[.ref ax, .int 0 0] }).get? b = some o := fun b o e => Heap.get?_push_of_some _ e
  have F2 := F.keeps up
  have N2 := N.grown up
  have hI₂ : (s₁.heap.push { cls := .type "list_iterator", data := .fields #[.ref ax, .int 0 0] }).IsListIter s₁.heap.objs.size ax 0 := ⟨_, Heap.get?_push_size _ rfl, rfl, rfl⟩
  have hIL : L ≠ s₁.heap.objs.size := Nat.ne_of_lt F.ns.lt
  have hI0 := next_is_new F
  have offI : ∀ p ∈ news, p.1 ≠ s₁.heap.objs.size := fun p hp => Nat.ne_of_lt (Heap.lt_size (N p hp).1)
  have hsz1 : s₁.heap.objs.size < (s₁.heap.push { cls := .type "list_iterator", data := .fields #[.ref ax, .int 0 0] }).objs.size := by rw [Heap.size_push]; exact Nat.lt_succ_self _
  generalize s₁.heap.objs.size = I at *
  generalize s₁.heap.push { cls := .type "list_iterator", data := .fields #[.ref ax, .int 0 0] } = H1 at *
  refine wpAny_newObj_type (wpAny_newFunctionEnv hcell (by intro y hy; simp at hy) (fun h₁ hns₁ hsb₁ => ?_) hkind)
  dsimp only at hns₁ hsb₁ ⊢
  have hDlt : H1.objs.size < (H1.push { cls := .type "list", dict := none, data := .seq ([] : List Value).toArray }).objs.size := by rw [Heap.size_push]; exact Nat.lt_succ_self _
  have hacc0 : (H1.push { cls := .type "list", dict := none, data := .seq ([] : List Value).toArray }).get? H1.objs.size = some (lst []) := Heap.get?_push_size _ rfl
  have up2 : ∀ b o, H1.get? b = some o → (H1.push { cls := .type "list", dict := none, data := .seq ([] : List Value).toArray }).get? b = some o := fun b o e => Heap.get?_push_of_some _ e
  have hD0 := next_is_new F2
  have hLD : L ≠ H1.objs.size := Nat.ne_of_lt F2.ns.lt
  have F3 := F2.keeps up2
  have N3 := N2.grown up2
  have hC0 := next_is_new F3
  have hLC := Nat.ne_of_lt F3.ns.lt
  have offD : ∀ p ∈ news, p.1 ≠ H1.objs.size := fun p hp => Nat.ne_of_lt (Heap.lt_size (N2 p hp).1)
  have hI3 := (show (H1.push { cls := .type "list", dict := none, data := .seq ([] : List Value).toArray }).IsListIter I ax 0 from (let ⟨o, e, r⟩ := hI₂; ⟨o, up2 _ _ e, r⟩))
  have offC := fun (p : Addr × Obj) (hp : p ∈ news) => Nat.ne_of_lt (Heap.lt_size (N3 p hp).1)
  have hID : I ≠ H1.objs.size := Nat.ne_of_lt hsz1
  generalize H1.objs.size = D at *
  generalize H1.push { cls := .type "list", dict := none, data := .seq ([] : List Value).toArray } = H2 at *
  have hDC : D ≠ H2.objs.size := Nat.ne_of_lt hDlt
  have hIC : I ≠ H2.objs.size := by obtain ⟨o, e, _⟩ := hI3; exact Nat.ne_of_lt (Heap.lt_size e)
  generalize H2.objs.size = C at *
  have old : ∀ b o, b ≠ C → H2.get? b = some o → h₁.get? b = some o := fun b o hb e => hsb₁.extBut b o hb (Heap.get?_push_of_some _ e)
  have F4 := (F3.keeps (fun b o e => Heap.get?_push_of_some _ e)).change hsb₁ (Ne.symm hLC) hC0
  have N4 : News h₀ L h₁ news := fun p hp => ⟨old _ _ (offC p hp) (N3 p hp).1, (N3 p hp).2⟩
  have hDh : h₁.get? D = some (lst []) := old _ _ hDC hacc0
  have hIh : h₁.IsListIter I ax 0 := let ⟨o, e, r⟩ := hI3; ⟨o, old _ _ hIC e, r⟩
  have axI := offI _ hm
  have axD := offD _ hm
  have axC := offC _ hm
  have off3 : Off3 I C D news := Off3.of fun p hp => ⟨offI p hp, offC p hp, offD p hp⟩
  have W := Walks.list (prog := prog) (w := w) hh I ax axI #[v1, v2]
  have loop : ∀ s₃ : Shared, (∃ tk, s₃ = { s₁ with heap := h₁, toks := tk }) → codeAny (model prog w) A (.compLoop (.ListComp (.Name y pn) [⟨.Name x px, i1, [], 0⟩, ⟨.Name y py, i2, [], 0⟩] scope pos) 0 (.ref I) (.ref D) (compEnvC scope cl C env)) (compPost (model prog w) A E none Q (.ref D) C) s₃ := by
    rintro _ ⟨tk0, rfl⟩
    refine loop_out (fun k s' => ∃ h' tk i m' ys, s' = { s₁ with heap := h', toks := tk } ∧ i ≤ 2 ∧ k = 3 - i ∧ h'.IsListIter I ax i ∧ Fr h₀ L h' m ∧ h'.Ns C m' ∧ News h₀ L h' ((D, lst ys) :: news) ∧ Stage2 G1 G2 i ys) ?_ 3
      ⟨h₁, tk0, 0, _, [], rfl, by omega, rfl, hIh, F4, hns₁, fun p hp => ?_, .inl ⟨rfl, rfl⟩⟩ (by intro _; rfl) (hs2 _)
    · rintro k' s' ⟨h', tk, i, m', ys, rfl, hi, rfl, hit, F', hn', N', St⟩
      have hlst : h'.IsList ax #[v1, v2] := ⟨_, (N' _ (List.mem_cons_of_mem _ hm)).1, rfl, k, rfl⟩
      by_cases hlt2 : i < 2
      · refine W.item i _ _ _ hlt2 ⟨hit, hlst⟩ fun v h₂ tk₂ hP st₂ hk₂ => ?_
        refine wpAny_assign_Name (wpAny_storeName_local (lookup_relabel_local hx) (hn'.at' fun o e => hk₂ _ o (by simpa using Ne.symm hIC) e) (fun h₃ hn₃ hs₃ => ?_) (by simp [compEnvC, relabel, hkind]))
        have F₃ : Fr h₀ L h₃ m := (fr_but F' hk₂ hIL hI0).change hs₃ (Ne.symm hLC) hC0
        have N₂ : News h₀ L h₂ ((D, lst ys) :: news) := news_but N' hk₂ fun p hp => by
          rcases List.mem_cons.mp hp with rfl | hp
          · exact Ne.symm hID
          · exact offI p hp
        obtain ⟨oI, heI2, rI⟩ := st₂.1
        have heI : h₃.get? I = some oI := hs₃.extBut _ _ hIC heI2
        obtain ⟨oC, heC, hoC⟩ := ns_obj hn₃
        have N₃ : News h₀ L h₃ ((I, oI) :: (C, oC) :: (D, lst ys) :: news) := fun p hp => by
          rcases List.mem_cons.mp hp with rfl | hp
          · exact ⟨heI, Ne.symm hIL, hI0⟩
          · rcases List.mem_cons.mp hp with rfl | hp
            · exact ⟨heC, Ne.symm hLC, hC0⟩
            · have z := N₂ p hp
              refine ⟨hs₃.extBut _ _ ?_ z.1, z.2⟩
              rcases List.mem_cons.mp hp with rfl | hp
              · exact hDC
              · exact offC p hp
        have hItem : ∃ G, (∀ vs, G vs → vs.length ≤ 3 → Stage2 G1 G2 (i + 1) (ys ++ vs)) ∧ ys.length ≤ 3 ∧ ∀ g, Item2 prog w A h₀ L m env i2 x scope cl news { s₁ with heap := g } v G := by
          rcases St with ⟨rfl, rfl⟩ | ⟨rfl, g1, l1⟩ | ⟨rfl, _⟩
          · have : v1 = v := by simpa using hP
            subst this
            exact ⟨G1, fun vs hg hl => .inr (.inl ⟨rfl, hg, hl⟩), by simp, R1⟩
          · have : v2 = v := by simpa using hP
            subst this
            exact ⟨G2, fun vs hg hl => .inr (.inr ⟨rfl, ys, vs, rfl, g1, hg, by rw [List.length_append]; omega⟩), l1, R2⟩
          · omega
        obtain ⟨G, hG2, hys, hIt⟩ := hItem
        refine wpAny_mono (hIt h₃ I oI C oC D ys _ h₃ _ _ hoC (by simp) F₃ N₃ off3 ⟨hIC, hID, Ne.symm hDC⟩) (fun yv s₄ h₄ => ?_) fun _ _ e => e
        obtain ⟨D2, vs, c, h₄, tk₄, rfl, rfl, F₄, N₄, ⟨a1, a2, a3⟩, hlen, hG⟩ := h₄
        have zD2 := (N₄ _ List.mem_cons_self).1
        have zI := (N₄ (I, oI) (by simp)).1
        have zC := (N₄ (C, oC) (by simp)).1
        have zD := (N₄ (D, lst ys) (by simp)).1
        have F₅ := F₄.keeps (h' := h₄.push { cls := .type "list_iterator", data := .fields #[.ref D2, .int 0 0] }) fun b o e => Heap.get?_push_of_some _ e
        have J0 := next_is_new F₄
        have hLJ := Nat.ne_of_lt F₄.ns.lt
        refine wpAny_pyIter_list (items := vs.toArray) ⟨_, zD2, rfl, c, rfl⟩ ?_
        refine inner (C := C) (D := D) (ax := D2) (vs := vs) ys hh rfl (lookup_relabel_local hy) (by simp [compEnvC, relabel, hkind]) hd (Ne.symm (Nat.ne_of_lt (Heap.lt_size zC))) (Ne.symm (Nat.ne_of_lt (Heap.lt_size zD))) hDC (Nat.ne_of_lt (Heap.lt_size zD2)) (Ne.symm a2) (Ne.symm a3)
          ⟨_, Heap.get?_push_size _ rfl, rfl, rfl⟩ ⟨_, Heap.get?_push_of_some _ zD2, rfl, c, rfl⟩ (Heap.get?_push_of_some _ zD) (hoC.ns (Heap.get?_push_of_some _ zC)) (Nat.le_trans (by omega) (show 6 ≤ sizeLine by decide)) fun h₆ tk₆ m₆ hn₆ hD₆ hk₆ => ?_
        refine ⟨3 - (i + 1), by omega, h₆, tk₆, i + 1, m₆, ys ++ vs, rfl, hlt2, rfl, ⟨oI, hk₆ _ _ hIC (Nat.ne_of_lt (Heap.lt_size zI)) hID (Heap.get?_push_of_some _ zI), rI⟩, ?_, hn₆, ?_, hG2 vs hG hlen⟩
        · exact ⟨F₅.ns.at' fun o e => hk₆ _ o hLC hLJ hLD e, fun b o e => hk₆ b o (fun q => by rw [q, hC0] at e; cases e) (fun q => by rw [q, J0] at e; cases e) (fun q => by rw [q, hD0] at e; cases e) (F₅.keep b o e), F₅.above⟩
        · intro p hp
          rcases List.mem_cons.mp hp with rfl | hp
          · exact ⟨hD₆, Ne.symm hLD, hD0⟩
          · have z := N₄ p (by simp [hp])
            exact ⟨hk₆ _ _ (offC p hp) (Nat.ne_of_lt (Heap.lt_size z.1)) (offD p hp) (Heap.get?_push_of_some _ z.1), z.2⟩
      · obtain rfl : i = 2 := by omega
        refine W.done _ _ _ ⟨hit, hlst⟩ fun h₂ tk₂ hk₂ => ?_
        rcases St with ⟨e, _⟩ | ⟨e, _⟩ | ⟨_, vs1, vs2, rfl, g1, g2, _⟩
        · cases e
        · cases e
        refine ⟨m', hn'.at' fun o e => hk₂ _ o (by simpa using Ne.symm hIC) e, fun h₃ hs₃ => ?_⟩
        have F₂ := (fr_but F' hk₂ hIL hI0).change hs₃ (Ne.symm hLC) hC0
        have N₂ : News h₀ L h₂ ((D, lst (vs1 ++ vs2)) :: news) := news_but N' hk₂ fun p hp => by
          rcases List.mem_cons.mp hp with rfl | hp
          · exact Ne.symm hID
          · exact offI p hp
        refine fin h₃ vs1 vs2 g1 g2 D h₃ tk₂ F₂ (fun p hp => ?_) off3.one
        have z := N₂ p hp
        refine ⟨hs₃.extBut _ _ ?_ z.1, z.2⟩
        rcases List.mem_cons.mp hp with rfl | hp
        · exact hDC
        · exact offC p hp
    · rcases List.mem_cons.mp hp with rfl | hp
      · exact ⟨hDh, Ne.symm hLD, hD0⟩
      · exact N4 p hp
  refine codeAny_compStart_list (loop _ ⟨_, rfl⟩) (W.self 0 _ _ _ ⟨hIh, ⟨_, (N4 _ hm).1, rfl, k, rfl⟩⟩ (loop _ ⟨_, rfl⟩))
theorem Src2.intro {i2 : PySem.Expr} {x : Str} {scope : Scope} {cl : List (Str × Addr)} {Q : Value → Shared → Prop} {ax : Addr} {v1 v2 : Value} {k : Nat} {news : Led} {s₁ : Shared} (G1 G2 : List Value → Prop) (hh : A.handled = none) (F : Fr h₀ L s₁.heap m) (N : News h₀ L s₁.heap news) (hm : (ax, ({ cls := .type "list", data := .seq #[v1, v2] k } : Obj)) ∈ news)
    (R1 : ∀ g, Item2 prog w A h₀ L m env i2 x scope cl news { s₁ with heap := g } v1 G1) (R2 : ∀ g, Item2 prog w A h₀ L m env i2 x scope cl news { s₁ with heap := g } v2 G2) (fin : ∀ g vs1 vs2, G1 vs1 → G2 vs2 → FinE h₀ L m { s₁ with heap := g } Q (vs1 ++ vs2) news) :
    Src2 prog w A h₀ L m env i2 x scope cl Q (.ref ax) s₁ := ⟨ax, v1, v2, k, news, G1, G2, rfl, hh, F, N, hm, R1, R2, fin⟩
theorem Got2.intro {I C D D2 : Addr} {oI oC oD : Obj} {news all : Led} {G : List Value → Prop} {vs : List Value} {c : Nat} {h' : Heap} {tk : Nat} (F : Fr h₀ L h' m) (N : News h₀ L h' all) (sub : ∀ p ∈ (D2, ({ cls := .type "list", data := .seq vs.toArray c } : Obj)) :: (I, oI) :: (C, oC) :: (D, oD) :: news, p ∈ all) (n1 : I ≠ D2) (n2 : C ≠ D2) (n3 : D ≠ D2) (hl : vs.length ≤ 3) (g : G vs) :
    Got2 h₀ L m s I oI C oC D oD news G (.ref D2) { s with heap := h', toks := tk } := ⟨D2, vs, c, h', tk, rfl, rfl, F, fun p hp => N p (sub p hp), ⟨n1, n2, n3⟩, hl, g⟩
end
end PComp3
section PSre
open PySem.Sre
noncomputable def codeN : Array Nat := #[14, 10, 4, 1, 1, 22, 0, 31, 16, 127, 0, 13, 7, 22, 0, 31, 16, 127, 0, 1]
noncomputable def codeV : Array Nat := #[14, 14, 4, 1, 1, 9, 4294966783, 0, 0, 2147483648, 0, 0, 0, 0, 0, 13, 11, 9, 4294966783, 0, 0, 2147483648, 0, 0, 0, 0, 0, 1]
noncomputable def Plain (x : Array Nat) : Prop := ∀ c ∈ x, 32 ≤ c ∧ c < 127
theorem inN (seen : Sre.Seen) (c : Nat) (h : 32 ≤ c ∧ c < 127) : ∃ sn, inSet codeN c codeN.size 5 true seen = .ok (false, sn) := by
  show ∃ sn, inSet codeN c 20 5 true seen = .ok (false, sn)
  unfold inSet
  have e1 : ops[codeN.getD (5 + 0) 0]? = some .RANGE := by rfl
  have w1 : codeN.getD (5 + 1) 0 = 0 := by decide
  have w2 : codeN.getD (5 + 2) 0 = 31 := by decide
  simp only [e1, w1, w2]
  rw [if_neg (by simp; omega)]
  unfold inSet
  have e2 : ops[codeN.getD (5 + 3 + 0) 0]? = some .LITERAL := by rfl
  have w3 : codeN.getD (5 + 3 + 1) 0 = 127 := by decide
  simp only [e2, w3]
  rw [if_neg (by simp; omega)]
  unfold inSet
  have e3 : ops[codeN.getD (5 + 3 + 2 + 0) 0]? = some .FAILURE := by rfl
  simp only [e3]
  exact ⟨_, rfl⟩
theorem bitV : ∀ c : Nat, c < 127 → 32 ≤ c → (codeV.getD (5 + (1 + c / 32)) 0).testBit (c % 32) = false := by decide
theorem inV (seen : Sre.Seen) (c : Nat) (h : 32 ≤ c ∧ c < 127) : ∃ sn, inSet codeV c codeV.size 5 true seen = .ok (false, sn) := by
  show ∃ sn, inSet codeV c 28 5 true seen = .ok (false, sn)
  unfold inSet
  have e1 : ops[codeV.getD (5 + 0) 0]? = some .CHARSET := by rfl
  simp only [e1]
  rw [bitV c h.2 h.1]
  simp only [Bool.and_false, Bool.false_eq_true, if_false]
  unfold inSet
  have e2 : ops[codeV.getD (5 + 9 + 0) 0]? = some .FAILURE := by rfl
  simp only [e2]
  exact ⟨_, rfl⟩
theorem adm_none {m : M} (hin : ∀ seen s, s < m.lim → ∃ sn, inSet m.code (m.text.getD s 0) m.code.size 5 true seen = .ok (false, sn)) : ∀ fuel s seen, ∃ sn, m.admitted fuel s seen = .ok (none, sn) := by
  intro fuel
  induction fuel with
  | zero => intro s seen; exact ⟨_, rfl⟩
  | succ n ih =>
    intro s seen
    unfold M.admitted
    by_cases h : s ≥ m.lim
    · rw [if_pos h]; exact ⟨_, rfl⟩
    · rw [if_neg h]
      obtain ⟨sn, e⟩ := hin seen s (by omega)
      rw [e]
      exact ih (s + 1) sn
theorem search_fails {code text : Array Nat} (hc : code = codeN ∨ code = codeV) (ht : Plain text) (lim : Nat) (hl : lim ≤ text.size) : (M.runFor 4 (forSearch code text 0 0 lim false)).outcome = some .failed := by
  have hin : ∀ (m : M), m.code = code → m.text = text → m.lim = lim → ∀ seen s, s < m.lim → ∃ sn, inSet m.code (m.text.getD s 0) m.code.size 5 true seen = .ok (false, sn) := by
    intro m e1 e2 e3 seen s hs
    rw [e3] at hs
    rw [e1, e2]
    have hcs : 32 ≤ text.getD s 0 ∧ text.getD s 0 < 127 := by
      have hs' : s < text.size := by omega
      have : text.getD s 0 = text[s] := by simp [Array.getD, hs']
      rw [this]
      exact ht _ (Array.getElem_mem hs')
    rcases hc with rfl | rfl
    · exact inN seen _ hcs
    · exact inV seen _ hcs
  have key : ∀ (m : M), m.code = code → m.text = text → m.lim = lim → m.hasFirstSet = true → m.answer = none → m.frames = [] → m.outcome = none → (M.runFor 4 (m.attemptFrom 0 true)).outcome = some .failed := by
    intro m e1 e2 e3 e4 e5 e6 e7
    unfold M.attemptFrom
    rw [e4]
    obtain ⟨sn, e⟩ := adm_none (hin m e1 e2 e3) (m.lim + 1 - 0) 0 m.seen
    simp only [Bool.not_true, Bool.false_eq_true, if_false, e]
    simp only [M.say, M.runFor, e7, Option.isSome_none, Bool.false_eq_true, if_false]
    simp only [M.step, e7, e6, Option.isSome_none, Bool.false_eq_true, if_false, Option.isSome_some, if_true]
  unfold forSearch
  by_cases hz : (0 > lim ∨ lim - 0 < (header code).1)
  · simp only
    rcases hc with rfl | rfl <;> (rw [if_pos (by simpa using hz)]; rfl)
  · simp only
    rcases hc with rfl | rfl <;> (rw [if_neg (by simpa using hz)]; exact key _ rfl rfl rfl rfl rfl rfl rfl)
end PSre
section PSre2
open PySem.Builtin.Re
theorem plainAttrs_pat : PlainAttrs "re.Pattern" :=
  ⟨⟨"object.__getattribute__", by rw [typeLookup_type, builtinLookup_eq_fast]; kernel_rfl, by decide +kernel⟩, by rw [typeLookup_type, builtinLookup_eq_fast]; kernel_rfl⟩
theorem slot_search : Slot "re.Pattern" "search" "re.Pattern.search" :=
  .of (owner := "re.Pattern") (n := "search") (by rw [typeLookup_type, builtinLookup_eq_fast]; kernel_rfl) (by decide +kernel) (by decide +kernel) (by decide +kernel)
    (by first | exact .inl (by decide +kernel) | exact .inr (by decide +kernel)) (by rw [isSubtype_type]; kernel_rfl)
theorem type_search : typeOf (.builtin "re.Pattern.search") = pure (.type "method_descriptor") := by show builtinType _ = _; rw [builtinType_eq_fast]; kernel_rfl
theorem entry_search : entryFor table "re.Pattern.search" = some Builtin.«re.Pattern.search» := entryFor_of_fast (by kernel_rfl)
theorem args_search (a b : Value) : argsOk "re.Pattern.search" ⟨[a, b], []⟩ := by unfold argsOk; kernel_rfl
noncomputable def patOf (q : Str) (t u : Tok) (c : Addr) : Obj := { cls := .type "re.Pattern", data := .fields #[.str q t, .int 32 u, .int 0 0, .none, .none, .ref c, .int 0 0] }
section
variable {prog : Program} {w : World} {A : Around} {E : Value → Shared → Prop} {s : Shared}
theorem getm_search {a c : Addr} {q : Str} {t u : Tok} {pl : Sem Bool} {Q : Value × List Value → Shared → Prop} (ho : s.heap.get? a = some (patOf q t u c)) (h : Q (.builtin "re.Pattern.search", [.ref a]) s) :
    wpAny (model prog w) A (getMethod (.ref a) (Str.ofString "search") pl) Q E s :=
  getMethod_builtin (T := "re.Pattern") ⟨_, ho, rfl⟩ plainAttrs_pat slot_search type_search (fun b e => by cases e; exact ⟨_, ho, rfl⟩) h
theorem drive_ends {m : Sre.M} {Q : Sre.M → Shared → Prop} (h : (m.runFor 4).outcome.isSome = true) (hq : Q (m.runFor 4) s) : wpAny (model prog w) A (reDrive (2 ^ 64) m) Q E s := by
  show wpAny (model prog w) A (reDrive ((2 ^ 64 - 1) + 1) m) Q E s
  unfold reDrive
  simp only [reTurnSteps, h, if_true]
  exact wpAny_pure hq
theorem for_rules {b : Nat → Bool} {t : Nat → String} {Q : PUnit → Shared → Prop} : ∀ (l : List Nat), Q PUnit.unit s → wpAny (model prog w) A (forIn l PUnit.unit fun i _ => if b i = true then (do rule (t i); pure (ForInStep.yield PUnit.unit)) else pure (ForInStep.yield PUnit.unit)) Q E s
  | [], h => by rw [List.forIn_nil]; exact wpAny_pure h
  | i :: l, h => by
    rw [List.forIn_cons]
    refine wpAny_bind ?_
    cases b i with
    | true => exact wpAny_bind (wpAny_rule (wpAny_pure (for_rules l h)))
    | false => exact wpAny_pure (for_rules l h)
theorem search_builtin {a c : Addr} {q x : Str} {t u tx : Tok} {its : Array Value} {n : Nat} {Q : Value → Shared → Prop} (ho : s.heap.get? a = some (patOf q t u c)) (hc : s.heap.get? c = some { cls := .type "tuple", data := .seq its n })
    (hcode : (its.map reRawOf).map (·.toNat) = codeN ∨ (its.map reRawOf).map (·.toNat) = codeV) (hx : Plain x.cps) (h : Q .none s) :
    wpAny (model prog w) A (call (.builtin "re.Pattern.search") [.ref a, .str x tx]) Q E s := by
  refine wpAny_call_entry slot_search ⟨_, ho, rfl⟩ entry_search ?_ (args_search _ _)
  unfold Builtin.«re.Pattern.search»
  have e1 : reNamed "re.Pattern.search" "search" ["string", "pos", "endpos"] 1 [Value.str x tx] [] = pure [some (.str x tx), none, none] := by rfl
  refine wpAny_bind ?_
  unfold reTarget
  simp only [e1, pure_bind]
  refine wpAny_bind (wpAny_fieldsOf ho rfl ?_)
  have e2 : reTextOf (.str x tx) = pure (x.cps, 0) := by rfl
  rw [e2, pure_bind]
  have f6 : reRawNat ((#[Value.str q t, .int 32 u, .int 0 0, .none, .none, .ref c, .int 0 0] : Array Value).getD 6 .none) = 0 := rfl
  simp only [f6]
  rw [if_neg (by decide), if_neg (by decide)]
  have e3 : reNoCollectionInside (.str x tx) 0 = pure () := by rfl
  rw [e3, pure_bind]
  refine wpAny_bind ?_
  unfold reRawItems
  refine wpAny_bind (wpAny_seqItems hc rfl ?_)
  refine wpAny_pure (wpAny_pure ?_)
  unfold reAnswer
  refine wpAny_bind ?_
  unfold reRunToEnd
  refine wpAny_bind ?_
  have hf := search_fails hcode hx (min (2 ^ 63 - 1 : Int).toNat x.cps.size) (Nat.min_le_right _ _)
  refine drive_ends ?_ ?_
  · show (Sre.M.runFor 4 (Sre.forSearch _ x.cps 0 0 (min (2 ^ 63 - 1 : Int).toNat x.cps.size) false)).outcome.isSome = true
    exact congrArg Option.isSome hf
  refine wpAny_bind (for_rules _ ?_)
  split
  · rename_i h9; exact absurd (h9.symm.trans hf) (by simp)
  · exact wpAny_pure (wpAny_pure ⟨_, rfl, h⟩)
  · rename_i h9; exact absurd (h9.symm.trans hf) (by simp)
  · rename_i h9; exact absurd (h9.symm.trans hf) (by simp)
end
noncomputable def qN : Str := { cps := #[91, 92, 120, 48, 48, 45, 92, 120, 49, 70, 92, 120, 55, 70, 93] }
noncomputable def qV : Str := { cps := #[91, 92, 120, 48, 48, 45, 92, 120, 48, 56, 92, 120, 48, 65, 45, 92, 120, 49, 70, 92, 120, 55, 70, 93] }
noncomputable def itsN : Array Value := #[.int 14 0, .int 10 0, .int 4 0, .int 1 0, .int 1 0, .int 22 0, .int 0 0, .int 31 0, .int 16 0, .int 127 0, .int 0 0, .int 13 0, .int 7 0, .int 22 0, .int 0 0, .int 31 0, .int 16 0, .int 127 0, .int 0 0, .int 1 0]
noncomputable def itsV : Array Value := #[.int 14 0, .int 14 0, .int 4 0, .int 1 0, .int 1 0, .int 9 0, .int 4294966783 0, .int 0 0, .int 0 0, .int 2147483648 0, .int 0 0, .int 0 0, .int 0 0, .int 0 0, .int 0 0, .int 13 0, .int 11 0, .int 9 0, .int 4294966783 0, .int 0 0, .int 0 0, .int 2147483648 0, .int 0 0, .int 0 0, .int 0 0, .int 0 0, .int 0 0, .int 1 0]
theorem atN (P : Params) : (heapK P).lookup 120 = some (patOf qN 460 483 119) := by rfl
theorem atV (P : Params) : (heapK P).lookup 125 = some (patOf qV 486 517 124) := by rfl
theorem atN' (P : Params) : (heapK P).lookup 119 = some { cls := .type "tuple", data := .seq itsN 0 } := by rfl
theorem atV' (P : Params) : (heapK P).lookup 124 = some { cls := .type "tuple", data := .seq itsV 0 } := by rfl
theorem codeN_is : (itsN.map reRawOf).map (·.toNat) = codeN := by apply Array.ext'; rw [Array.toList_map, Array.toList_map]; rfl
theorem codeV_is : (itsV.map reRawOf).map (·.toNat) = codeV := by apply Array.ext'; rw [Array.toList_map, Array.toList_map]; rfl
section
variable {prog : Program} {w : World} {A : Around} {E : Value → Shared → Prop} {s : Shared} {h₀ : Heap} {L : Addr} {m : Str → Option Value}
theorem getm_N {pl : Sem Bool} {Q : Value × List Value → Shared → Prop} (F : Fr h₀ L s.heap m) (X : (heapK w.params).In h₀) (h : Q (.builtin "re.Pattern.search", [.ref 120]) s) :
    wpAny (model prog w) A (getMethod (.ref 120) (Str.ofString "search") pl) Q E s := getm_search (F.keep _ _ (X _ _ (atN _))) h
theorem getm_V {pl : Sem Bool} {Q : Value × List Value → Shared → Prop} (F : Fr h₀ L s.heap m) (X : (heapK w.params).In h₀) (h : Q (.builtin "re.Pattern.search", [.ref 125]) s) :
    wpAny (model prog w) A (getMethod (.ref 125) (Str.ofString "search") pl) Q E s := getm_search (F.keep _ _ (X _ _ (atV _))) h
theorem search_N {x : Str} {tx : Tok} {Q : Value → Shared → Prop} (F : Fr h₀ L s.heap m) (X : (heapK w.params).In h₀) (hx : Plain x.cps) (h : Q .none s) :
    wpAny (model prog w) A (call (.builtin "re.Pattern.search") [.ref 120, .str x tx]) Q E s := search_builtin (F.keep _ _ (X _ _ (atN _))) (F.keep _ _ (X _ _ (atN' _))) (.inl codeN_is) hx h
theorem search_V {x : Str} {tx : Tok} {Q : Value → Shared → Prop} (F : Fr h₀ L s.heap m) (X : (heapK w.params).In h₀) (hx : Plain x.cps) (h : Q .none s) :
    wpAny (model prog w) A (call (.builtin "re.Pattern.search") [.ref 125, .str x tx]) Q E s := search_builtin (F.keep _ _ (X _ _ (atV _))) (F.keep _ _ (X _ _ (atV' _))) (.inr codeV_is) hx h
end
end PSre2
section PConv
noncomputable abbrev ClaimK (w : World) (p : Program) (loose : List Str) (mean : ExcName → Option Value) (mg mb : Str → Option Value) (f : Value) (n : Nat) (vs : List Value) (kw : List (Str × Value)) (news : Led) (Ret : (Led → Value → Prop) → Prop) : Prop :=
  ∀ (dp un : Nat) (gd : Option (List Code)) (cn : Str) (cs : Scope) (a : Addr) (ccd : Value) (cl : List (Str × Addr)) (outer : List Env) (A₀ : Around) (base h₀ : Heap) (L : Addr) (m : Str → Option Value) (s : Shared) (Q E : Value → Shared → Prop),
    Below A₀ base outer h₀ → Fr h₀ L s.heap m → (heapK w.params).In h₀ → News h₀ L s.heap news → Top p loose mean mg mb h₀ → cs.kind = .function → dp + n < recursionLimit → un + 8 * n < cLine →
    Ret (fun tl r => ∀ (h' : Heap) (tk' : Nat), Fr h₀ L h' m → News h₀ L h' (tl ++ news) → Above tl news → Q r { s with heap := h', toks := tk' }) →
    wpAny (model PySem.Challenge.rw_kl0382_01.row.toRowW.prog w) (ktrTop dp un gd cn cs L a ccd cl outer) (call f vs kw) Q E s
section
variable {w : World} {p : Program} {loose : List Str} {mean : ExcName → Option Value} {mg mb : Str → Option Value}

theorem ln_19 : True := by
  (k_with "getMethod ref" => ((with_reducible show wpAny _ _ (getMethod (Value.ref 120) _ _) _ _ _); k_dflt (refine' getm_N ?f ?x ?_; (case f => k_asm); (case x => k_asm))))
  (k_with "getMethod ref" => ((with_reducible show wpAny _ _ (getMethod (Value.ref 125) _ _) _ _ _); k_dflt (refine' getm_V ?f ?x ?_; (case f => k_asm); (case x => k_asm))))
  (k_with "call builtin:re.Pattern.search" => ((with_reducible show wpAny _ _ (call (Value.builtin _) [Value.ref 120, _]) _ _ _); k_dflt (refine' search_N ?f ?x ?hx ?_; (case f => k_asm); (case x => k_asm); (case hx => with_reducible assumption))))
  (k_with "call builtin:re.Pattern.search" => ((with_reducible show wpAny _ _ (call (Value.builtin _) [Value.ref 125, _]) _ _ _); k_dflt (refine' search_V ?f ?x ?hx ?_; (case f => k_asm); (case x => k_asm); (case hx => with_reducible assumption))))
  trivial
theorem conv_c {news : Led} {self : Value} {x : Str} {tx : Tok} {b : Bool} (hx : Plain x.cps) : ClaimK w p loose mean mg mb (.ref 155) 2 [self, .str x tx] [(Str.ofString "name", .bool b)] news (fun K => K [] (.str x tx)) := by
  cases b
  all_goals (
    (revert w p loose mean mg mb news self x tx; (first | (k_dflt (refine' (us8 neW neProg neLs neMean neFr neFr neLed neVal ?z9sl ((?_ : L8 _ _ _ _ _ _ _ _ _) () ()) :); (case z9sl => k_extra "m:slot"); intros u8 w p loose mean mg mb news self u9; clear u8 u9; k_extra "m:cl")) | (refine (sk8 neW neProg neLs neMean neFr neFr neLed neVal ((?_ : ∀ (w : World) (p : Program) (loose : List Str) (mean : ExcName → Option Value) (mg : Str → Option Value) (mb : Str → Option Value) (news : Led) (self : Value), _) _ _ _ _ _ _ _ _) :); intros w p loose mean mg mb news self)); (first | (k_dflt (refine' (us2 neStr neTok ?z9sl ((?_ : L2 _ _ _) () ()) :); (case z9sl => k_extra "m:slot"); intros u8 x tx u9; clear u8 u9; k_extra "m:cl")) | (refine (sk2 neStr neTok ((?_ : ∀ (x : Str) (tx : Tok), _) _ _) :); intros x tx)); intros hx)
    k_extra "m:fill"; unfold ClaimK; k_extra "m:skC"; intros B F X N T hk hd9 hu9 hret; (refine wpAny_call ?_); k_dflt (k_extra "m:center")
    k_steps
    all_goals exact hret _ _ (by k_asm) (by k_asm) trivial)
end
end PConv
section PNm
noncomputable def nmS (i j : Nat) : Str := ⟨#[65 + i, 97 + j]⟩
noncomputable def loS (i j : Nat) : Str := ⟨#[97 + i, 97 + j]⟩
noncomputable def upS (i j : Nat) : Str := ⟨#[65 + i, 65 + j]⟩
theorem asc2 {a b : Nat} (ha : a < 128) (hb : b < 128) : ∀ c ∈ (⟨#[a, b]⟩ : Str).cps.toList, c < 128 := by
  intro c hc; simp at hc; omega
theorem lo_two {a b : Nat} (ha : a < 128) (hb : b < 128) : Txt.lower ⟨#[a, b]⟩ = ⟨#[lo1 a, lo1 b]⟩ := by rw [lower_ascii (asc2 ha hb)]; simp
theorem up_two {a b : Nat} (ha : a < 128) (hb : b < 128) : Txt.upper ⟨#[a, b]⟩ = ⟨#[up1 a, up1 b]⟩ := by rw [upper_ascii (asc2 ha hb)]; simp
theorem nm_lo {i j : Nat} (hi : i < 25) (hj : j < 25) : Txt.lower (nmS i j) = loS i j := by
  unfold nmS loS; rw [lo_two (by omega) (by omega)]; unfold lo1; rw [if_pos (by omega), if_neg (by omega)]; rw [show 65 + i + 32 = 97 + i by omega]
theorem lo_lo {i j : Nat} (hi : i < 25) (hj : j < 25) : Txt.lower (loS i j) = loS i j := by
  unfold loS; rw [lo_two (by omega) (by omega)]; unfold lo1; rw [if_neg (by omega), if_neg (by omega)]
theorem up_lo {i j : Nat} (hi : i < 25) (hj : j < 25) : Txt.lower (upS i j) = loS i j := by
  unfold upS loS; rw [lo_two (by omega) (by omega)]; unfold lo1; rw [if_pos (by omega), if_pos (by omega)]; rw [show 65 + i + 32 = 97 + i by omega, show 65 + j + 32 = 97 + j by lia]
theorem nm_up {i j : Nat} (hi : i < 25) (hj : j < 25) : Txt.upper (nmS i j) = upS i j := by
  unfold nmS upS; rw [up_two (by omega) (by omega)]; unfold up1; rw [if_neg (by omega), if_pos (by omega)]; rw [show 97 + j - 32 = 65 + j by lia]
theorem plain_lo {i j : Nat} (hi : i < 25) (hj : j < 25) : Plain (loS i j).cps := by
  intro c hc; simp [loS] at hc; omega
theorem plain_up {i j : Nat} (hi : i < 25) (hj : j < 25) : Plain (upS i j).cps := by
  intro c hc; simp [upS] at hc; omega
theorem lo_inj {i j a b : Nat} : loS i j = loS a b ↔ i = a ∧ j = b := by
  unfold loS; simp
theorem plain_nm {i j : Nat} (hi : i < 25) (hj : j < 25) : Plain (nmS i j).cps := by
  intro c hc; simp [nmS] at hc; omega
end PNm
section PGet
section
variable {w : World} {p : Program} {loose : List Str} {mean : ExcName → Option Value} {mg mb : Str → Option Value}
noncomputable def hdEntry (w : World) (k : Str) (tk : Tok) (v : Value) : DictEntry := { hash := PyData.keyHash w.params k, key := .str k tk, val := v }
noncomputable abbrev Row := Nat × Nat × Str
/-- the rows of a list of pairs in the ledger -/
noncomputable def RowsIn (news : Led) (hvs : Array Value) (rows : List Row) : Prop := hvs.size = rows.length ∧ ∀ (i : Nat) (r : Row), rows[i]? = some r → ∃ D ta tb, hvs[i]? = some (.ref D) ∧ (D, tupO #[.str (nmS r.1 r.2.1) ta, .str r.2.2 tb]) ∈ news
/-- a table of headers in the ledger -/
structure TabIn (w : World) (news : Led) (tb dx hl : Addr) (hvs : Array Value) (n : Nat) (tk : Tok) : Prop where
  inst : (tb, instObj 256 dx) ∈ news
  dict : (dx, dictOf [hdEntry w (Str.ofString "_headers") tk (.ref hl)] 1) ∈ news
  list : (hl, listOf hvs n) ∈ news
theorem ln_20 : True := by
  (k_with "m:enterD" => (k_extra "m:fill"; unfold Claim; k_extra "m:skC"; intros B F X N T hk hd9 hu9 hret; (refine wpAny_call ?_); k_dflt (refine' code_def ?k1 ?k2 ?k3 ?k4 ?k5 ?kA ?kF ?kK ?k6 ?k7 ?k8 ?k9 ?kB ?_ ?c2 ?c3 ?c4 ?c5; (case kA => exact rfl); (case kF => exact rfl); (case kK => assumption); k_extra "m:std1"; (case k6 => k_is); (case k7 => k_is); (case k8 => (first | k_extra "m:room" | ktr_room)); (case k9 => first | exact BindsTo.of_eq rfl | exact binds_K (by k_in) rfl (by k_is) rfl rfl rfl); (case c5 => decide); (case kB => exact locs rfl); (case c2 => exact rfl); (case c3 => exact rfl); (case c4 => exact rfl); k_whole; ((first | (k_dflt (refine' (us3 neHeap neNat neHeap ?z9sl ((?_ : L3 _ _ _ _) () ()) :); (case z9sl => k_extra "m:slot"); intros u8 g' L' h' u9; clear u8 u9; k_extra "m:cl")) | (refine (sk3 neHeap neNat neHeap ((?_ : ∀ (g' : Heap) (L' : Addr) (h' : Heap), _) _ _ _) :); intros g' L' h'))); intros FG' F' N' B' X' T'; (try dsimp only); (try k_lift B'))))
  (k_with "exec For Tuple" => (k_dflt (refine wpAny_For ?_)))
  (k_with "call ref" => ((with_reducible show wpAny _ _ (call (Value.ref 155) _ _) _ _ _); k_here; k_dflt (refine' conv_c ?z9hx _ _ _ _ _ _ _ _ _ _ _ _ _ _ _ _ _ ?k1 ?k2 ?k3 ?k4 ?k5 ?kK ?kd ?ku ?_; (case z9hx => with_reducible assumption); k_extra "m:std"; k_whole); k_extra "m:got0"))
  (k_with "call builtin:str.lower" => ((with_reducible show wpAny _ _ (call (Value.builtin "str.lower") [Value.str _ _]) _ _ _); k_dflt (refine' KXw.lower ?z9e ?z9f ?_; (case z9e => with_reducible assumption); (case z9f => (rw [‹Txt.lower _ = _›]; rfl)); ((first | (k_dflt (refine' (us2 neTok neNat ?z9sl ((?_ : L2 _ _ _) () ()) :); (case z9sl => k_extra "m:slot"); intros u8 t9 k9 u9; clear u8 u9; k_extra "m:cl")) | (refine (sk2 neTok neNat ((?_ : ∀ (t9 : Tok) (k9 : Nat), _) _ _) :); intros t9 k9))))))
  (k_with "eval Name" => ((first | (with_reducible show wpAny _ _ (eval (PySem.Expr.Name (Str.ofString "name") _) _) _ _ _) | (with_reducible show wpAny _ _ (eval (PySem.Expr.Name (Str.ofString "default") _) _) _ _ _)); k_here; k_dflt (refine' ld ?k1 ?k2 ?_; (case k1 => k_asm); (case k2 => first | (with_reducible assumption) | ((repeat (refine (if_neg (by decide)).trans ?_)); with_reducible assumption)); k_whole)))
  trivial
theorem get_c {news : Led} {tb dx hl : Addr} {hvs : Array Value} {n : Nat} {tk t1 : Tok} {x : Str} {ia ib : Nat} (hx : Txt.lower x = loS ia ib) (ha : ia < 25) (hb : ib < 25) {rows : List Row} (hR : RowsIn news hvs rows) (hB : ∀ r ∈ rows, r.1 < 25 ∧ r.2.1 < 25) (hT : TabIn w news tb dx hl hvs n tk) : Claim w p loose mean mg mb (.ref 203) 4 [.ref tb, .str x t1] news (fun K => match rows.find? (fun r => r.1 == ia && r.2.1 == ib) with | some r => ∀ t, K [] (.str r.2.2 t) | none => K [] .none) := by
  (revert w p loose mean mg mb news tb dx hl hvs n tk t1 x ia ib rows; (first | (k_dflt (refine' (us8 neW neProg neLs neMean neFr neFr neLed neNat ?z9sl ((?_ : L8 _ _ _ _ _ _ _ _ _) () ()) :); (case z9sl => k_extra "m:slot"); intros u8 w p loose mean mg mb news tb u9; clear u8 u9; k_extra "m:cl")) | (refine (sk8 neW neProg neLs neMean neFr neFr neLed neNat ((?_ : ∀ (w : World) (p : Program) (loose : List Str) (mean : ExcName → Option Value) (mg : Str → Option Value) (mb : Str → Option Value) (news : Led) (tb : Addr), _) _ _ _ _ _ _ _ _) :); intros w p loose mean mg mb news tb)); (first | (k_dflt (refine' (us8 neNat neNat neArr neNat neTok neTok neStr neNat ?z9sl ((?_ : L8 _ _ _ _ _ _ _ _ _) () ()) :); (case z9sl => k_extra "m:slot"); intros u8 dx hl hvs n tk t1 x ia u9; clear u8 u9; k_extra "m:cl")) | (refine (sk8 neNat neNat neArr neNat neTok neTok neStr neNat ((?_ : ∀ (dx : Addr) (hl : Addr) (hvs : Array Value) (n : Nat) (tk : Tok) (t1 : Tok) (x : Str) (ia : Nat), _) _ _ _ _ _ _ _ _) :); intros dx hl hvs n tk t1 x ia)); (first | (k_dflt (refine' (us1 neNat ?z9sl ((?_ : L1 _ _) () ()) :); (case z9sl => k_extra "m:slot"); intros u8 ib u9; clear u8 u9; k_extra "m:cl")) | (refine (sk1 neNat ((?_ : ∀ (ib : Nat), _) _) :); intros ib)); intros hx ha hb; (first | (k_dflt (refine' (us1 neList ?z9sl ((?_ : L1 _ _) () ()) :); (case z9sl => k_extra "m:slot"); intros u8 rows u9; clear u8 u9; k_extra "m:cl")) | (refine (sk1 neList ((?_ : ∀ (rows : List Row), _) _) :); intros rows)); intros hR hB hT)
  have hp := plain_lo ha hb
  have hll := lo_lo ha hb
  obtain ⟨m1, m2, m3⟩ := hT
  unfold hdEntry at m2
  k_extra "m:enterD"
  k_steps

  refine for_list (items := hvs) (fun i m₁ news₁ => news₁ = news ∧ (∃ t', m₁ (Str.ofString "name") = some (.str (loS ia ib) t')) ∧ m₁ (Str.ofString "default") = some .none ∧ (∀ j r, j < i → rows[j]? = some r → ¬ (r.1 = ia ∧ r.2.1 = ib))) rfl ?go (by k_asm) (by k_asm) ?j0 ?lst ?turn ?done
  case go =>
    intro I i v s Q E hv hit hq
    obtain ⟨hsz, hr⟩ := hR
    have hi : i < rows.length := by
      rw [← hsz]
      exact (Array.getElem?_eq_some_iff.mp hv).1
    obtain ⟨D, ta, tb, e, _⟩ := hr i _ (List.getElem?_eq_getElem hi)
    rw [hv] at e
    cases Option.some.inj e
    exact wpAny_letOwnedTupleGo_listiter hit hq
  case j0 => exact ⟨rfl, ⟨_, rfl⟩, rfl, fun j r hj => absurd hj (Nat.not_lt_zero _)⟩
  case lst =>
    rintro i m₁ news₁ h ⟨rfl, _⟩ F9 N9
    exact N9.isList m3
  case turn =>
    ((first | (k_dflt (refine' (us8 neNat neObj neNat neVal neFr neLed neHeap neNat ?z9sl ((?_ : L8 _ _ _ _ _ _ _ _ _) () ()) :); (case z9sl => k_extra "m:slot"); intros u8 I o i v m₁ news₁ h tk u9; clear u8 u9; k_extra "m:cl")) | (refine (sk8 neNat neObj neNat neVal neFr neLed neHeap neNat ((?_ : ∀ (I : Addr) (o : Obj) (i : Nat) (v : Value) (m₁ : Str → Option Value) (news₁ : Led) (h : Heap) (tk : Nat), _) _ _ _ _ _ _ _ _) :); intros I o i v m₁ news₁ h tk)))
    rintro hI hv ⟨rfl, ht9, hdf, hno⟩ hne F9 N9
    refine ex1 ht9 ?_
    ((first | (k_dflt (refine' (us1 neTok ?z9sl ((?_ : L1 _ _) () ()) :); (case z9sl => k_extra "m:slot"); intros u8 t' u9; clear u8 u9; k_extra "m:cl")) | (refine (sk1 neTok ((?_ : ∀ (t' : Tok), _) _) :); intros t')))
    intro hn
    clear ht9
    obtain ⟨hsz, hr⟩ := hR
    have hi : i < rows.length := by
      rw [← hsz]
      exact (Array.getElem?_eq_some_iff.mp hv).1
    refine ex3 (hr i _ (List.getElem?_eq_getElem hi)) ?_
    ((first | (k_dflt (refine' (us3 neNat neTok neTok ?z9sl ((?_ : L3 _ _ _ _) () ()) :); (case z9sl => k_extra "m:slot"); intros u8 D ta tb u9; clear u8 u9; k_extra "m:cl")) | (refine (sk3 neNat neTok neTok ((?_ : ∀ (D : Addr) (ta : Tok) (tb : Tok), _) _ _ _) :); intros D ta tb)))
    rintro ⟨e, hD⟩
    rw [hv] at e
    cases Option.some.inj e
    clear e
    have hll2 := nm_lo (hB _ (List.getElem_mem hi)).1 (hB _ (List.getElem_mem hi)).2
    k_steps
    · rename_i hc
      dsimp only [TurnK]
      k_steps
      have hc : rows[i].1 = ia ∧ rows[i].2.1 = ib := lo_inj.mp (by simpa using hc)
      have hf : rows.find? (fun r => r.1 == ia && r.2.1 == ib) = some rows[i] := by
        rw [List.find?_eq_some_iff_getElem]
        refine ⟨by simp [hc.1, hc.2], i, hi, rfl, fun j hj => ?_⟩
        have z := hno j rows[j] hj (List.getElem?_eq_getElem _)
        simp only [Bool.not_eq_true', Bool.and_eq_false_iff, beq_eq_false_iff_ne]
        by_cases h1 : rows[j].1 = ia
        · exact .inr fun h2 => z ⟨h1, h2⟩
        · exact .inl h1
      rw [hf] at hret
      exact hret _ _ _ (by assumption) (fun p hp => ‹News h₀ L _ _› p (by first | exact hp | exact .tail _ hp)) trivial
    · rename_i hc
      dsimp only [TurnK]
      refine ⟨_, _, _, _, rfl, by assumption, by assumption, hne, rfl, ⟨t', ?_⟩, ?_, ?_⟩
      · (repeat (refine (if_neg (by decide)).trans ?_)); with_reducible assumption
      · (repeat (refine (if_neg (by decide)).trans ?_)); with_reducible assumption
      · intro j r hj hr' hx
        by_cases hji : j < i
        · exact hno j r hji hr' hx
        · have : j = i := by omega
          subst this
          rw [List.getElem?_eq_getElem hi] at hr'
          cases Option.some.inj hr'
          rw [hx.1, hx.2] at hc
          simp at hc
  case done =>
    ((first | (k_dflt (refine' (us4 neFr neLed neHeap neNat ?z9sl ((?_ : L4 _ _ _ _ _) () ()) :); (case z9sl => k_extra "m:slot"); intros u8 m₁ news₁ h tk u9; clear u8 u9; k_extra "m:cl")) | (refine (sk4 neFr neLed neHeap neNat ((?_ : ∀ (m₁ : Str → Option Value) (news₁ : Led) (h : Heap) (tk : Nat), _) _ _ _ _) :); intros m₁ news₁ h tk)))
    rintro ⟨rfl, ht9, hdf, hno⟩ F9 N9
    refine ex1 ht9 ?_
    ((first | (k_dflt (refine' (us1 neTok ?z9sl ((?_ : L1 _ _) () ()) :); (case z9sl => k_extra "m:slot"); intros u8 t' u9; clear u8 u9; k_extra "m:cl")) | (refine (sk1 neTok ((?_ : ∀ (t' : Tok), _) _) :); intros t')))
    intro hn
    clear ht9
    k_steps
    have hf : rows.find? (fun r => r.1 == ia && r.2.1 == ib) = none := by
      rw [List.find?_eq_none]
      intro r hr hc
      obtain ⟨j, hj, e⟩ := List.getElem_of_mem hr
      simp only [Bool.and_eq_true, beq_iff_eq] at hc
      exact hno j r (by rw [hR.1]; exact hj) (by rw [List.getElem?_eq_getElem hj, e]) hc
    rw [hf] at hret
    exact hret _ _ (by assumption) ‹News h₀ L _ _› trivial
end
end PGet
section PKit2
section
variable {prog : Program} {w : World} {A : Around} {E : Value → Shared → Prop} {s : Shared} {env : Env} {h₀ : Heap} {target : PySem.Expr} {body : List Stmt} {R : Result → Shared → Prop}
theorem for_empty {l : Addr} {n : Nat} {m : Str → Option Value} {news : Led} (F : Fr h₀ env.locals s.heap m) (N : News h₀ env.locals s.heap news) (hm : (l, listOf #[] n) ∈ news) (hh : A.handled = none)
    (done : ∀ h tk, Fr h₀ env.locals h m → News h₀ env.locals h news → R (.ok .next) { s with heap := h, toks := tk }) :
    wpAny (model prog w) A (pyIter (.ref l)) (fun it s₂ => codeAny (model prog w) A (.forLoop target it body [] env) R s₂) E s := by
  refine for_list (items := #[]) (fun i m₁ news₁ => m₁ = m ∧ news₁ = news) hh ?_ F N ⟨rfl, rfl⟩ ?_ ?_ ?_
  · intro I i v s Q E hv; simp at hv
  · rintro i m₁ news₁ h ⟨rfl, rfl⟩ F9 N9
    exact N9.isList hm
  · intro I o i v m₁ news₁ h tk hI hv; simp at hv
  · rintro m₁ news₁ h tk ⟨rfl, rfl⟩ F9 N9
    exact done h tk F9 N9
end
theorem ln_21 : True := by
  (k_with "exec For Tuple" => (k_dflt (refine wpAny_For ?_)))
  (k_with "pyIter ref" => ((with_reducible show wpAny _ _ (pyIter (Value.ref _)) (fun _ _ => codeAny _ _ (Code.forLoop _ _ _ _ _) _ _) _ _); k_dflt (refine' for_empty ?z9f ?z9n ?z9m ?z9h ?_; (case z9f => k_asm); (case z9n => k_asm); (case z9m => k_mem); (case z9h => exact rfl); ((first | (k_dflt (refine' (us2 neHeap neNat ?z9sl ((?_ : L2 _ _ _) () ()) :); (case z9sl => k_extra "m:slot"); intros u8 h' tk' u9; clear u8 u9; k_extra "m:cl")) | (refine (sk2 neHeap neNat ((?_ : ∀ (h' : Heap) (tk' : Nat), _) _ _) :); intros h' tk'))); intros F' N'; (try dsimp only))))
  trivial
end PKit2
section PTh1
/-- the locals but the loop's own are as before -/
noncomputable def Same (own : List Str) (m₀ m₁ : Str → Option Value) : Prop := ∀ y, y ∉ own → m₁ y = m₀ y
theorem Same.refl (own : List Str) (m : Str → Option Value) : Same own m m := fun _ _ => rfl
theorem Same.set {own : List Str} {m₀ m₁ : Str → Option Value} {x : Str} {v : Option Value} (h : Same own m₀ m₁) (hx : x ∈ own) : Same own m₀ (fun y => if y = x then v else m₁ y) := fun y hy => by
  have : y ≠ x := fun e => hy (e ▸ hx)
  simp only [if_neg this]; exact h y hy
theorem RowsIn.mono {t t' : Led} {hvs : Array Value} {rows : List Row} (h : RowsIn t hvs rows) (sub : ∀ p ∈ t, p ∈ t') : RowsIn t' hvs rows :=
  ⟨h.1, fun i r e => by obtain ⟨D, ta, tb, e1, e2⟩ := h.2 i r e; exact ⟨D, ta, tb, e1, sub _ e2⟩⟩
theorem RowsIn.push {t : Led} {hvs : Array Value} {rows : List Row} {D : Addr} {r : Row} {ta tb : Tok} (h : RowsIn t hvs rows) (hD : (D, tupO #[.str (nmS r.1 r.2.1) ta, .str r.2.2 tb]) ∈ t) : RowsIn t (hvs.push (.ref D)) (rows ++ [r]) := by
  refine ⟨by simp [h.1], fun i r' e => ?_⟩
  by_cases hi : i < rows.length
  · rw [List.getElem?_append_left hi] at e
    obtain ⟨D', ta', tb', e1, e2⟩ := h.2 i r' e
    exact ⟨D', ta', tb', by rw [Array.getElem?_push_lt (by rw [h.1]; exact hi), ← Array.getElem?_eq_getElem]; exact e1, e2⟩
  · rw [List.getElem?_append_right (by omega)] at e
    have h0 : i - rows.length = 0 := by
      rcases Nat.eq_zero_or_pos (i - rows.length) with h0 | h0
      · exact h0
      · rw [List.getElem?_eq_none (by simp; omega)] at e; cases e
    rw [h0] at e
    cases Option.some.inj e
    have : i = hvs.size := by rw [h.1]; omega
    subst this
    exact ⟨D, ta, tb, by simp, hD⟩
/-- between the turns: rows and headers alike, all that stood stands -/
noncomputable def RowsSt (own : List Str) (m₀ : Str → Option Value) (rl hl : Addr) (base : Led) (rows : List Row) (m₁ : Str → Option Value) (led : Led) : Prop :=
  ∃ tl rvs hvs nr nh, led = (rl, listOf rvs nr) :: (hl, listOf hvs nh) :: tl ∧ Same own m₀ m₁ ∧ (∀ p ∈ base, p ∈ tl) ∧ RowsIn tl rvs rows ∧ RowsIn tl hvs rows ∧ (∀ p ∈ tl, p.1 ≠ rl) ∧ (∀ p ∈ tl, p.1 ≠ hl)
section
variable {prog : Program} {w : World} {A : Around} {E : Value → Shared → Prop} {s : Shared} {env : Env} {h₀ : Heap} {target : PySem.Expr} {body : List Stmt} {R : Result → Shared → Prop}
/-- the loop over the ten first colours: rows and headers grow alike -/
theorem first_loop {fl rl hl : Addr} {its : Array Value} {m₀ : Str → Option Value} {t0 t1 t2 t3 t4 t5 t6 t7 t8 t9 tp : Addr × Obj} {rest : Led} {Bs : Led → Prop} (own : List Str) (rowsAt : Nat → List Row)
    (h0 : rowsAt 0 = [])
    (hh : A.handled = none) (F : Fr h₀ env.locals s.heap m₀)
    (N : News h₀ env.locals s.heap ((fl, listOf its 0) :: t9 :: t8 :: t7 :: t6 :: t5 :: t4 :: t3 :: t2 :: t1 :: t0 :: tp :: (rl, listOf #[] 0) :: (hl, listOf #[] 0) :: rest))
    (o1 : ∀ p ∈ (fl, listOf its 0) :: t9 :: t8 :: t7 :: t6 :: t5 :: t4 :: t3 :: t2 :: t1 :: t0 :: tp :: rest, p.1 ≠ rl)
    (o2 : ∀ p ∈ (fl, listOf its 0) :: t9 :: t8 :: t7 :: t6 :: t5 :: t4 :: t3 :: t2 :: t1 :: t0 :: tp :: rest, p.1 ≠ hl)
    (o3 : @Ne Nat rl hl) (hBs : Bs ((fl, listOf its 0) :: t9 :: t8 :: t7 :: t6 :: t5 :: t4 :: t3 :: t2 :: t1 :: t0 :: tp :: rest))
    (hgo : ∀ I i v (s : Shared) (Q : Unit → Shared → Prop) (E : Value → Shared → Prop), its[i]? = some v → s.heap.IsListIter I fl (i + 1) → Q () s → wpAny (model prog w) A (letOwnedTupleGo target (.ref I) v) Q E s)
    (turn : ∀ base, Bs base → ∀ I o i v m₁ tl rvs hvs nr nh h tk, its[i]? = some v → Same own m₀ m₁ →
      (∀ p ∈ base, p ∈ tl) → RowsIn tl rvs (rowsAt i) → RowsIn tl hvs (rowsAt i) →
      (∀ p ∈ tl, p.1 ≠ rl) → (∀ p ∈ tl, p.1 ≠ hl) → (∀ p ∈ tl, p.1 ≠ I) → @Ne Nat rl I → @Ne Nat hl I → @Ne Nat rl hl →
      Fr h₀ env.locals h m₁ → News h₀ env.locals h ((I, o) :: (rl, listOf rvs nr) :: (hl, listOf hvs nh) :: tl) →
      wpAny (model prog w) A (assign target env v) (fun _ s₂ => wpAny (model prog w) A (execs body env) (TurnK h₀ env.locals (RowsSt own m₀ rl hl base (rowsAt (i + 1))) I o { s with heap := h, toks := tk } R) (fun _ _ => False) s₂) (fun _ _ => False) { s with heap := h, toks := tk })
    (done : ∀ base, Bs base → ∀ m₁ tl rvs hvs nr nh h tk, Same own m₀ m₁ →
      (∀ p ∈ base, p ∈ tl) → RowsIn tl rvs (rowsAt its.size) → RowsIn tl hvs (rowsAt its.size) →
      (∀ p ∈ tl, p.1 ≠ rl) → (∀ p ∈ tl, p.1 ≠ hl) → @Ne Nat rl hl →
      Fr h₀ env.locals h m₁ → News h₀ env.locals h ((rl, listOf rvs nr) :: (hl, listOf hvs nh) :: tl) → R (.ok .next) { s with heap := h, toks := tk }) :
    wpAny (model prog w) A (pyIter (.ref fl)) (fun it s₂ => codeAny (model prog w) A (.forLoop target it body [] env) R s₂) E s := by
  replace turn := turn _ hBs
  replace done := done _ hBs
  refine for_list (items := its) (news := (rl, listOf #[] 0) :: (hl, listOf #[] 0) :: (fl, listOf its 0) :: t9 :: t8 :: t7 :: t6 :: t5 :: t4 :: t3 :: t2 :: t1 :: t0 :: tp :: rest) (fun i => RowsSt own m₀ rl hl ((fl, listOf its 0) :: t9 :: t8 :: t7 :: t6 :: t5 :: t4 :: t3 :: t2 :: t1 :: t0 :: tp :: rest) (rowsAt i)) hh hgo F ?_ ?_ ?_ ?_ ?_
  · intro p hp
    rcases List.mem_cons.mp hp with rfl | hp
    · exact N _ (by simp)
    rcases List.mem_cons.mp hp with rfl | hp
    · exact N _ (by simp)
    · refine N _ ?_
      simp only [List.mem_cons] at hp ⊢
      rcases hp with h | h | h | h | h | h | h | h | h | h | h | h | h <;> simp [h]
  · exact ⟨_, _, _, _, _, rfl, Same.refl _ _, fun p hp => hp, by rw [h0]; exact ⟨rfl, fun i r e => by simp at e⟩, by rw [h0]; exact ⟨rfl, fun i r e => by simp at e⟩, o1, o2⟩
  · rintro i m₁ led h ⟨tl, rvs, hvs, nr, nh, rfl, -, sub, -⟩ F9 N9
    exact N9.isList (.tail _ (.tail _ (sub _ (.head _))))
  · rintro I o i v m₁ led h tk hI hv ⟨tl, rvs, hvs, nr, nh, rfl, hs, sub, r1, r2, q1, q2⟩ hne F9 N9
    exact turn I o i v m₁ tl rvs hvs nr nh h tk hv hs sub r1 r2 q1 q2 (fun p hp => hne p (.tail _ (.tail _ hp))) (hne _ (.head _)) (hne _ (.tail _ (.head _))) o3 F9 N9
  · rintro m₁ led h tk ⟨tl, rvs, hvs, nr, nh, rfl, hs, sub, r1, r2, q1, q2⟩ F9 N9
    exact done m₁ tl rvs hvs nr nh h tk hs sub r1 r2 q1 q2 o3 F9 N9
/-- a turn's end: what it made is forgotten but for what is named new -/
theorem turn_end {own : List Str} {m₀ m₁ : Str → Option Value} {rl hl L I : Addr} {o : Obj} {base tl all : Led} {rvs hvs : Array Value} {rows : List Row} {s₁ : Shared} {h' : Heap} {tk nr nh : Nat}
    (F : Fr h₀ L h' m₁) (N : News h₀ L h' all) (sub : ∀ p ∈ (I, o) :: (rl, listOf rvs nr) :: (hl, listOf hvs nh) :: tl, p ∈ all) (same : Same own m₀ m₁) (bs : ∀ p ∈ base, p ∈ tl)
    (r1 : RowsIn tl rvs rows) (r2 : RowsIn tl hvs rows) (q1 : ∀ p ∈ tl, p.1 ≠ rl) (q2 : ∀ p ∈ tl, p.1 ≠ hl) (q3 : ∀ p ∈ tl, p.1 ≠ I) (q4 : @Ne Nat rl I) (q5 : @Ne Nat hl I) :
    ∃ h₂ tk₂ m₂ news₂, ({ s₁ with heap := h', toks := tk } : Shared) = { s₁ with heap := h₂, toks := tk₂ } ∧ Fr h₀ L h₂ m₂ ∧ News h₀ L h₂ ((I, o) :: news₂) ∧ (∀ p ∈ news₂, p.1 ≠ I) ∧ RowsSt own m₀ rl hl base rows m₂ news₂ := by
  refine ⟨h', tk, m₁, _, rfl, F, fun p hp => N p (sub p hp), ?_, tl, rvs, hvs, nr, nh, rfl, same, bs, r1, r2, q1, q2⟩
  intro p hp
  rcases List.mem_cons.mp hp with rfl | hp
  · exact q4
  rcases List.mem_cons.mp hp with rfl | hp
  · exact q5
  · exact q3 p hp
end
end PTh1
section PPure1
noncomputable def F10 : List (Int × Int × Int) := [(1, 0, 0), (1, 1, 0), (1, 2, 0), (1, 3, 0), (2, 0, 0), (2, 1, 0), (2, 2, 0), (2, 3, 0), (3, 1, 0), (3, 2, 0)]
noncomputable def F10' (i : Nat) : Int × Int × Int := F10.getD i (0, 0, 0)
theorem F10_bd : ∀ i, (0 ≤ (F10' i).1 ∧ (F10' i).1 ≤ 3) ∧ (0 ≤ (F10' i).2.1 ∧ (F10' i).2.1 ≤ 3) ∧ (0 ≤ (F10' i).2.2 ∧ (F10' i).2.2 ≤ 3) := by
  intro i
  by_cases h : i < 10
  · revert i; decide
  · have e : F10' i = (0, 0, 0) := by
      unfold F10'
      rw [List.getD_eq_getElem?_getD, List.getElem?_eq_none (by show F10.length ≤ i; simp [F10]; omega)]
      rfl
    rw [e]; decide
noncomputable def rt (x y z : Int) : Nat → Int × Int × Int
  | 0 => (x, y, z)
  | 1 => (z, x, y)
  | 2 => (y, z, x)
  | _ => (x, y, z)
theorem rt_bd {x y z lo hi : Int} (hx : lo ≤ x ∧ x < hi) (hy : lo ≤ y ∧ y < hi) (hz : lo ≤ z ∧ z < hi) (i : Nat) : (lo ≤ (rt x y z i).1 ∧ (rt x y z i).1 < hi) ∧ (lo ≤ (rt x y z i).2.1 ∧ (rt x y z i).2.1 < hi) ∧ (lo ≤ (rt x y z i).2.2 ∧ (rt x y z i).2.2 < hi) := by
  unfold rt
  split <;> exact ⟨by assumption, by assumption, by assumption⟩
/-- the rows of a first colour's three thirds behind those that were -/
noncomputable def rowsT (f : Int → Int → Int → Row) (rows : List Row) (x y z : Int) : Nat → List Row
  | 0 => rows
  | j + 1 => rowsT f rows x y z j ++ [f (rt x y z j).1 (rt x y z j).2.1 (rt x y z j).2.2]
/-- a first colour over a white, turned j thirds -/
noncomputable def col (white : Int) (i j : Nat) : Int × Int × Int := rt ((F10' i).1 + white) ((F10' i).2.1 + white) ((F10' i).2.2 + white) j
noncomputable def ixA (a b c a' b' c' : Int) (size : Int) : Nat := ((nm1 a b c a' b' c').fmod size).toNat
noncomputable def ixB (a b c a' b' c' : Int) (size : Int) : Nat := ((nm2 a b c a' b' c').fmod size).toNat
noncomputable def found (rows : List Row) (i j : Nat) : Option Row := rows.find? (fun r => r.1 == i && r.2.1 == j)
noncomputable def rowOf (txt : Int → Int → Int → Str) (a' b' c' size x y z : Int) : Row := (ixA x y z a' b' c' size, ixB x y z a' b' c' size, txt x y z)
noncomputable def rowsAt (txt : Int → Int → Int → Str) (a' b' c' size white : Int) : Nat → List Row
  | 0 => []
  | i + 1 =>
    let rows := rowsAt txt a' b' c' size white i
    let x := (F10' i).1 + white
    let y := (F10' i).2.1 + white
    let z := (F10' i).2.2 + white
    let r := rowOf txt a' b' c' size x y z
    if (r.1 == 0 && r.2.1 == 0) || (found rows r.1 r.2.1).isSome then rows else
      rowsT (rowOf txt a' b' c' size) rows x y z 3
theorem nameF_eq {a b c a' b' c' size : Int} (h : 0 < size) : nameF a b c a' b' c' size = nmS (ixA a b c a' b' c' size) (ixB a b c a' b' c' size) := by
  have h1 := @fm_lo (nm1 a b c a' b' c') size h
  have h2 := @fm_lo (nm2 a b c a' b' c') size h
  unfold nameF nmS ixA ixB
  show (⟨_⟩ : Str) = ⟨_⟩
  congr 1
  show #[(65 + (nm1 a b c a' b' c').fmod size).toNat] ++ #[(97 + (nm2 a b c a' b' c').fmod size).toNat] = _
  rw [Int.toNat_add (by omega) h1, Int.toNat_add (by omega) h2]
  rfl
theorem ixA_lt {a b c a' b' c' size : Int} (h : 0 < size ∧ size ≤ 25) : ixA a b c a' b' c' size < 25 := by
  have h1 := @fm_lo (nm1 a b c a' b' c') size h.1
  have h2 := @fm_hi (nm1 a b c a' b' c') size h.1
  unfold ixA; omega
theorem ixB_lt {a b c a' b' c' size : Int} (h : 0 < size ∧ size ≤ 25) : ixB a b c a' b' c' size < 25 := by
  have h1 := @fm_lo (nm2 a b c a' b' c') size h.1
  have h2 := @fm_hi (nm2 a b c a' b' c') size h.1
  unfold ixB; omega
theorem name_lo {a b c a' b' c' size : Int} (h : 0 < size ∧ size ≤ 25) : Txt.lower (nameF a b c a' b' c' size) = loS (ixA a b c a' b' c' size) (ixB a b c a' b' c' size) := by
  rw [nameF_eq h.1, nm_lo (ixA_lt h) (ixB_lt h)]
theorem name_Aa {i j : Nat} : (nmS i j == Str.ofString "Aa") = (i == 0 && j == 0) := by
  have e : Str.ofString "Aa" = nmS 0 0 := rfl
  rw [e]
  cases h : (i == 0 && j == 0) with
  | true =>
    simp only [Bool.and_eq_true, beq_iff_eq] at h
    rw [h.1, h.2]; simp
  | false =>
    rw [beq_eq_false_iff_ne]
    intro h2
    unfold nmS at h2
    have h3 := congrArg Str.cps h2
    simp at h3
    simp [h3.1, h3.2] at h
section
variable {txt : Int → Int → Int → Str} {a' b' c' size white f0 f1 f2 : Int} {i : Nat}
theorem rows_keep1 (hs : 0 < size) (e0 : (F10' i).1 = f0) (e1 : (F10' i).2.1 = f1) (e2 : (F10' i).2.2 = f2) (h : (nameF (f0 + white) (f1 + white) (f2 + white) a' b' c' size == Str.ofString "Aa") = true) : rowsAt txt a' b' c' size white (i + 1) = rowsAt txt a' b' c' size white i := by
  rw [nameF_eq hs, name_Aa] at h
  subst e0; subst e1; subst e2
  show (if _ then _ else _) = _
  rw [if_pos]
  simp only [rowOf, h, Bool.true_or]
theorem rows_keep2 {r : Row} (e0 : (F10' i).1 = f0) (e1 : (F10' i).2.1 = f1) (e2 : (F10' i).2.2 = f2) (h : found (rowsAt txt a' b' c' size white i) (ixA (f0 + white) (f1 + white) (f2 + white) a' b' c' size) (ixB (f0 + white) (f1 + white) (f2 + white) a' b' c' size) = some r) : rowsAt txt a' b' c' size white (i + 1) = rowsAt txt a' b' c' size white i := by
  subst e0; subst e1; subst e2
  show (if _ then _ else _) = _
  rw [if_pos]
  simp only [rowOf, h, Option.isSome_some, Bool.or_true]
theorem rows_add (hs : 0 < size) (e0 : (F10' i).1 = f0) (e1 : (F10' i).2.1 = f1) (e2 : (F10' i).2.2 = f2) (h1 : (nameF (f0 + white) (f1 + white) (f2 + white) a' b' c' size == Str.ofString "Aa") = false)
    (h : found (rowsAt txt a' b' c' size white i) (ixA (f0 + white) (f1 + white) (f2 + white) a' b' c' size) (ixB (f0 + white) (f1 + white) (f2 + white) a' b' c' size) = none) :
    rowsAt txt a' b' c' size white (i + 1) = rowsT (rowOf txt a' b' c' size) (rowsAt txt a' b' c' size white i) (f0 + white) (f1 + white) (f2 + white) 3 := by
  rw [nameF_eq hs, name_Aa] at h1
  subst e0; subst e1; subst e2
  show (if _ then _ else _) = _
  rw [if_neg]
  simp only [rowOf, h, h1, Option.isSome_none, Bool.or_false, Bool.false_eq_true, not_false_eq_true]
theorem rowsT_bd {f : Int → Int → Int → Row} {rows : List Row} {x y z : Int} (hf : ∀ x y z, (f x y z).1 < 25 ∧ (f x y z).2.1 < 25) (h : ∀ r ∈ rows, r.1 < 25 ∧ r.2.1 < 25) : ∀ j, ∀ r ∈ rowsT f rows x y z j, r.1 < 25 ∧ r.2.1 < 25
  | 0 => h
  | j + 1 => fun r hr => by
    rcases List.mem_append.mp hr with hr | hr
    · exact rowsT_bd hf h j r hr
    · rw [List.mem_singleton.mp hr]; exact hf _ _ _
theorem rowsT_len {f : Int → Int → Int → Row} {rows : List Row} {x y z : Int} : ∀ j, (rowsT f rows x y z j).length = rows.length + j
  | 0 => rfl
  | j + 1 => by
    show (rowsT f rows x y z j ++ [_]).length = _
    rw [List.length_append, rowsT_len j]; rfl
theorem rowsAt_len : ∀ i, (rowsAt txt a' b' c' size white i).length ≤ 3 * i
  | 0 => Nat.zero_le _
  | i + 1 => by
    have ih := rowsAt_len i
    rw [rowsAt]
    split
    · omega
    · rw [rowsT_len]; omega
theorem rowsAt_bd (hs : 0 < size ∧ size ≤ 25) : ∀ i, ∀ r ∈ rowsAt txt a' b' c' size white i, r.1 < 25 ∧ r.2.1 < 25
  | 0 => fun r hr => by cases hr
  | i + 1 => by
    intro r hr
    rw [rowsAt] at hr
    revert r hr
    split
    · exact rowsAt_bd hs i
    · exact rowsT_bd (fun x y z => ⟨ixA_lt hs, ixB_lt hs⟩) (rowsAt_bd hs i) 3
end
section
variable {w : World} {p : Program} {loose : List Str} {mean : ExcName → Option Value} {mg mb : Str → Option Value}
theorem get_c2 {news tl : Led} {tb dx hl : Addr} {hvs : Array Value} {n : Nat} {tk t1 : Tok} {x : Str} {ia ib : Nat} {rows : List Row} (hx : Txt.lower x = loS ia ib) (ha : ia < 25) (hb : ib < 25)
    (i1 : (tb, instObj 256 dx) ∈ tl) (i2 : (dx, dictOf [{ hash := PyData.keyHash w.params (Str.ofString "_headers"), key := .str (Str.ofString "_headers") tk, val := .ref hl }] 1) ∈ tl)
    (i3 : (hl, listOf hvs n) ∈ news) (hR : RowsIn tl hvs rows) (hB : ∀ r ∈ rows, r.1 < 25 ∧ r.2.1 < 25) (sub : ∀ p ∈ tl, p ∈ news) :
    Claim w p loose mean mg mb (.ref 203) 4 [.ref tb, .str x t1] news (fun K => (∀ r t, found rows ia ib = some r → K [] (.str r.2.2 t)) ∧ (found rows ia ib = none → K [] .none)) := by
  intro dp un gd cn cs a ccd cl outer A₀ base h₀ L m s Q E B F X N T hk hd9 hu9 hret
  refine get_c hx ha hb (hR.mono sub) hB ⟨sub _ i1, sub _ i2, i3⟩ dp un gd cn cs a ccd cl outer A₀ base h₀ L m s Q E B F X N T hk hd9 hu9 ?_
  cases hf : rows.find? (fun r => r.1 == ia && r.2.1 == ib) with
  | some r => exact fun t => hret.1 r t hf
  | none => exact hret.2 hf
end
section
variable {prog : Program} {w : World} {A : Around} {E : Value → Shared → Prop} {s : Shared}
theorem lower_nm {x : Str} {i j : Nat} {t : Tok} {Q : Value → Shared → Prop} (e : Txt.lower x = loS i j) (h : ∀ t' k, Q (.str (loS i j) t') { s with toks := k }) : wpAny (model prog w) A (call (.builtin "str.lower") [.str x t]) Q E s :=
  KXw.lower e (by rw [e]; rfl) h
end
end PPure1
section PHsv
open Float64
noncomputable def hkB (x : UInt64) (c : Int) : Bool := isFinite (add (mul x (ofInt 192)) (ofInt 1)) && (decide (0 ≤ Flt.toInt truncOf (add (mul x (ofInt 192)) (ofInt 1))) && (decide (Flt.toInt truncOf (add (mul x (ofInt 192)) (ofInt 1)) ≤ 1000) && decide ((Flt.toInt truncOf (add (mul x (ofInt 192)) (ofInt 1))).fdiv 64 = c)))
@[irreducible] noncomputable def hk (x : UInt64) : Int := Flt.toInt truncOf (add (mul x (ofInt 192)) (ofInt 1))
theorem hk_def (x : UInt64) : hk x = Flt.toInt truncOf (add (mul x (ofInt 192)) (ofInt 1)) := by unfold hk; rfl
theorem hkB_out {x : UInt64} {c : Int} (h : hkB x c = true) : isFinite (add (mul x (ofInt 192)) (ofInt 1)) = true ∧ (0 ≤ hk x ∧ hk x ≤ 1000) ∧ Int.fdiv (hk x) 64 = c := by
  unfold hkB at h
  simp only [Bool.and_eq_true, decide_eq_true_eq] at h
  rw [hk_def]
  exact ⟨h.1, ⟨h.2.1, h.2.2.1⟩, h.2.2.2⟩
/-- a third of a turn by hsv: the third is told, and (a, b, c) goes to (a', b', c') -/
noncomputable def thirdB (a b c third' a' b' c' : Int) : Bool := match hsvF (q64 a) (q64 b) (q64 c) with
  | none => false
  | some (h, s, v) => hkB h third' && (match vrgbF (add h third) s v with
    | none => false
    | some (x, y, z) => rndB x a' && (rndB y b' && rndB z c'))
theorem thirdB_out {a b c t a' b' c' : Int} (h : thirdB a b c t a' b' c' = true) : ∃ hu l s x y z, hsvF (q64 a) (q64 b) (q64 c) = some (hu, l, s) ∧ hkB hu t = true ∧ vrgbF (add hu third) l s = some (x, y, z) ∧ rndB x a' = true ∧ rndB y b' = true ∧ rndB z c' = true := by
  unfold thirdB at h
  split at h
  · cases h
  · rename_i hu l s e1
    rw [Bool.and_eq_true] at h
    obtain ⟨h1, h⟩ := h
    split at h
    · cases h
    · rename_i x y z e2
      simp only [Bool.and_eq_true] at h
      exact ⟨hu, l, s, x, y, z, e1, h1, e2, h.1, h.2.1, h.2.2⟩
/-- the thirty turns over a white are told and done as they ought -/
noncomputable def TurnsOk (white : Int) : Prop := ∀ i j, i < 10 → j < 3 → thirdB (col white i j).1 (col white i j).2.1 (col white i j).2.2 (j : Int) (col white i (j + 1)).1 (col white i (j + 1)).2.1 (col white i (j + 1)).2.2 = true
section
variable {prog : Program} {w : World} {A : Around} {E : Value → Shared → Prop} {s : Shared}
theorem int_hk {x : UInt64} {c : Int} {u : Tok} {Q : Value → Shared → Prop} (hr : hkB x c = true) (h : Q (.int (hk x) s.toks) { s with toks := s.toks + 1 }) : wpAny (model prog w) A (call (.type "int") [.float (add (mul x (ofInt 192)) (ofInt 1)) u]) Q E s :=
  int_fl (hkB_out hr).1 (hk_def x).symm h
theorem fdiv_hk {x : UInt64} {c : Int} {t u : Tok} {Q : Value → Shared → Prop} (hr : hkB x c = true) (h : Q (.int c s.toks) { s with toks := s.toks + 1 }) : wpAny (model prog w) A (binaryOp .FloorDiv (.int (hk x) t) (.int 64 u)) Q E s :=
  fdiv_as (hkB_out hr).2.2 (by decide) h
end
end PHsv
section PTxt3
open PySem.Builtin PySem.Builtin.Str PySem.StrLaws
noncomputable def dig (n : Nat) : Array Nat := if n < 10 then #[48 + n] else #[48 + n / 10, 48 + n % 10]
@[irreducible] noncomputable def dec (a : Int) : Str := ⟨dig a.toNat⟩
theorem dig_of : ∀ n, n < 100 → (Nat.toDigits 10 n).map Char.toNat = (dig n).toList := by decide +kernel
theorem dec_def {a : Int} (h0 : 0 ≤ a) (h1 : a < 100) : PySem.Str.ofString (toString a) = dec a := by
  unfold dec
  obtain ⟨m, rfl⟩ := Int.eq_ofNat_of_zero_le h0
  have e := KIN.signs_num m
  rw [dig_of m (by omega)] at e
  have : (PySem.Str.ofString (toString ((m : Nat) : Int))).cps = dig m := Array.toList_inj.mp e
  show _ = (⟨dig m⟩ : Str)
  rw [← this]
@[irreducible] noncomputable def txt3 (x y z : Int) : Str := ⟨dig x.toNat ++ #[32] ++ dig y.toNat ++ #[32] ++ dig z.toNat⟩
theorem txt3_join (x y z : Int) : Txt.join (Str.ofString " ") [dec x, dec y, dec z] = txt3 x y z := by
  unfold txt3 dec
  rfl
noncomputable def sp : Str := ⟨#[32]⟩
theorem dig_sp (n : Nat) : 32 ∉ (dig n).toList := by
  unfold dig
  split
  · exact fun h => absurd (List.mem_singleton.mp h) (Nat.ne_of_lt (Nat.lt_of_lt_of_le (by decide) (Nat.le_add_right 48 _)))
  · intro h
    rcases List.mem_cons.mp h with h | h
    · exact absurd h (Nat.ne_of_lt (Nat.lt_of_lt_of_le (by decide) (Nat.le_add_right 48 _)))
    · exact absurd (List.mem_singleton.mp h) (Nat.ne_of_lt (Nat.lt_of_lt_of_le (by decide) (Nat.le_add_right 48 _)))
theorem pre_eq {c : Nat} : ∀ {l1 l2 r1 r2 : List Nat}, c ∉ l1 → c ∉ l2 → r1.headD c = c → r2.headD c = c → l1 ++ r1 = l2 ++ r2 → l1 = l2 ∧ r1 = r2
  | [], [], _, _, _, _, _, _, h => ⟨rfl, h⟩
  | [], b :: l2, _, _, _, h2, h3, _, h => by
    rw [List.nil_append] at h
    rw [h] at h3
    exact absurd ((show b = c from h3) ▸ .head _) h2
  | a :: l1, [], _, _, h1, _, _, h4, h => by
    rw [List.nil_append] at h
    rw [← h] at h4
    exact absurd ((show a = c from h4) ▸ .head _) h1
  | a :: l1, b :: l2, _, _, h1, h2, h3, h4, h => by
    injection h with e h
    obtain ⟨e1, e2⟩ := pre_eq (fun m => h1 (.tail _ m)) (fun m => h2 (.tail _ m)) h3 h4 h
    exact ⟨by rw [e, e1], e2⟩
theorem cps_join (c : Nat) (a b : Str) (r : List Str) : (Str.join ⟨#[c]⟩ (a :: b :: r)).cps.toList = a.cps.toList ++ c :: (Str.join ⟨#[c]⟩ (b :: r)).cps.toList := by
  show ((a.cps ++ #[c]) ++ (Str.join ⟨#[c]⟩ (b :: r)).cps).toList = _
  rw [Array.toList_append, Array.toList_append, List.append_assoc]; rfl
theorem join_inj {c : Nat} : ∀ {ps qs : List Str}, (∀ p ∈ ps, c ∉ p.cps.toList) → (∀ p ∈ qs, c ∉ p.cps.toList) → ps ≠ [] → qs ≠ [] → (Str.join ⟨#[c]⟩ ps).cps.toList = (Str.join ⟨#[c]⟩ qs).cps.toList → ps = qs
  | [], _, _, _, h, _, _ => absurd rfl h
  | _, [], _, _, _, h, _ => absurd rfl h
  | [a], [b], _, _, _, _, h => congrArg (fun x => [x]) (Str.ext' (Array.toList_inj.mp (show a.cps.toList = b.cps.toList from h)))
  | [a], b :: b' :: r, h1, h2, _, _, h => by
    rw [cps_join, ← List.append_nil (Str.join _ [a]).cps.toList] at h
    exact absurd (pre_eq (h1 a (.head _)) (h2 b (.head _)) rfl rfl h).2 (fun h => nomatch h)
  | a :: a' :: r, [b], h1, h2, _, _, h => by
    rw [cps_join, ← List.append_nil (Str.join _ [b]).cps.toList] at h
    exact absurd (pre_eq (h1 a (.head _)) (h2 b (.head _)) rfl rfl h).2 (fun h => nomatch h)
  | a :: a' :: r, b :: b' :: r', h1, h2, _, _, h => by
    rw [cps_join, cps_join] at h
    obtain ⟨e1, e2⟩ := pre_eq (h1 a (.head _)) (h2 b (.head _)) rfl rfl h
    injection e2 with _ e2
    rw [Str.ext' (Array.toList_inj.mp e1), join_inj (fun p hp => h1 p (.tail _ hp)) (fun p hp => h2 p (.tail _ hp)) (fun h => nomatch h) (fun h => nomatch h) e2]
theorem split_dig {a b c : Array Nat} (ha : 32 ∉ a.toList) (hb : 32 ∉ b.toList) (hc : 32 ∉ c.toList) : PySem.Txt.split ⟨a ++ #[32] ++ b ++ #[32] ++ c⟩ sp = [⟨a⟩, ⟨b⟩, ⟨c⟩] := by
  have h1 := PySem.StrLaws.join_split ⟨a ++ #[32] ++ b ++ #[32] ++ c⟩ sp
  refine join_inj (c := 32) (split_free _ 32) ?_ ?_ (fun h => nomatch h) ?_
  · intro p hp
    rcases List.mem_cons.mp hp with rfl | hp
    · exact ha
    rcases List.mem_cons.mp hp with rfl | hp
    · exact hb
    rcases List.mem_cons.mp hp with rfl | hp
    · exact hc
    · cases hp
  · intro h
    have := split_pos ⟨a ++ #[32] ++ b ++ #[32] ++ c⟩ sp
    rw [h] at this
    exact absurd this (by decide)
  · refine (congrArg (fun s => s.cps.toList) h1).trans ?_
    rw [cps_join, cps_join]
    show ((a ++ #[32] ++ b ++ #[32] ++ c : Array Nat)).toList = a.toList ++ 32 :: (b.toList ++ 32 :: c.toList)
    simp
theorem split_txt {x y z : Int} (hx : 0 ≤ x ∧ x < 100) (hy : 0 ≤ y ∧ y < 100) (hz : 0 ≤ z ∧ z < 100) : PySem.Txt.split (txt3 x y z) sp = [dec x, dec y, dec z] := by
  unfold txt3 dec
  exact split_dig (dig_sp _) (dig_sp _) (dig_sp _)
theorem dig_plain (n : Nat) (h : n < 100) : ∀ c ∈ dig n, 32 ≤ c ∧ c < 127 := by
  unfold dig
  split
  · intro c hc; simp at hc; omega
  · intro c hc; simp at hc; omega
theorem plain_txt {x y z : Int} (hx : 0 ≤ x ∧ x < 100) (hy : 0 ≤ y ∧ y < 100) (hz : 0 ≤ z ∧ z < 100) : Plain (txt3 x y z).cps := by
  unfold txt3
  intro c hc
  simp only [Array.mem_append] at hc
  rcases hc with (((hc | hc) | hc) | hc) | hc
  · exact dig_plain _ (by omega) c hc
  · simp at hc; omega
  · exact dig_plain _ (by omega) c hc
  · simp at hc; omega
  · exact dig_plain _ (by omega) c hc
theorem dig_len (n : Nat) : (dig n).size ≤ 2 := by
  unfold dig
  split <;> simp
theorem dec_len (x : Int) : (dec x).length ≤ 2 := by unfold dec; exact dig_len _
theorem txt_len (x y z : Int) : (txt3 x y z).length ≤ 8 := by
  unfold txt3
  have a := dig_len x.toNat
  have b := dig_len y.toNat
  have c := dig_len z.toNat
  simp [Str.length]
  omega
section
variable {prog : Program} {w : World} {A : Around} {E : Value → Shared → Prop} {s : Shared} {h₀ : Heap} {L : Addr} {m : Str → Option Value} {news : Led}
theorem str_dec {a : Int} {t : Tok} {Q : Value → Shared → Prop} (ha : 0 ≤ a ∧ a < 100) (h : Q (.str (dec a) s.toks) { s with toks := s.toks + 1 }) : wpAny (model prog w) A (call (.type "str") [.int a t]) Q E s := by
  refine P.str_of_int ?_ ?_
  · have h1 : a.natAbs < 2 ^ 7 := by omega
    rcases Nat.eq_zero_or_pos a.natAbs with h0 | h0
    · rw [h0]; decide
    · exact Nat.lt_trans ((Nat.log2_lt (by omega)).mpr h1) (by decide)
  · show Q (.str (PySem.Str.ofString (toString a)) s.toks) _
    rw [dec_def ha.1 ha.2]; exact h
theorem int_dec {a : Int} {t : Tok} {Q : Value → Shared → Prop} (ha : 0 ≤ a ∧ a < 100) (h : Q (.int a s.toks) { s with toks := s.toks + 1 }) : wpAny (model prog w) A (call (.type "int") [.str (dec a) t]) Q E s := by
  rw [← dec_def ha.1 ha.2]
  exact KIN.call_num ha.1 (by omega) h
theorem join_txt {D : Addr} {n : Nat} {x y z : Int} {t t1 t2 t3 : Tok} {Q : Value → Shared → Prop} (N : News h₀ L s.heap news) (hm : (D, listOf #[.str (dec x) t1, .str (dec y) t2, .str (dec z) t3] n) ∈ news)
    (h : ∀ t' k, Q (.str (txt3 x y z) t') { s with toks := k }) : wpAny (model prog w) A (call (.builtin "str.join") [.str (Str.ofString " ") t, .ref D]) Q E s := by
  refine join_listW (ys := [dec x, dec y, dec z]) (N.isList hm) ?_ (by decide) ?_ ?_
  · exact .cons _ _ (.cons _ _ (.cons _ _ .nil))
  · have a := dec_len x
    have b := dec_len y
    have c := dec_len z
    simp only [List.map_cons, List.map_nil, List.sum_cons, List.sum_nil, List.length_cons, List.length_nil]
    omega
  · intro t' k
    rw [txt3_join]; exact h t' k
theorem split_t {x y z : Int} {t u : Tok} {Q : Value → Shared → Prop} (F : Fr h₀ L s.heap m) (N : News h₀ L s.heap news) (hx : 0 ≤ x ∧ x < 100) (hy : 0 ≤ y ∧ y < 100) (hz : 0 ≤ z ∧ z < 100)
    (h : ∀ D t1 t2 t3 h' k, Fr h₀ L h' m → News h₀ L h' ((D, listOf #[.str (dec x) t1, .str (dec y) t2, .str (dec z) t3] 0) :: news) → (∀ p ∈ news, p.1 < D) → Q (.ref D) { s with heap := h', toks := k }) :
    wpAny (model prog w) A (call (.builtin "str.split") [.str (txt3 x y z) t, .str (Str.ofString " ") u]) Q E s := by
  refine KSpl.split1 F N (by decide) ?_ ?_
  · intro D l h' k e _ F' N' lt
    rw [show (Str.ofString " ") = sp from rfl, split_txt hx hy hz] at e
    obtain ⟨t1, l1, rfl, e1⟩ := KSpl.cons_of e
    obtain ⟨t2, l2, rfl, e2⟩ := KSpl.cons_of e1
    obtain ⟨t3, l3, rfl, e3⟩ := KSpl.cons_of e2
    cases KSpl.nil_of e3
    exact h D t1 t2 t3 h' k F' N' lt
  · have := txt_len x y z
    exact Nat.le_trans (Nat.add_le_add_right this 2) (by decide)
theorem join_one {D : Addr} {n : Nat} {x y : Str} {t t1 : Tok} {Q : Value → Shared → Prop} (N : News h₀ L s.heap news) (hm : (D, listOf #[.str y t1] n) ∈ news) (hx : x.length ≤ 16) (hy : y.length ≤ 1000)
    (h : ∀ t' k, Q (.str y t') { s with toks := k }) : wpAny (model prog w) A (call (.builtin "str.join") [.str x t, .ref D]) Q E s := by
  refine join_listW (ys := [y]) (N.isList hm) (.cons _ _ .nil) hx ?_ ?_
  · simp only [List.map_cons, List.map_nil, List.sum_cons, List.sum_nil, List.length_cons, List.length_nil]
    omega
  · intro t' k
    exact h t' k
end
end PTxt3
section PLoop2
open LCg
section
variable {prog : Program} {w : World} {A : Around} {E : Value → Shared → Prop} {s : Shared} {env : Env} {h₀ : Heap} {x : Str} {px : Pos} {body : List Stmt} {R : Result → Shared → Prop}
/-- for over a range by a word J over the turn's number, the locals, the ledger -/
theorem for_range {r : Addr} {a b : Int} {t u v : Tok} {n : Nat} {m : Str → Option Value} {news : Led} (J : Nat → (Str → Option Value) → Led → Prop)
    (hh : A.handled = none) (hr : IsRange s.heap r a b 1 t u v) (hsm : Builtin.Range.small a b 1 = true) (hn : Builtin.Range.rangeSize a b 1 = ((n : Nat) : Int))
    (F : Fr h₀ env.locals s.heap m) (N : News h₀ env.locals s.heap news) (hj : J 0 m news)
    (turn : ∀ I o i tok m₁ news₁ h tk, (∀ p ∈ news, p.1 < I) → i < n → J i m₁ news₁ → (∀ p ∈ news₁, p.1 ≠ I) → Fr h₀ env.locals h m₁ → News h₀ env.locals h ((I, o) :: news₁) →
      wpAny (model prog w) A (assign (.Name x px) env (.int (a + (i : Int)) tok)) (fun _ s₂ => wpAny (model prog w) A (execs body env) (TurnK h₀ env.locals (J (i + 1)) I o { s with heap := h, toks := tk } R) (fun _ _ => False) s₂) (fun _ _ => False) { s with heap := h, toks := tk })
    (done : ∀ m₁ news₁ h tk, J n m₁ news₁ → Fr h₀ env.locals h m₁ → News h₀ env.locals h news₁ → R (.ok .next) { s with heap := h, toks := tk }) :
    wpAny (model prog w) A (pyIter (.ref r)) (fun it s₂ => codeAny (model prog w) A (.forLoop (.Name x px) it body [] env) R s₂) E s := by
  refine wpAny_pyIter_range hr hsm ?_
  generalize hI : s.heap.objs.size = I
  have hI0 : h₀.get? I = none := by rw [← hI]; exact next_is_new F
  have hIL : I ≠ env.locals := by rw [← hI]; exact fun e => absurd F.ns.lt (e ▸ Nat.lt_irrefl _)
  have hlt : ∀ p ∈ news, p.1 < I := fun p hp => by rw [← hI]; exact Heap.lt_size (N p hp).1
  have W := range_walks (prog := prog) (w := w) (A := A) (I := I) hh a n
  refine codeAny_forLoop_any
    (fun k s' => ∃ h' tk m' news' i, s' = { s with heap := h', toks := tk } ∧ IsRangeIter h' I (a + (i : Nat) * 1) ((n : Int) - (i : Nat)) 1 ∧ Fr h₀ env.locals h' m' ∧ News h₀ env.locals h' news' ∧ (∀ p ∈ news', p.1 ≠ I) ∧ J i m' news' ∧ i ≤ n ∧ k = n + 1 - i) ?_ (n + 1) ?_
  · rintro k s' ⟨h', tk, m', news', i, rfl, hst, F', N', off, hJ, hi, rfl⟩
    by_cases hin : i < n
    · refine W.item i _ _ _ hin hst fun v₁ h₁ tk₁ hP hst₁ hk₁ => ?_
      obtain ⟨tok, rfl⟩ := hP
      have F₁ : Fr h₀ env.locals h₁ m' := fr_but F' hk₁ (Ne.symm hIL) hI0
      obtain ⟨oI, heI⟩ : ∃ o, h₁.get? I = some o := ⟨_, hst₁⟩
      have N₁ : News h₀ env.locals h₁ ((I, oI) :: news') := by
        intro p hp
        rcases List.mem_cons.mp hp with rfl | hp
        · exact ⟨heI, hIL, hI0⟩
        · exact news_but N' hk₁ off p hp
      refine wpAny_of_eq rfl ?_
      refine wpAny_mono (turn I oI i tok m' news' h₁ tk₁ hlt hin hJ off F₁ N₁) (fun _ s₂ h₂ => wpAny_mono h₂ (fun f s₃ h₃ => ?_) fun _ _ x => x.elim) fun _ _ x => x.elim
      have fin : (∃ h' tk' m'' news'', s₃ = { ({ s with heap := h₁, toks := tk₁ } : Shared) with heap := h', toks := tk' } ∧ Fr h₀ env.locals h' m'' ∧ News h₀ env.locals h' ((I, oI) :: news'') ∧ (∀ p ∈ news'', p.1 ≠ I) ∧ J (i + 1) m'' news'') →
          ∃ mm, mm < n + 1 - i ∧ ∃ h' tk m' news' i, s₃ = { s with heap := h', toks := tk } ∧ IsRangeIter h' I (a + (i : Nat) * 1) ((n : Int) - (i : Nat)) 1 ∧ Fr h₀ env.locals h' m' ∧ News h₀ env.locals h' news' ∧ (∀ p ∈ news', p.1 ≠ I) ∧ J i m' news' ∧ i ≤ n ∧ mm = n + 1 - i := by
        rintro ⟨h₂, tk₂, m₂, news₂, rfl, F₂, N₂, off₂, hJ₂⟩
        exact ⟨n + 1 - (i + 1), by omega, h₂, tk₂, m₂, news₂, i + 1, rfl, range_st (h₀ := h₀) (L := env.locals) _ h₁ h₂ oI [] hst₁ heI (N₂ _ (.head _)).1 F₂.keep (fun p hp => by cases hp) trivial, F₂, fun p hp => N₂ p (.tail _ hp), off₂, hJ₂, hin, rfl⟩
      cases f with
      | ret v => exact h₃
      | brk => exact h₃
      | next => exact fin h₃
      | cont => exact fin h₃
    · have hie : i = n := by omega
      subst hie
      refine W.done _ _ _ hst fun h₁ tk₁ hk₁ => ?_
      refine wpAny_execs_nil ?_
      exact done m' news' h₁ tk₁ hJ (fr_but F' hk₁ (Ne.symm hIL) hI0) (news_but N' hk₁ off)
  · refine ⟨_, s.toks, m, news, 0, rfl, ?_, F.push _, N.grown fun _ _ e => Heap.get?_push_of_some _ e, fun p hp => Nat.ne_of_lt (hlt p hp), hj, Nat.zero_le _, rfl⟩
    show IsRangeIter _ _ _ _ _
    rw [hn, ← hI]
    simpa using Heap.get?_push_size _ rfl
end
section
variable {prog : Program} {w : World} {A : Around} {E : Value → Shared → Prop} {s : Shared} {h₀ : Heap} {m : Str → Option Value}
theorem ldE {env : Env} {x : Str} {pos : Pos} {v : Value} {Q : Value → Shared → Prop} (F : Fr h₀ env.locals s.heap m) (hv : m x = some v) (hk : env.scope.kind = .function) (hl : env.kindOf x = some .local)
    (hd : (x == ("__debug__" : Str)) = false) (h : Q v s) : wpAny (model prog w) A (eval (.Name x pos) env) Q E s := wpAny_Name (wpAny_loadName_local hk hl F.ns hv h) hd
end
end PLoop2
section PTh3
/-- between the three turns of one first colour -/
noncomputable def ThirdSt (own : List Str) (m₀ : Str → Option Value) (rl hl I : Addr) (o : Obj) (base : Led) (D : Addr) (rows : List Row) (c : Int × Int × Int) (m₁ : Str → Option Value) (led : Led) : Prop :=
  ∃ tl rvs hvs nr nh C n u0 u1 u2, led = (I, o) :: (rl, listOf rvs nr) :: (hl, listOf hvs nh) :: tl ∧ Same own m₀ m₁ ∧ (∀ p ∈ base, p ∈ tl) ∧ RowsIn tl rvs rows ∧ RowsIn tl hvs rows ∧
    ((∀ p ∈ tl, p.1 ≠ rl) ∧ (∀ p ∈ tl, p.1 ≠ hl) ∧ (∀ p ∈ tl, p.1 ≠ I)) ∧ m₁ (Str.ofString "colour") = some (.ref C) ∧ (C, listOf #[.int c.1 u0, .int c.2.1 u1, .int c.2.2 u2] n) ∈ tl ∧ m₁ (Str.ofString "first") = some (.ref D)
section
variable {prog : Program} {w : World} {A : Around} {E : Value → Shared → Prop} {s : Shared} {env : Env} {h₀ : Heap} {v : Str} {px : Pos} {body : List Stmt} {R : Result → Shared → Prop}
theorem third_loop {r : Addr} {t u t' : Tok} {m₀ m₁ : Str → Option Value} {rl hl I C D : Addr} {o : Obj} {tl : Led} {rvs hvs : Array Value} {n nr nh : Nat} {x y z : Int} {u0 u1 u2 : Tok} {rows : List Row} (own : List Str) (f : Int → Int → Int → Row)
    (hh : A.handled = none) (hr : IsRange s.heap r 0 3 1 t u t') (F : Fr h₀ env.locals s.heap m₁) (N : News h₀ env.locals s.heap ((C, listOf #[.int x u0, .int y u1, .int z u2] n) :: (I, o) :: (rl, listOf rvs nr) :: (hl, listOf hvs nh) :: tl))
    (same : Same own m₀ m₁) (r1 : RowsIn tl rvs rows) (r2 : RowsIn tl hvs rows) (q1 : ∀ p ∈ tl, p.1 ≠ rl) (q2 : ∀ p ∈ tl, p.1 ≠ hl) (q3 : ∀ p ∈ tl, p.1 ≠ I) (q4 : @Ne Nat rl I) (q5 : @Ne Nat hl I) (q6 : @Ne Nat rl hl)
    (qC : @Ne Nat I C ∧ @Ne Nat rl C ∧ @Ne Nat hl C ∧ LCg.Off1 C tl) (e1 : m₁ (Str.ofString "colour") = some (.ref C)) (e2 : m₁ (Str.ofString "first") = some (.ref D))
    (turn : ∀ I2 o2 j tok m₁ tl' rvs hvs nr nh C n u0 u1 u2 h tk, j < 3 → Same own m₀ m₁ → (∀ p ∈ tl, p ∈ tl') → RowsIn tl' rvs (rowsT f rows x y z j) → RowsIn tl' hvs (rowsT f rows x y z j) →
      (∀ p ∈ tl', p.1 ≠ rl) → (∀ p ∈ tl', p.1 ≠ hl) → (∀ p ∈ tl', p.1 ≠ I) → (∀ p ∈ tl', p.1 ≠ I2) → @Ne Nat I I2 → @Ne Nat rl I2 → @Ne Nat hl I2 →
      m₁ (Str.ofString "colour") = some (.ref C) → (C, listOf #[.int (rt x y z j).1 u0, .int (rt x y z j).2.1 u1, .int (rt x y z j).2.2 u2] n) ∈ tl' → m₁ (Str.ofString "first") = some (.ref D) →
      Fr h₀ env.locals h m₁ → News h₀ env.locals h ((I2, o2) :: (I, o) :: (rl, listOf rvs nr) :: (hl, listOf hvs nh) :: tl') →
      wpAny (model prog w) A (assign (.Name v px) env (.int (0 + (j : Int)) tok)) (fun _ s₂ => wpAny (model prog w) A (execs body env) (TurnK h₀ env.locals (ThirdSt own m₀ rl hl I o tl D (rowsT f rows x y z (j + 1)) (rt x y z (j + 1))) I2 o2 { s with heap := h, toks := tk } R) (fun _ _ => False) s₂) (fun _ _ => False) { s with heap := h, toks := tk })
    (done : ∀ m₁ tl' rvs hvs nr nh C n u0 u1 u2 h tk, Same own m₀ m₁ → (∀ p ∈ tl, p ∈ tl') → RowsIn tl' rvs (rowsT f rows x y z 3) → RowsIn tl' hvs (rowsT f rows x y z 3) →
      (∀ p ∈ tl', p.1 ≠ rl) → (∀ p ∈ tl', p.1 ≠ hl) → (∀ p ∈ tl', p.1 ≠ I) →
      m₁ (Str.ofString "colour") = some (.ref C) → (C, listOf #[.int x u0, .int y u1, .int z u2] n) ∈ tl' → m₁ (Str.ofString "first") = some (.ref D) →
      Fr h₀ env.locals h m₁ → News h₀ env.locals h ((I, o) :: (rl, listOf rvs nr) :: (hl, listOf hvs nh) :: tl') → R (.ok .next) { s with heap := h, toks := tk }) :
    wpAny (model prog w) A (pyIter (.ref r)) (fun it s₂ => codeAny (model prog w) A (.forLoop (.Name v px) it body [] env) R s₂) E s := by
  refine for_range (n := 3) (m := m₁) (news := (I, o) :: (rl, listOf rvs nr) :: (hl, listOf hvs nh) :: (C, listOf #[.int x u0, .int y u1, .int z u2] n) :: tl)
    (fun j => ThirdSt own m₀ rl hl I o tl D (rowsT f rows x y z j) (rt x y z j)) hh hr (by decide) (by decide) F ?_ ?_ ?_ ?_
  · intro p hp
    refine N p ?_
    simp only [List.mem_cons] at hp ⊢
    rcases hp with h | h | h | h | h <;> simp [h]
  · refine ⟨_, rvs, hvs, nr, nh, C, n, u0, u1, u2, rfl, same, fun p hp => .tail _ hp, r1.mono fun p hp => .tail _ hp, r2.mono fun p hp => .tail _ hp, ⟨?_, ?_, ?_⟩, e1, .head _, e2⟩
    · intro p hp
      rcases List.mem_cons.mp hp with rfl | hp
      · exact Ne.symm qC.2.1
      · exact q1 p hp
    · intro p hp
      rcases List.mem_cons.mp hp with rfl | hp
      · exact Ne.symm qC.2.2.1
      · exact q2 p hp
    · intro p hp
      rcases List.mem_cons.mp hp with rfl | hp
      · exact Ne.symm qC.1
      · exact q3 p hp
  · rintro I2 o2 j tok m₂ led h tk hlt hj ⟨tl', rvs', hvs', nr', nh', C', n', v0, v1, v2, rfl, hs, sub, s1, s2, ⟨p1, p2, p3⟩, c1, c2, c3⟩ hne F9 N9
    exact turn I2 o2 j tok m₂ tl' rvs' hvs' nr' nh' C' n' v0 v1 v2 h tk hj hs sub s1 s2 p1 p2 p3 (fun p hp => hne p (.tail _ (.tail _ (.tail _ hp)))) (hne _ (.head _)) (hne _ (.tail _ (.head _))) (hne _ (.tail _ (.tail _ (.head _)))) c1 c2 c3 F9 N9
  · rintro m₂ led h tk ⟨tl', rvs', hvs', nr', nh', C', n', v0, v1, v2, rfl, hs, sub, s1, s2, ⟨p1, p2, p3⟩, c1, c2, c3⟩ F9 N9
    exact done m₂ tl' rvs' hvs' nr' nh' C' n' v0 v1 v2 h tk hs sub s1 s2 p1 p2 p3 c1 c2 c3 F9 N9
/-- the end of one of the three turns: a row, a header, the colour are new -/
theorem third_end {own : List Str} {m₀ m₁ : Str → Option Value} {rl hl L I I2 C D X Y : Addr} {o o2 : Obj} {base tl all : Led} {rvs hvs : Array Value} {rows : List Row} {row : Row} {c : Int × Int × Int} {s₁ : Shared} {h' : Heap} {tk n nr nh : Nat} {u0 u1 u2 ta tb tc td : Tok} {nm : Str} (hnm : nm = nmS row.1 row.2.1)
    (F : Fr h₀ L h' m₁) (N : News h₀ L h' all) (sub : ∀ p ∈ (I2, o2) :: (I, o) :: (rl, listOf (rvs.push (.ref X)) nr) :: (hl, listOf (hvs.push (.ref Y)) nh) :: (C, listOf #[.int c.1 u0, .int c.2.1 u1, .int c.2.2 u2] n) :: (X, tupO #[.str nm ta, .str row.2.2 tb]) :: (Y, tupO #[.str nm tc, .str row.2.2 td]) :: tl, p ∈ all)
    (same : Same own m₀ m₁) (bs : ∀ p ∈ base, p ∈ tl) (r1 : RowsIn tl rvs rows) (r2 : RowsIn tl hvs rows) (q1 : ∀ p ∈ tl, p.1 ≠ rl) (q2 : ∀ p ∈ tl, p.1 ≠ hl) (q3 : ∀ p ∈ tl, p.1 ≠ I) (q4 : ∀ p ∈ tl, p.1 ≠ I2) (q5 : @Ne Nat I I2) (q6 : @Ne Nat rl I2) (q7 : @Ne Nat hl I2)
    (qC : @Ne Nat C rl ∧ @Ne Nat C hl ∧ @Ne Nat C I ∧ @Ne Nat C I2) (qX : @Ne Nat X rl ∧ @Ne Nat X hl ∧ @Ne Nat X I ∧ @Ne Nat X I2) (qY : @Ne Nat Y rl ∧ @Ne Nat Y hl ∧ @Ne Nat Y I ∧ @Ne Nat Y I2)
    (e1 : m₁ (Str.ofString "colour") = some (.ref C)) (e2 : m₁ (Str.ofString "first") = some (.ref D)) :
    ∃ h₂ tk₂ m₂ news₂, ({ s₁ with heap := h', toks := tk } : Shared) = { s₁ with heap := h₂, toks := tk₂ } ∧ Fr h₀ L h₂ m₂ ∧ News h₀ L h₂ ((I2, o2) :: news₂) ∧ (∀ p ∈ news₂, p.1 ≠ I2) ∧ ThirdSt own m₀ rl hl I o base D (rows ++ [row]) c m₂ news₂ := by
  subst hnm
  have all4 : ∀ K : Addr, (∀ p ∈ tl, p.1 ≠ K) → @Ne Nat C K → @Ne Nat X K → @Ne Nat Y K → ∀ p ∈ (C, listOf #[.int c.1 u0, .int c.2.1 u1, .int c.2.2 u2] n) :: (X, tupO #[.str (nmS row.1 row.2.1) ta, .str row.2.2 tb]) :: (Y, tupO #[.str (nmS row.1 row.2.1) tc, .str row.2.2 td]) :: tl, p.1 ≠ K := by
    intro K h hC hX hY p hp
    rcases List.mem_cons.mp hp with rfl | hp
    · exact hC
    rcases List.mem_cons.mp hp with rfl | hp
    · exact hX
    rcases List.mem_cons.mp hp with rfl | hp
    · exact hY
    · exact h p hp
  refine ⟨h', tk, m₁, _, rfl, F, fun p hp => N p (sub p hp), ?_, _, rvs.push (.ref X), hvs.push (.ref Y), nr, nh, C, n, u0, u1, u2, rfl, same, fun p hp => .tail _ (.tail _ (.tail _ (bs p hp))), ?_, ?_, ⟨all4 _ q1 qC.1 qX.1 qY.1, all4 _ q2 qC.2.1 qX.2.1 qY.2.1, all4 _ q3 qC.2.2.1 qX.2.2.1 qY.2.2.1⟩, e1, .head _, e2⟩
  · intro p hp
    rcases List.mem_cons.mp hp with rfl | hp
    · exact q5
    rcases List.mem_cons.mp hp with rfl | hp
    · exact q6
    rcases List.mem_cons.mp hp with rfl | hp
    · exact q7
    · exact all4 _ q4 qC.2.2.2 qX.2.2.2 qY.2.2.2 p hp
  · exact (r1.mono fun p hp => .tail _ (.tail _ (.tail _ hp))).push (.tail _ (.head _))
  · exact (r2.mono fun p hp => .tail _ (.tail _ (.tail _ hp))).push (.tail _ (.tail _ (.head _)))
theorem item_last {L l : Addr} {news : Led} {its : Array Value} {n : Nat} {value slice : PySem.Expr} {u : Tok} {v : Value} {Q : Value → Shared → Prop}
    (N : News h₀ L s.heap news) (hm : (l, listOf (its.push v) n) ∈ news) (h : Q v s)
    (hs : subscripted slice false (.ref l) (.int (-1) u) = operate [.ref l, .int (-1) u] (getItem (.ref l) (.int (-1) u)) := by with_unfolding_all rfl) {E : Value → Shared → Prop} :
    wpAny (model prog w) A (subscriptTail value slice (.ref l) (.int (-1) u)) Q E s :=
  tail_any (N.isList hm).typeIs slot_list_getitem.lookup (wpAny_getItem_list_neg (N.isList hm) (by decide) (by rw [Array.size_push]; omega) (by decide) (by
    have e : ((-1 : Int) + ((its.push v).size : Int)).toNat = its.size := by rw [Array.size_push]; omega
    rw [e]; simp) h) hs
theorem drop2 {L : Addr} {h : Heap} {a b : Addr × Obj} {r : Led} (N : News h₀ L h (a :: b :: r)) : News h₀ L h (a :: r) := fun p hp => N p (by
  rcases List.mem_cons.mp hp with rfl | hp
  · exact .head _
  · exact .tail _ (.tail _ hp))
end
end PTh3
section PCols
open PySem.Spec PySem.Calls
open LCg LCp
/-- one column of the rows as texts -/
noncomputable def cell (b : Bool) (r : Row) : Str := if b then nmS r.1 r.2.1 else r.2.2
noncomputable def ColIs (b : Bool) (ys : List Value) (rows : List Row) (n : Nat) : Prop := ys.length = n ∧ ∀ j r, j < n → rows[j]? = some r → ∃ t, ys[j]? = some (.str (cell b r) t)
theorem ColIs.snoc {b : Bool} {ys : List Value} {rows : List Row} {n : Nat} {r : Row} {t : Tok} (h : ColIs b ys rows n) (hr : rows[n]? = some r) : ColIs b (ys ++ [.str (cell b r) t]) rows (n + 1) := by
  refine ⟨by simp [h.1], fun j r' hj hr' => ?_⟩
  by_cases hjn : j < n
  · obtain ⟨t', e⟩ := h.2 j r' hjn hr'
    exact ⟨t', by rw [List.getElem?_append_left (by rw [h.1]; exact hjn)]; exact e⟩
  · have : j = n := by omega
    subst this
    rw [hr] at hr'
    cases Option.some.inj hr'
    exact ⟨t, by rw [List.getElem?_append_right (by rw [h.1]; exact Nat.le_refl _), h.1, Nat.sub_self]; rfl⟩
section
variable {prog : Program} {w : World} {A : Around} {E : Value → Shared → Prop} {s : Shared} {h₀ : Heap} {L : Addr} {m : Str → Option Value} {env : Env}
theorem rest_rows (b : Bool) {x x₂ y : Str} {py : Pos} {scope : Scope} {cl : List (Str × Addr)} {S : Led → Prop} {its : Array Value} {rows : List Row} {Fin : List Value → Led → Prop} {news : Led}
    (hk : scope.kind = .function) (hl : ∀ C, (compEnvC scope cl C env).kindOf y = some .local) (hd : (y == ("__debug__" : Str)) = false) (hy : y = if b then x else x₂)
    (hR : RowsIn news its rows) (hS : S news) (hfin : ∀ ys, ColIs b ys rows rows.length → Fin ys news) : ∀ (k i : Nat) (ys : List Value), i + k = rows.length → ColIs b ys rows i →
    CompRestP prog w A h₀ L m env (.Name y py) x x₂ scope cl s S (fun i v => its[i]? = some v) Fin k i ys news
  | 0, i, ys, hik, hc => hfin ys (by rw [← hik]; exact hc)
  | k + 1, i, ys, hik, hc => by
    refine CompRestP.succ fun v hv => ?_
    have hi : i < rows.length := by omega
    obtain ⟨D, ta, tb, e1, e2⟩ := hR.2 i rows[i] (List.getElem?_eq_getElem hi)
    rw [hv] at e1
    cases Option.some.inj e1
    refine ⟨D, _, _, _, 0, rfl, e2, rfl, rfl, ?_⟩
    intro I oI C oC D₂ m₂ h tk E' hC hx hx2 F N off ne
    have fin : ∀ t, m₂ y = some (.str (cell b rows[i]) t) → wpAny (model prog w) A (eval (.Name y py) (compEnvC scope cl C env)) (CompEnd h₀ L m { s with heap := h, toks := tk } I oI C oC D₂ (lst ys) S (fun y' news' => CompRestP prog w A h₀ L m env (.Name y py) x x₂ scope cl s S (fun i v => its[i]? = some v) Fin k (i + 1) (ys ++ [y']) news')) E' { s with heap := h, toks := tk } := by
      intro t ht
      refine LCgL.ld_own N (.tail _ (.head _)) hC ht ?_ (by simpa [compEnvC, relabel] using hk) (hl C) hd
      exact CompEnd.intro F N news (fun p hp => hp) off hS (rest_rows b hk hl hd hy hR hS hfin k (i + 1) _ (by omega) (hc.snoc (List.getElem?_eq_getElem hi)))
    cases b with
    | true => subst hy; exact fin ta hx
    | false => subst hy; exact fin tb hx2
end
end PCols
section PCols2
open PySem.Spec PySem.Calls
open LCg LCp
section
variable {w : World} {p : Program} {loose : List Str} {mean : ExcName → Option Value} {mg mb : Str → Option Value}
theorem ln_22 : True := by
  (k_with "eval ListComp" => ((with_reducible show wpAny _ _ (eval (PySem.Expr.ListComp (PySem.Expr.Name _ _) [⟨PySem.Expr.Tuple _ _ _, _, _, _⟩] _ _) _) _ _ _); k_here; k_dflt (refine LCp.ListComp_P (F₀ := by k_asm) (by with_unfolding_all rfl) (by decide) (by rfl) (by decide) (by rfl) (by rfl) (by decide) ?_)))
  (k_with "m:enterDO" => (k_extra "m:fill"; unfold ClaimO; k_extra "m:skC"; intros B F X N T hk hd9 hu9 hret; (refine wpAny_call ?_); k_dflt (refine' code_def ?k1 ?k2 ?k3 ?k4 ?k5 ?kA ?kF ?kK ?k6 ?k7 ?k8 ?k9 ?kB ?_ ?c2 ?c3 ?c4 ?c5; (case kA => exact rfl); (case kF => exact rfl); (case kK => assumption); k_extra "m:std1"; (case k6 => k_is); (case k7 => k_is); (case k8 => (first | k_extra "m:room" | ktr_room)); (case k9 => first | exact BindsTo.of_eq rfl | exact binds_K (by k_in) rfl (by k_is) rfl rfl rfl); (case c5 => decide); (case kB => exact locs rfl); (case c2 => exact rfl); (case c3 => exact rfl); (case c4 => exact rfl); k_whole; ((first | (k_dflt (refine' (us3 neHeap neNat neHeap ?z9sl ((?_ : L3 _ _ _ _) () ()) :); (case z9sl => k_extra "m:slot"); intros u8 g' L' h' u9; clear u8 u9; k_extra "m:cl")) | (refine (sk3 neHeap neNat neHeap ((?_ : ∀ (g' : Heap) (L' : Addr) (h' : Heap), _) _ _ _) :); intros g' L' h'))); intros FG' F' N' B' X' T'; (try dsimp only); (try k_lift B'))))
  trivial
theorem keys_c {news tl : Led} {tb dx hl : Addr} {hvs : Array Value} {n : Nat} {tk : Tok} {rows : List Row}
    (i1 : (tb, instObj 256 dx) ∈ tl) (i2 : (dx, dictOf [{ hash := PyData.keyHash w.params (Str.ofString "_headers"), key := .str (Str.ofString "_headers") tk, val := .ref hl }] 1) ∈ tl)
    (i3 : (hl, listOf hvs n) ∈ news) (hR : RowsIn tl hvs rows) (sub : ∀ p ∈ tl, p ∈ news) (hz : hvs.size ≤ sizeLine) :
    ClaimO w p loose mean mg mb (.ref 208) 4 [.ref tb] news (fun K => ∀ D ys, ColIs true ys rows rows.length → K [(D, lst ys)] (.ref D)) := by
  (revert w p loose mean mg mb news tl tb dx hl hvs n tk rows; (first | (k_dflt (refine' (us8 neW neProg neLs neMean neFr neFr neLed neLed ?z9sl ((?_ : L8 _ _ _ _ _ _ _ _ _) () ()) :); (case z9sl => k_extra "m:slot"); intros u8 w p loose mean mg mb news tl u9; clear u8 u9; k_extra "m:cl")) | (refine (sk8 neW neProg neLs neMean neFr neFr neLed neLed ((?_ : ∀ (w : World) (p : Program) (loose : List Str) (mean : ExcName → Option Value) (mg : Str → Option Value) (mb : Str → Option Value) (news : Led) (tl : Led), _) _ _ _ _ _ _ _ _) :); intros w p loose mean mg mb news tl)); (first | (k_dflt (refine' (us7 neNat neNat neNat neArr neNat neTok neList ?z9sl ((?_ : L7 _ _ _ _ _ _ _ _) () ()) :); (case z9sl => k_extra "m:slot"); intros u8 tb dx hl hvs n tk rows u9; clear u8 u9; k_extra "m:cl")) | (refine (sk7 neNat neNat neNat neArr neNat neTok neList ((?_ : ∀ (tb : Addr) (dx : Addr) (hl : Addr) (hvs : Array Value) (n : Nat) (tk : Tok) (rows : List Row), _) _ _ _ _ _ _ _) :); intros tb dx hl hvs n tk rows)); intros i1 i2 i3 hR sub hz)
  replace i1 := sub _ i1
  replace i2 := sub _ i2
  replace hR := hR.mono sub
  k_extra "m:enterDO"
  k_steps
  refine SrcLP.ledger (by rfl) (by k_asm) (by k_asm) i3 hz ?_
  ((first | (k_dflt (refine' (us1 neHeap ?z9sl ((?_ : L1 _ _) () ()) :); (case z9sl => k_extra "m:slot"); intros u8 g9 u9; clear u8 u9; k_extra "m:cl")) | (refine (sk1 neHeap ((?_ : ∀ (g9 : Heap), _) _) :); intros g9)))
  refine rest_rows true rfl (fun _ => rfl) (by decide) (by rfl) hR (Or.inr ⟨_, i3, rfl, _, rfl⟩) ?_ _ 0 [] (by rw [Nat.zero_add]; exact hR.1) ⟨rfl, fun j r hj => absurd hj (Nat.not_lt_zero _)⟩
  ((first | (k_dflt (refine' (us1 neLv ?z9sl ((?_ : L1 _ _) () ()) :); (case z9sl => k_extra "m:slot"); intros u8 ys u9; clear u8 u9; k_extra "m:cl")) | (refine (sk1 neLv ((?_ : ∀ (ys : List Value), _) _) :); intros ys)))
  intro hc
  k_steps
  exact ret_new (Q := Q) (s := s) (hret _ _ hc) (by k_asm) (by k_asm) (by lcg_sub) (m_ne_off1 (by assumption))
theorem values_c {news tl : Led} {tb dx hl : Addr} {hvs : Array Value} {n : Nat} {tk : Tok} {rows : List Row}
    (i1 : (tb, instObj 256 dx) ∈ tl) (i2 : (dx, dictOf [{ hash := PyData.keyHash w.params (Str.ofString "_headers"), key := .str (Str.ofString "_headers") tk, val := .ref hl }] 1) ∈ tl)
    (i3 : (hl, listOf hvs n) ∈ news) (hR : RowsIn tl hvs rows) (sub : ∀ p ∈ tl, p ∈ news) (hz : hvs.size ≤ sizeLine) :
    ClaimO w p loose mean mg mb (.ref 213) 4 [.ref tb] news (fun K => ∀ D ys, ColIs false ys rows rows.length → K [(D, lst ys)] (.ref D)) := by
  (revert w p loose mean mg mb news tl tb dx hl hvs n tk rows; (first | (k_dflt (refine' (us8 neW neProg neLs neMean neFr neFr neLed neLed ?z9sl ((?_ : L8 _ _ _ _ _ _ _ _ _) () ()) :); (case z9sl => k_extra "m:slot"); intros u8 w p loose mean mg mb news tl u9; clear u8 u9; k_extra "m:cl")) | (refine (sk8 neW neProg neLs neMean neFr neFr neLed neLed ((?_ : ∀ (w : World) (p : Program) (loose : List Str) (mean : ExcName → Option Value) (mg : Str → Option Value) (mb : Str → Option Value) (news : Led) (tl : Led), _) _ _ _ _ _ _ _ _) :); intros w p loose mean mg mb news tl)); (first | (k_dflt (refine' (us7 neNat neNat neNat neArr neNat neTok neList ?z9sl ((?_ : L7 _ _ _ _ _ _ _ _) () ()) :); (case z9sl => k_extra "m:slot"); intros u8 tb dx hl hvs n tk rows u9; clear u8 u9; k_extra "m:cl")) | (refine (sk7 neNat neNat neNat neArr neNat neTok neList ((?_ : ∀ (tb : Addr) (dx : Addr) (hl : Addr) (hvs : Array Value) (n : Nat) (tk : Tok) (rows : List Row), _) _ _ _ _ _ _ _) :); intros tb dx hl hvs n tk rows)); intros i1 i2 i3 hR sub hz)
  replace i1 := sub _ i1
  replace i2 := sub _ i2
  replace hR := hR.mono sub
  k_extra "m:enterDO"
  k_steps
  refine SrcLP.ledger (by rfl) (by k_asm) (by k_asm) i3 hz ?_
  ((first | (k_dflt (refine' (us1 neHeap ?z9sl ((?_ : L1 _ _) () ()) :); (case z9sl => k_extra "m:slot"); intros u8 g9 u9; clear u8 u9; k_extra "m:cl")) | (refine (sk1 neHeap ((?_ : ∀ (g9 : Heap), _) _) :); intros g9)))
  refine rest_rows false rfl (fun _ => rfl) (by decide) (by rfl) hR (Or.inr ⟨_, i3, rfl, _, rfl⟩) ?_ _ 0 [] (by rw [Nat.zero_add]; exact hR.1) ⟨rfl, fun j r hj => absurd hj (Nat.not_lt_zero _)⟩
  ((first | (k_dflt (refine' (us1 neLv ?z9sl ((?_ : L1 _ _) () ()) :); (case z9sl => k_extra "m:slot"); intros u8 ys u9; clear u8 u9; k_extra "m:cl")) | (refine (sk1 neLv ((?_ : ∀ (ys : List Value), _) _) :); intros ys)))
  intro hc
  k_steps
  exact ret_new (Q := Q) (s := s) (hret _ _ hc) (by k_asm) (by k_asm) (by lcg_sub) (m_ne_off1 (by assumption))
end
end PCols2
section PGet2
section
variable {w : World} {p : Program} {loose : List Str} {mean : ExcName → Option Value} {mg mb : Str → Option Value}
theorem ln_23 : True := by
  (k_with "exec For Tuple" => (k_dflt (refine wpAny_For ?_)))
  (k_with "call ref" => ((with_reducible show wpAny _ _ (call (Value.ref 155) _ _) _ _ _); k_here; k_dflt (refine' conv_c ?z9hx _ _ _ _ _ _ _ _ _ _ _ _ _ _ _ _ _ ?k1 ?k2 ?k3 ?k4 ?k5 ?kK ?kd ?ku ?_; (case z9hx => with_reducible assumption); k_extra "m:std"; k_whole); k_extra "m:got0"))
  (k_with "call builtin:str.lower" => ((with_reducible show wpAny _ _ (call (Value.builtin "str.lower") [Value.str _ _]) _ _ _); k_dflt (refine' KXw.lower ?z9e ?z9f ?_; (case z9e => with_reducible assumption); (case z9f => (rw [‹Txt.lower _ = _›]; rfl)); ((first | (k_dflt (refine' (us2 neTok neNat ?z9sl ((?_ : L2 _ _ _) () ()) :); (case z9sl => k_extra "m:slot"); intros u8 t9 k9 u9; clear u8 u9; k_extra "m:cl")) | (refine (sk2 neTok neNat ((?_ : ∀ (t9 : Tok) (k9 : Nat), _) _ _) :); intros t9 k9))))))
  (k_with "eval Name" => ((first | (with_reducible show wpAny _ _ (eval (PySem.Expr.Name (Str.ofString "name") _) _) _ _ _) | (with_reducible show wpAny _ _ (eval (PySem.Expr.Name (Str.ofString "default") _) _) _ _ _)); k_here; k_dflt (refine' ld ?k1 ?k2 ?_; (case k1 => k_asm); (case k2 => first | (with_reducible assumption) | ((repeat (refine (if_neg (by decide)).trans ?_)); with_reducible assumption)); k_whole)))
  trivial
theorem get_d {news : Led} {tb dx hl : Addr} {hvs : Array Value} {n : Nat} {tk t1 : Tok} {x : Str} {ia ib : Nat} (dv : Value) (hx : Txt.lower x = loS ia ib) (ha : ia < 25) (hb : ib < 25) {rows : List Row} (hR : RowsIn news hvs rows) (hB : ∀ r ∈ rows, r.1 < 25 ∧ r.2.1 < 25) (hT : TabIn w news tb dx hl hvs n tk) : Claim w p loose mean mg mb (.ref 203) 4 [.ref tb, .str x t1, dv] news (fun K => match rows.find? (fun r => r.1 == ia && r.2.1 == ib) with | some r => ∀ t, K [] (.str r.2.2 t) | none => K [] dv) := by
  (revert w p loose mean mg mb news tb dx hl hvs n tk t1 x ia ib dv rows; (first | (k_dflt (refine' (us8 neW neProg neLs neMean neFr neFr neLed neNat ?z9sl ((?_ : L8 _ _ _ _ _ _ _ _ _) () ()) :); (case z9sl => k_extra "m:slot"); intros u8 w p loose mean mg mb news tb u9; clear u8 u9; k_extra "m:cl")) | (refine (sk8 neW neProg neLs neMean neFr neFr neLed neNat ((?_ : ∀ (w : World) (p : Program) (loose : List Str) (mean : ExcName → Option Value) (mg : Str → Option Value) (mb : Str → Option Value) (news : Led) (tb : Addr), _) _ _ _ _ _ _ _ _) :); intros w p loose mean mg mb news tb)); (first | (k_dflt (refine' (us8 neNat neNat neArr neNat neTok neTok neStr neNat ?z9sl ((?_ : L8 _ _ _ _ _ _ _ _ _) () ()) :); (case z9sl => k_extra "m:slot"); intros u8 dx hl hvs n tk t1 x ia u9; clear u8 u9; k_extra "m:cl")) | (refine (sk8 neNat neNat neArr neNat neTok neTok neStr neNat ((?_ : ∀ (dx : Addr) (hl : Addr) (hvs : Array Value) (n : Nat) (tk : Tok) (t1 : Tok) (x : Str) (ia : Nat), _) _ _ _ _ _ _ _ _) :); intros dx hl hvs n tk t1 x ia)); (first | (k_dflt (refine' (us2 neNat neVal ?z9sl ((?_ : L2 _ _ _) () ()) :); (case z9sl => k_extra "m:slot"); intros u8 ib dv u9; clear u8 u9; k_extra "m:cl")) | (refine (sk2 neNat neVal ((?_ : ∀ (ib : Nat) (dv : Value), _) _ _) :); intros ib dv)); intros hx ha hb; (first | (k_dflt (refine' (us1 neList ?z9sl ((?_ : L1 _ _) () ()) :); (case z9sl => k_extra "m:slot"); intros u8 rows u9; clear u8 u9; k_extra "m:cl")) | (refine (sk1 neList ((?_ : ∀ (rows : List Row), _) _) :); intros rows)); intros hR hB hT)
  have hp := plain_lo ha hb
  have hll := lo_lo ha hb
  obtain ⟨m1, m2, m3⟩ := hT
  unfold hdEntry at m2
  k_extra "m:enterD"
  k_steps

  refine for_list (items := hvs) (fun i m₁ news₁ => news₁ = news ∧ (∃ t', m₁ (Str.ofString "name") = some (.str (loS ia ib) t')) ∧ m₁ (Str.ofString "default") = some dv ∧ (∀ j r, j < i → rows[j]? = some r → ¬ (r.1 = ia ∧ r.2.1 = ib))) rfl ?go (by k_asm) (by k_asm) ?j0 ?lst ?turn ?done
  case go =>
    intro I i v s Q E hv hit hq
    obtain ⟨hsz, hr⟩ := hR
    have hi : i < rows.length := by
      rw [← hsz]
      exact (Array.getElem?_eq_some_iff.mp hv).1
    obtain ⟨D, ta, tb, e, _⟩ := hr i _ (List.getElem?_eq_getElem hi)
    rw [hv] at e
    cases Option.some.inj e
    exact wpAny_letOwnedTupleGo_listiter hit hq
  case j0 => exact ⟨rfl, ⟨_, rfl⟩, rfl, fun j r hj => absurd hj (Nat.not_lt_zero _)⟩
  case lst =>
    rintro i m₁ news₁ h ⟨rfl, _⟩ F9 N9
    exact N9.isList m3
  case turn =>
    ((first | (k_dflt (refine' (us8 neNat neObj neNat neVal neFr neLed neHeap neNat ?z9sl ((?_ : L8 _ _ _ _ _ _ _ _ _) () ()) :); (case z9sl => k_extra "m:slot"); intros u8 I o i v m₁ news₁ h tk u9; clear u8 u9; k_extra "m:cl")) | (refine (sk8 neNat neObj neNat neVal neFr neLed neHeap neNat ((?_ : ∀ (I : Addr) (o : Obj) (i : Nat) (v : Value) (m₁ : Str → Option Value) (news₁ : Led) (h : Heap) (tk : Nat), _) _ _ _ _ _ _ _ _) :); intros I o i v m₁ news₁ h tk)))
    rintro hI hv ⟨rfl, ht9, hdf, hno⟩ hne F9 N9
    refine ex1 ht9 ?_
    ((first | (k_dflt (refine' (us1 neTok ?z9sl ((?_ : L1 _ _) () ()) :); (case z9sl => k_extra "m:slot"); intros u8 t' u9; clear u8 u9; k_extra "m:cl")) | (refine (sk1 neTok ((?_ : ∀ (t' : Tok), _) _) :); intros t')))
    intro hn
    clear ht9
    obtain ⟨hsz, hr⟩ := hR
    have hi : i < rows.length := by
      rw [← hsz]
      exact (Array.getElem?_eq_some_iff.mp hv).1
    refine ex3 (hr i _ (List.getElem?_eq_getElem hi)) ?_
    ((first | (k_dflt (refine' (us3 neNat neTok neTok ?z9sl ((?_ : L3 _ _ _ _) () ()) :); (case z9sl => k_extra "m:slot"); intros u8 D ta tb u9; clear u8 u9; k_extra "m:cl")) | (refine (sk3 neNat neTok neTok ((?_ : ∀ (D : Addr) (ta : Tok) (tb : Tok), _) _ _ _) :); intros D ta tb)))
    rintro ⟨e, hD⟩
    rw [hv] at e
    cases Option.some.inj e
    clear e
    have hll2 := nm_lo (hB _ (List.getElem_mem hi)).1 (hB _ (List.getElem_mem hi)).2
    k_steps
    · rename_i hc
      dsimp only [TurnK]
      k_steps
      have hc : rows[i].1 = ia ∧ rows[i].2.1 = ib := lo_inj.mp (by simpa using hc)
      have hf : rows.find? (fun r => r.1 == ia && r.2.1 == ib) = some rows[i] := by
        rw [List.find?_eq_some_iff_getElem]
        refine ⟨by simp [hc.1, hc.2], i, hi, rfl, fun j hj => ?_⟩
        have z := hno j rows[j] hj (List.getElem?_eq_getElem _)
        simp only [Bool.not_eq_true', Bool.and_eq_false_iff, beq_eq_false_iff_ne]
        by_cases h1 : rows[j].1 = ia
        · exact .inr fun h2 => z ⟨h1, h2⟩
        · exact .inl h1
      rw [hf] at hret
      exact hret _ _ _ (by assumption) (fun p hp => ‹News h₀ L _ _› p (by first | exact hp | exact .tail _ hp)) trivial
    · rename_i hc
      dsimp only [TurnK]
      refine ⟨_, _, _, _, rfl, by assumption, by assumption, hne, rfl, ⟨t', ?_⟩, ?_, ?_⟩
      · (repeat (refine (if_neg (by decide)).trans ?_)); with_reducible assumption
      · (repeat (refine (if_neg (by decide)).trans ?_)); with_reducible assumption
      · intro j r hj hr' hx
        by_cases hji : j < i
        · exact hno j r hji hr' hx
        · have : j = i := by omega
          subst this
          rw [List.getElem?_eq_getElem hi] at hr'
          cases Option.some.inj hr'
          rw [hx.1, hx.2] at hc
          simp at hc
  case done =>
    ((first | (k_dflt (refine' (us4 neFr neLed neHeap neNat ?z9sl ((?_ : L4 _ _ _ _ _) () ()) :); (case z9sl => k_extra "m:slot"); intros u8 m₁ news₁ h tk u9; clear u8 u9; k_extra "m:cl")) | (refine (sk4 neFr neLed neHeap neNat ((?_ : ∀ (m₁ : Str → Option Value) (news₁ : Led) (h : Heap) (tk : Nat), _) _ _ _ _) :); intros m₁ news₁ h tk)))
    rintro ⟨rfl, ht9, hdf, hno⟩ F9 N9
    refine ex1 ht9 ?_
    ((first | (k_dflt (refine' (us1 neTok ?z9sl ((?_ : L1 _ _) () ()) :); (case z9sl => k_extra "m:slot"); intros u8 t' u9; clear u8 u9; k_extra "m:cl")) | (refine (sk1 neTok ((?_ : ∀ (t' : Tok), _) _) :); intros t')))
    intro hn
    clear ht9
    k_steps
    have hf : rows.find? (fun r => r.1 == ia && r.2.1 == ib) = none := by
      rw [List.find?_eq_none]
      intro r hr hc
      obtain ⟨j, hj, e⟩ := List.getElem_of_mem hr
      simp only [Bool.and_eq_true, beq_iff_eq] at hc
      exact hno j r (by rw [hR.1]; exact hj) (by rw [List.getElem?_eq_getElem hj, e]) hc
    rw [hf] at hret
    exact hret _ _ (by assumption) ‹News h₀ L _ _› trivial
end
end PGet2
section PPick
open PySem.Spec PySem.Calls
open LCg
theorem pick3 {ys : List Value} {n : Nat} (h : ys.length = 3 * n) : (slicePick ys.toArray none none (some 3)).toList = (List.range n).map fun k => ys.getD (3 * k) .none := by
  have hb : sliceBounds none none (some 3) ys.toArray.size = (0, ((3 * n : Nat) : Int), 3) := by
    unfold sliceBounds
    simp [h]
  have hc : (if (0 : Int) < ((3 * n : Nat) : Int) then (((3 * n : Nat) : Int) - 0 + 3 - 1) / 3 else 0).toNat = n := by
    split
    · omega
    · lia
  unfold slicePick sliceRange
  rw [hb]
  simp only [show (3 : Int) > 0 by decide, if_true, hc]
  rw [List.filterMap_map]
  have e : ∀ k ∈ List.range n, ((fun (i : Nat) => ys.toArray[i]?) ∘ fun (k : Nat) => ((0 : Int) + 3 * (k : Int)).toNat) k = some (ys.getD (3 * k) .none) := by
    intro k hk
    have hk' := List.mem_range.mp hk
    have e1 : ((0 : Int) + 3 * (k : Int)).toNat = 3 * k := by omega
    simp only [Function.comp, e1, List.getElem?_toArray]
    rw [List.getD_eq_getElem?_getD, List.getElem?_eq_getElem (by omega)]
    rfl
  generalize List.range n = l at e
  induction l with
  | nil => rfl
  | cons k l ih =>
    rw [List.filterMap_cons, e k (List.mem_cons_self ..), List.map_cons, ih (fun j hj => e j (List.mem_cons_of_mem _ hj))]
theorem pick3_at {ys : List Value} {n k : Nat} (h : ys.length = 3 * n) (hk : k < n) : ((List.range n).map fun k => ys.getD (3 * k) .none)[k]? = ys[3 * k]? := by
  rw [List.getElem?_map, List.getElem?_range hk]
  show some (ys.getD (3 * k) .none) = _
  rw [List.getD_eq_getElem?_getD, List.getElem?_eq_getElem (by omega)]
  rfl
theorem ColIs.reads {b : Bool} {h : Heap} : ∀ {rows : List Row} {ys : List Value}, ColIs b ys rows rows.length → ReadsAll h ys (rows.map fun r => PyData.str (cell b r)) []
  | [], ys, hc => by
    have : ys = [] := List.length_eq_zero_iff.mp hc.1
    subst this
    exact ReadsAll.nil
  | r :: rows, ys, hc => by
    match ys, hc with
    | y :: ys', hc =>
      obtain ⟨t, e⟩ := hc.2 0 r (by simp) rfl
      cases Option.some.inj e
      refine ReadsAll.cons (as := []) (bs := []) (Reads.str _ _) (ColIs.reads (rows := rows) ⟨by have := hc.1; simpa using this, fun j r' hj hr' => ?_⟩)
      obtain ⟨t', e'⟩ := hc.2 (j + 1) r' (by simp; omega) (by simpa using hr')
      exact ⟨t', by simpa using e'⟩
open PyData in
theorem lay_cells {b : Bool} : ∀ {rows : List Row}, (∀ r ∈ rows, Plain (cell b r).cps) → canLayAll0 (rows.map fun r => PyData.str (cell b r)) = true ∧ depthAll (rows.map fun r => PyData.str (cell b r)) ≤ 2
  | [], _ => ⟨by simp [canLayAll0], by simp [depthAll]⟩
  | r :: rows, h => by
    obtain ⟨h1, h2⟩ := lay_cells (rows := rows) (fun r hr => h r (List.mem_cons_of_mem _ hr))
    have hp := h r (List.mem_cons_self ..)
    have hs : PyData.strOk (cell b r) = true := by
      unfold PyData.strOk
      rw [Array.all_eq_true']
      intro c hc
      have := hp c hc
      simp; omega
    refine ⟨?_, ?_⟩
    · rw [List.map_cons, canLayAll0, h1, canLay0, hs]; rfl
    · rw [List.map_cons, depthAll]
      have : depth (PyData.str (cell b r)) ≤ 2 := by simp [depth]
      omega
section
variable {prog : Program} {w : World} {A : Around} {E : Value → Shared → Prop} {s : Shared} {h₀ : Heap} {L : Addr}
open PyData in
theorem ne_cols {news : Led} {X1 X2 A1 A2 B1 B2 : Addr} {n1 n2 : Nat} {ys1 ys2 zs1 zs2 : List Value} {rows : List Row} {Q : Value → Shared → Prop} (N : News h₀ L s.heap news)
    (x1 : (X1, listOf #[.ref A1, .ref A2] n1) ∈ news) (x2 : (X2, listOf #[.ref B1, .ref B2] n2) ∈ news) (a1 : (A1, lst ys1) ∈ news) (a2 : (A2, lst ys2) ∈ news) (b1 : (B1, lst zs1) ∈ news) (b2 : (B2, lst zs2) ∈ news)
    (c1 : ColIs true ys1 rows rows.length) (c2 : ColIs false ys2 rows rows.length) (d1 : ColIs true zs1 rows rows.length) (d2 : ColIs false zs2 rows rows.length) (hp : ∀ r ∈ rows, ∀ b, Plain (cell b r).cps)
    (hu : A.units + 64 < cLine) (h : Q (.bool false) s) : wpAny (model prog w) A (compareOp .NotEq (.ref X1) (.ref X2)) Q E s := by
  have rl : ∀ {A : Addr} {b : Bool} {ys : List Value}, (A, lst ys) ∈ news → ColIs b ys rows rows.length → Reads s.heap (.ref A) (.list (rows.map fun r => PyData.str (cell b r))) [A] := fun hm hc =>
    reads_list_at (N _ hm).1 rfl rfl (by simpa using hc.reads)
  have ra : Reads s.heap (.ref X1) (.list [.list (rows.map fun r => PyData.str (cell true r)), .list (rows.map fun r => PyData.str (cell false r))]) _ := reads_list_at (N _ x1).1 rfl rfl (.cons (rl a1 c1) (.cons (rl a2 c2) .nil))
  have rb : Reads s.heap (.ref X2) (.list [.list (rows.map fun r => PyData.str (cell true r)), .list (rows.map fun r => PyData.str (cell false r))]) _ := reads_list_at (N _ x2).1 rfl rfl (.cons (rl b1 d1) (.cons (rl b2 d2) .nil))
  obtain ⟨l1, l2⟩ := lay_cells (b := true) (rows := rows) (fun r hr => hp r hr true)
  obtain ⟨l3, l4⟩ := lay_cells (b := false) (rows := rows) (fun r hr => hp r hr false)
  have cl : (PyData.list [.list (rows.map fun r => PyData.str (cell true r)), .list (rows.map fun r => PyData.str (cell false r))]).canLay0 = true := by
    simp only [canLay0, canLayAll0, l1, l3, Bool.and_self]
  have sh : SeqAt.shaped (PyData.list [.list (rows.map fun r => PyData.str (cell true r)), .list (rows.map fun r => PyData.str (cell false r))]) = true := by
    unfold SeqAt.shaped
    rw [cl, Bool.true_and, decide_eq_true_eq]
    simp only [depth, depthAll]
    lia
  refine ne_dataH ra rb sh sh hu ?_
  rw [SeqAt.eqv_refl _ cl]
  exact h
end
end PPick
section PPure2
noncomputable abbrev Col3 := Int × Int × Int
noncomputable def rtc (c : Col3) (j : Nat) : Col3 := rt c.1 c.2.1 c.2.2 j
noncomputable def rowC (a' b' c' size : Int) (c : Col3) : Row := rowOf txt3 a' b' c' size c.1 c.2.1 c.2.2
noncomputable def three (a' b' c' size : Int) (c : Col3) : List Row := [rowC a' b' c' size (rtc c 0), rowC a' b' c' size (rtc c 1), rowC a' b' c' size (rtc c 2)]
/-- the first colours that are laid -/
noncomputable def firstsAt (a' b' c' size white : Int) : Nat → List Col3
  | 0 => []
  | i + 1 =>
    if ((rowC a' b' c' size (col white i 0)).1 == 0 && (rowC a' b' c' size (col white i 0)).2.1 == 0) || (found (rowsAt txt3 a' b' c' size white i) (rowC a' b' c' size (col white i 0)).1 (rowC a' b' c' size (col white i 0)).2.1).isSome then firstsAt a' b' c' size white i
    else firstsAt a' b' c' size white i ++ [col white i 0]
section
variable {a' b' c' size white : Int}
theorem rowsAt_firsts : ∀ i, rowsAt txt3 a' b' c' size white i = (firstsAt a' b' c' size white i).flatMap (three a' b' c' size)
  | 0 => rfl
  | i + 1 => by
    have ih := rowsAt_firsts i
    rw [rowsAt, firstsAt]
    have e : rowOf txt3 a' b' c' size ((F10' i).1 + white) ((F10' i).2.1 + white) ((F10' i).2.2 + white) = rowC a' b' c' size (col white i 0) := rfl
    simp only [e]
    split
    · exact ih
    · rw [List.flatMap_append, ← ih]
      show rowsT _ _ _ _ _ 3 = _
      simp only [rowsT, List.flatMap_cons, List.flatMap_nil, List.append_nil, three, List.append_assoc]
      rfl
theorem firsts_mem : ∀ i c, i ≤ 10 → c ∈ firstsAt a' b' c' size white i → ∃ k, k < 10 ∧ c = col white k 0
  | 0, c, _, h => by cases h
  | i + 1, c, hi, h => by
    rw [firstsAt] at h
    split at h
    · exact firsts_mem i c (by omega) h
    · rcases List.mem_append.mp h with h | h
      · exact firsts_mem i c (by omega) h
      · exact ⟨i, by omega, List.mem_singleton.mp h⟩
theorem firsts_len : ∀ i, (firstsAt a' b' c' size white i).length ≤ i
  | 0 => Nat.le_refl _
  | i + 1 => by
    have ih := firsts_len i
    rw [firstsAt]
    split
    · omega
    · rw [List.length_append]; simp; omega
noncomputable def hit (a' b' c' size : Int) (c : Col3) (ia ib : Nat) : Bool := ixA c.1 c.2.1 c.2.2 a' b' c' size == ia && ixB c.1 c.2.1 c.2.2 a' b' c' size == ib
noncomputable def look1 (a' b' c' size : Int) (ia ib : Nat) (c : Col3) : Option (Nat × Col3) :=
  if hit a' b' c' size (rtc c 0) ia ib then some (0, c) else if hit a' b' c' size (rtc c 1) ia ib then some (1, c) else if hit a' b' c' size (rtc c 2) ia ib then some (2, c) else none
noncomputable def lookT (a' b' c' size : Int) (fs : List Col3) (ia ib : Nat) : Option (Nat × Col3) := fs.findSome? (look1 a' b' c' size ia ib)
theorem found_look {ia ib : Nat} : ∀ fs : List Col3, found (fs.flatMap (three a' b' c' size)) ia ib = (lookT a' b' c' size fs ia ib).map fun q => rowC a' b' c' size (rtc q.2 q.1)
  | [] => rfl
  | c :: fs => by
    have ih := found_look (ia := ia) (ib := ib) fs
    unfold found lookT at *
    rw [List.flatMap_cons, List.find?_append, ih, List.findSome?_cons]
    have eh : ∀ j, ((rowC a' b' c' size (rtc c j)).1 == ia && (rowC a' b' c' size (rtc c j)).2.1 == ib) = hit a' b' c' size (rtc c j) ia ib := fun _ => rfl
    unfold look1 three
    simp only [List.find?_cons, List.find?_nil, eh]
    cases hit a' b' c' size (rtc c 0) ia ib <;> cases hit a' b' c' size (rtc c 1) ia ib <;> cases hit a' b' c' size (rtc c 2) ia ib <;> simp
theorem look_mem {ia ib : Nat} {fs : List Col3} {q : Nat × Col3} (h : lookT a' b' c' size fs ia ib = some q) : q.2 ∈ fs ∧ q.1 < 3 := by
  obtain ⟨c, hc, e⟩ := List.exists_of_findSome?_eq_some h
  unfold look1 at e
  split at e
  · cases e; exact ⟨hc, by omega⟩
  · split at e
    · cases e; exact ⟨hc, by omega⟩
    · split at e
      · cases e; exact ⟨hc, by omega⟩
      · cases e
end
noncomputable def timesC (a c : Col3) : Col3 := (a.1 * c.1 + a.2.1 * c.2.2 + a.2.2 * c.2.1, a.1 * c.2.1 + a.2.1 * c.1 + a.2.2 * c.2.2, a.1 * c.2.2 + a.2.1 * c.2.1 + a.2.2 * c.1)
noncomputable def goT (look : Col3 → Option (Nat × Col3)) : List Col3 → Int → Int
  | [], acc => acc.fmod 3
  | c :: r, acc => match look c with
    | none => -1
    | some q => goT look r (acc + (q.1 : Int))
noncomputable def lookA (a : Col3) (a' b' c' size : Int) (fs : List Col3) (c : Col3) : Option (Nat × Col3) :=
  lookT a' b' c' size fs (ixA (timesC a c).1 (timesC a c).2.1 (timesC a c).2.2 a' b' c' size) (ixB (timesC a c).1 (timesC a c).2.1 (timesC a c).2.2 a' b' c' size)
/-- what _law_thirds answers -/
noncomputable def thirdsF (a : Col3) (a' b' c' size white : Int) : Int := goT (lookA a a' b' c' size (firstsAt a' b' c' size white 10)) (firstsAt a' b' c' size white 10) 0
theorem three_at {a' b' c' size : Int} : ∀ (fs : List Col3) (k : Nat), (fs.flatMap (three a' b' c' size))[3 * k]? = fs[k]?.map (rowC a' b' c' size)
  | [], k => by simp
  | c :: fs, 0 => rfl
  | c :: fs, k + 1 => by
    have ih := three_at (a' := a') (b' := b') (c' := c') (size := size) fs k
    rw [List.flatMap_cons]
    have e : 3 * (k + 1) = 3 * k + 1 + 1 + 1 := by lia
    rw [e]
    show (fs.flatMap (three a' b' c' size))[3 * k]? = _
    rw [ih]; rfl
theorem three_len {a' b' c' size : Int} : ∀ (fs : List Col3), (fs.flatMap (three a' b' c' size)).length = 3 * fs.length
  | [] => rfl
  | c :: fs => by
    have ih := three_len (a' := a') (b' := b') (c' := c') (size := size) fs
    rw [List.flatMap_cons, List.length_append, ih, List.length_cons]
    show 3 + _ = _
    lia
end PPure2
section PPF1
open PySem.Float64
@[irreducible] noncomputable def Qn : Nat := 2 ^ 1024
theorem Qn_pos : 0 < Qn := by unfold Qn; exact Nat.two_pow_pos _
theorem Qn_big : 2 * (2 ^ 53 * Qn) ≤ (2 ^ 54 - 1) * 2 ^ 2045 := by unfold Qn; decide +kernel
theorem one_Q : (2 : Nat) ^ 1074 = 2 ^ 50 * Qn := by unfold Qn; rw [← Nat.pow_add]
theorem V_rep : ∀ k q : Nat, q < 2 ^ 53 → ∃ t, V t = q * 2 ^ k
  | 0, q, h => ⟨q, by have := V_at (k := 0) (q := q) (by omega) (.inr rfl); simpa using this⟩
  | k + 1, q, h => by
    by_cases h2 : 2 ^ 52 ≤ q
    · exact ⟨_, V_at (k := k + 1) (q := q) (by omega) (.inl h2)⟩
    · obtain ⟨t, e⟩ := V_rep k (2 * q) (by omega)
      exact ⟨t, by rw [e, Nat.pow_succ]; ac_rfl⟩
theorem V_inj {t t' : Nat} (h : V t = V t') : t = t' := by
  rcases Nat.lt_trichotomy t t' with h1 | h1 | h1
  · exact absurd h (Nat.ne_of_lt (V_lt h1))
  · exact h1
  · exact absurd h.symm (Nat.ne_of_lt (V_lt h1))
theorem right_fin {r : UInt64} {neg : Bool} {W D : Nat} (h : Right r neg W D) (hD : 0 < D) (hW : W < D * (2 ^ 53 * Qn)) : ∃ t, r = pack neg t ∧ t < infMag ∧ ∀ t', dist W (D * V t) ≤ dist W (D * V t') := by
  obtain ⟨t, e, le, ov, near⟩ := h
  have ht : t < infMag := by
    rcases Nat.lt_or_ge t infMag with h | h
    · exact h
    · have h1 := ov.mp (Nat.le_antisymm le h)
      have h2 : D * (2 * (2 ^ 53 * Qn)) ≤ 2 * W := Nat.le_trans (Nat.mul_le_mul_left D Qn_big) h1
      rw [Nat.mul_left_comm] at h2
      omega
  exact ⟨t, e, ht, fun t' => (near ht t').1⟩
theorem Qn_big' {k : Nat} (hk : k ≤ 60) : 2 * (2 ^ 53 * (2 ^ k * Qn)) ≤ (2 ^ 54 - 1) * 2 ^ 2045 := by
  have h1 : 2 ^ k ≤ 2 ^ 60 := Nat.pow_le_pow_right (by decide) hk
  have h2 : 2 * (2 ^ 53 * (2 ^ 60 * Qn)) ≤ (2 ^ 54 - 1) * 2 ^ 2045 := by unfold Qn; decide +kernel
  exact Nat.le_trans (Nat.mul_le_mul_left _ (Nat.mul_le_mul_left _ (Nat.mul_le_mul_right _ h1))) h2
theorem right_smallK {r : UInt64} {neg : Bool} {W D k : Nat} (hk : k ≤ 60) (h : Right r neg W D) (hD : 0 < D) (hW : W < D * (2 ^ 53 * (2 ^ k * Qn))) : ∃ t, r = pack neg t ∧ t < infMag ∧ dist W (D * V t) ≤ D * (2 ^ k * Qn) := by
  obtain ⟨t, e, le, ov, near⟩ := h
  have ht : t < infMag := by
    rcases Nat.lt_or_ge t infMag with h | h
    · exact h
    · have h1 := ov.mp (Nat.le_antisymm le h)
      have h2 : D * (2 * (2 ^ 53 * (2 ^ k * Qn))) ≤ 2 * W := Nat.le_trans (Nat.mul_le_mul_left D (Qn_big' hk)) h1
      rw [Nat.mul_left_comm] at h2
      omega
  have hp : 0 < D * (2 ^ k * Qn) := Nat.mul_pos hD (Nat.mul_pos (Nat.two_pow_pos _) Qn_pos)
  have hq : W / (D * (2 ^ k * Qn)) < 2 ^ 53 := Nat.div_lt_of_lt_mul (by rw [Nat.mul_assoc, Nat.mul_comm (2 ^ k * Qn)]; exact hW)
  obtain ⟨t', e'⟩ := V_rep (k + 1024) _ hq
  refine ⟨t, e, ht, Nat.le_trans (near ht t').1 ?_⟩
  have eQ : (2 : Nat) ^ (k + 1024) = 2 ^ k * Qn := by unfold Qn; rw [Nat.pow_add]
  rw [e', eQ, Nat.mul_left_comm]
  have h1 := Nat.mul_div_le W (D * (2 ^ k * Qn))
  have h2 := Nat.lt_mul_div_succ W hp
  rw [Nat.mul_comm (W / (D * (2 ^ k * Qn))), Nat.mul_add, Nat.mul_one] at *
  generalize D * (2 ^ k * Qn) * (W / (D * (2 ^ k * Qn))) = J at *
  generalize D * (2 ^ k * Qn) = K at *
  unfold dist
  omega
theorem right_small {r : UInt64} {neg : Bool} {W D : Nat} (h : Right r neg W D) (hD : 0 < D) (hW : W < D * (2 ^ 53 * Qn)) : ∃ t, r = pack neg t ∧ t < infMag ∧ dist W (D * V t) ≤ D * Qn := by
  have := right_smallK (k := 0) (by decide) h hD (by rw [Nat.pow_zero, Nat.one_mul]; exact hW)
  rw [Nat.pow_zero, Nat.one_mul] at this
  exact this
theorem right_exact {r : UInt64} {neg : Bool} {D t0 : Nat} (h : Right r neg (D * V t0) D) (hD : 0 < D) (hV : V t0 < 2 ^ 53 * Qn) : r = pack neg t0 := by
  obtain ⟨t, e, ht, near⟩ := right_fin h hD (Nat.mul_lt_mul_of_pos_left hV hD)
  have h1 := near t0
  have h2 : dist (D * V t0) (D * V t0) = 0 := by unfold dist; lia
  rw [h2] at h1
  have h3 : D * V t0 = D * V t := by unfold dist at h1; omega
  rw [e, V_inj (Nat.eq_of_mul_eq_mul_left hD h3)]
/-- x lies within e of a, in units of 2^-50 -/
noncomputable def Nr (x : UInt64) (a e : Int) : Prop := (∃ s m k, decode x = .fin s m k) ∧ (a - e) * (Qn : Int) ≤ val x ∧ val x ≤ (a + e) * (Qn : Int)
theorem Nr.fin {x : UInt64} {a e : Int} (h : Nr x a e) : isFinite x = true := by
  obtain ⟨⟨s, m, k, hd⟩, -⟩ := h
  unfold isFinite; rw [hd]
theorem pack_fin {neg : Bool} {t : Nat} (h : t < infMag) : ∃ s m k, decode (pack neg t) = .fin s m k := by
  obtain ⟨m, e, hd, -⟩ := decode_pack neg h
  exact ⟨_, _, _, hd⟩
theorem zero_fin (b : Bool) : (∃ s m k, decode (zero b) = .fin s m k) ∧ val (zero b) = 0 := by
  refine ⟨pack_fin (t := 0) (by decide), ?_⟩
  rw [show zero b = pack b 0 from rfl, val_pack b (by decide), V_zero]
  unfold sgn; cases b <;> rfl
/-- from a sum to its rounding -/
theorem near_of {r : UInt64} {S : Int} (h0 : S = 0 → ∃ b, r = zero b) (h1 : S ≠ 0 → Right r (decide (S < 0)) S.natAbs 1) (hS : S.natAbs < 2 ^ 53 * Qn) : (∃ s m k, decode r = .fin s m k) ∧ S - Qn ≤ val r ∧ val r ≤ S + Qn := by
  have hp := Qn_pos
  by_cases hz : S = 0
  · obtain ⟨b, e⟩ := h0 hz
    have := zero_fin b
    rw [e]
    exact ⟨this.1, by rw [this.2]; omega, by rw [this.2]; omega⟩
  · obtain ⟨t, e, ht, hd⟩ := right_small (h1 hz) (by decide) (by rw [Nat.one_mul]; exact hS)
    have hv := val_pack (decide (S < 0)) ht
    rw [e]
    refine ⟨pack_fin ht, ?_⟩
    rw [hv]
    unfold dist at hd
    unfold sgn
    by_cases hn : S < 0
    · simp only [hn, decide_true, if_true]; omega
    · simp only [hn, decide_false, Bool.false_eq_true, if_false]; omega
theorem natAbs_lt {S : Int} {a e : Int} {B : Nat} (h1 : (a - e) * (Qn : Int) ≤ S) (h2 : S ≤ (a + e) * (Qn : Int)) (hB : a + e < (B : Int) ∧ e - a < (B : Int)) : S.natAbs < B * Qn := by
  have hp : (0 : Int) < (Qn : Int) := Int.ofNat_lt.mpr Qn_pos
  have h3 : (a + e) * (Qn : Int) < (B : Int) * (Qn : Int) := Int.mul_lt_mul_of_pos_right hB.1 hp
  have h4 : (e - a) * (Qn : Int) < (B : Int) * (Qn : Int) := Int.mul_lt_mul_of_pos_right hB.2 hp
  have h5 : (e - a) * (Qn : Int) = -((a - e) * (Qn : Int)) := by grind
  have h6 : ((B * Qn : Nat) : Int) = (B : Int) * (Qn : Int) := by simp
  omega
theorem Nr.add {x y : UInt64} {a b e f : Int} (hx : Nr x a e) (hy : Nr y b f) (hB : a + b + (e + f) < 2 ^ 53 ∧ (e + f) - (a + b) < 2 ^ 53) : Nr (Float64.add x y) (a + b) (e + f + 1) := by
  obtain ⟨⟨s1, m1, k1, d1⟩, l1, u1⟩ := hx
  obtain ⟨⟨s2, m2, k2, d2⟩, l2, u2⟩ := hy
  have hr := add_right d1 d2
  have g1 : ((a + b) - (e + f)) * (Qn : Int) ≤ val x + val y := by
    have : ((a + b) - (e + f)) * (Qn : Int) = (a - e) * (Qn : Int) + (b - f) * (Qn : Int) := by grind
    omega
  have g2 : val x + val y ≤ ((a + b) + (e + f)) * (Qn : Int) := by
    have : ((a + b) + (e + f)) * (Qn : Int) = (a + e) * (Qn : Int) + (b + f) * (Qn : Int) := by grind
    omega
  obtain ⟨hf, h1, h2⟩ := near_of (fun h => ⟨_, hr.1 h⟩) hr.2 (natAbs_lt g1 g2 (B := 2 ^ 53) hB)
  refine ⟨hf, ?_, ?_⟩
  · have : ((a + b) - (e + f + 1)) * (Qn : Int) = ((a + b) - (e + f)) * (Qn : Int) - Qn := by grind
    omega
  · have : ((a + b) + (e + f + 1)) * (Qn : Int) = ((a + b) + (e + f)) * (Qn : Int) + Qn := by grind
    omega
theorem Nr.sub {x y : UInt64} {a b e f : Int} (hx : Nr x a e) (hy : Nr y b f) (hB : a - b + (e + f) < 2 ^ 53 ∧ (e + f) - (a - b) < 2 ^ 53) : Nr (Float64.sub x y) (a - b) (e + f + 1) := by
  obtain ⟨⟨s1, m1, k1, d1⟩, l1, u1⟩ := hx
  obtain ⟨⟨s2, m2, k2, d2⟩, l2, u2⟩ := hy
  have hr := sub_right d1 d2
  have g1 : ((a - b) - (e + f)) * (Qn : Int) ≤ val x - val y := by
    have : ((a - b) - (e + f)) * (Qn : Int) = (a - e) * (Qn : Int) - (b + f) * (Qn : Int) := by grind
    omega
  have g2 : val x - val y ≤ ((a - b) + (e + f)) * (Qn : Int) := by
    have : ((a - b) + (e + f)) * (Qn : Int) = (a + e) * (Qn : Int) - (b - f) * (Qn : Int) := by grind
    omega
  obtain ⟨hf, h1, h2⟩ := near_of (fun h => ⟨_, hr.1 h⟩) hr.2 (natAbs_lt g1 g2 (B := 2 ^ 53) hB)
  refine ⟨hf, ?_, ?_⟩
  · have : ((a - b) - (e + f + 1)) * (Qn : Int) = ((a - b) - (e + f)) * (Qn : Int) - Qn := by grind
    omega
  · have : ((a - b) + (e + f + 1)) * (Qn : Int) = ((a - b) + (e + f)) * (Qn : Int) + Qn := by grind
    omega
end PPF1
section PPF2
open PySem.Float64
theorem mul_bound {X Y A B E F : Int} (hA : 0 ≤ A) (hB : 0 ≤ B) (h1 : A - E ≤ X) (h2 : X ≤ A + E) (h3 : B - F ≤ Y) (h4 : Y ≤ B + F) : A * B - (A * F + B * E + E * F) ≤ X * Y ∧ X * Y ≤ A * B + (A * F + B * E + E * F) := by
  have q1 : 0 ≤ (E - (X - A)) * (F + (Y - B)) := Int.mul_nonneg (by omega) (by omega)
  have q2 : 0 ≤ (E + (X - A)) * (F - (Y - B)) := Int.mul_nonneg (by omega) (by omega)
  have q3 : 0 ≤ (E - (X - A)) * (F - (Y - B)) := Int.mul_nonneg (by omega) (by omega)
  have q4 : 0 ≤ (E + (X - A)) * (F + (Y - B)) := Int.mul_nonneg (by omega) (by omega)
  have r1 : 0 ≤ A * (F - (Y - B)) := Int.mul_nonneg hA (by omega)
  have r2 : 0 ≤ A * (F + (Y - B)) := Int.mul_nonneg hA (by omega)
  have r3 : 0 ≤ B * (E - (X - A)) := Int.mul_nonneg hB (by omega)
  have r4 : 0 ≤ B * (E + (X - A)) := Int.mul_nonneg hB (by omega)
  constructor <;> grind
theorem sgn_xor {x y : UInt64} {a b : Bool} {m k : Nat} {e f : Int} (hx : decode x = .fin a m e) (hy : decode y = .fin b k f) (v : Nat) (W D : Nat) (hW : (val x).natAbs * (val y).natAbs = W) :
    (sgn (a != b) v) * (D : Int) - val x * val y = sgn (a != b) 1 * ((v : Int) * D - W) := by
  have h1 := val_eq hx
  have h2 := val_eq hy
  subst hW
  rw [h1, h2, sgn_natAbs, sgn_natAbs]
  generalize m * 2 ^ (e + 1074).toNat = M
  generalize k * 2 ^ (f + 1074).toNat = K
  unfold sgn
  cases a <;> cases b <;> simp <;> grind
theorem Nr.mulK (k : Nat) {x y : UInt64} {a b e f c g : Int} (hk : k ≤ 60) (hx : Nr x a e) (hy : Nr y b f) (h0 : 0 ≤ a ∧ 0 ≤ b ∧ 0 ≤ e ∧ 0 ≤ f) (hM : (a + e + 1) * (b + f + 1) ≤ 2 ^ 103 * 2 ^ k)
    (hc : a * b + (a * f + b * e + e * f) + 2 ^ 50 * 2 ^ k ≤ (c + g) * 2 ^ 50) (hc2 : (c - g) * 2 ^ 50 ≤ a * b - (a * f + b * e + e * f) - 2 ^ 50 * 2 ^ k) : Nr (Float64.mul x y) c g := by
  obtain ⟨ha, hb, he, hf⟩ := h0
  obtain ⟨⟨s1, m1, k1, d1⟩, l1, u1⟩ := hx
  obtain ⟨⟨s2, m2, k2, d2⟩, l2, u2⟩ := hy
  have hr := mul_right d1 d2
  have hp : (0 : Int) < (Qn : Int) := Int.ofNat_lt.mpr Qn_pos
  have b1 := natAbs_lt l1 u1 (B := (a + e + 1).toNat) (by omega)
  have b2 := natAbs_lt l2 u2 (B := (b + f + 1).toNat) (by omega)
  have hM' : (a + e + 1).toNat * (b + f + 1).toNat ≤ 2 ^ 103 * 2 ^ k := by
    have h1 : (((a + e + 1).toNat * (b + f + 1).toNat : Nat) : Int) = (a + e + 1) * (b + f + 1) := by
      rw [Int.natCast_mul, Int.toNat_of_nonneg (by lia), Int.toNat_of_nonneg (by lia)]
    have h2 : ((2 ^ 103 * 2 ^ k : Nat) : Int) = 2 ^ 103 * 2 ^ k := by simp
    rw [← h1, ← h2] at hM
    exact Int.ofNat_le.mp hM
  have hlt : (val x).natAbs * (val y).natAbs < 2 ^ 1074 * (2 ^ 53 * (2 ^ k * Qn)) := by
    rw [one_Q]
    calc (val x).natAbs * (val y).natAbs < ((a + e + 1).toNat * Qn) * ((b + f + 1).toNat * Qn) := Nat.mul_lt_mul'' b1 b2
      _ = ((a + e + 1).toNat * (b + f + 1).toNat) * (Qn * Qn) := by ac_rfl
      _ ≤ 2 ^ 103 * 2 ^ k * (Qn * Qn) := Nat.mul_le_mul_right _ hM'
      _ = 2 ^ 50 * Qn * (2 ^ 53 * (2 ^ k * Qn)) := by rw [show (2 : Nat) ^ 103 = 2 ^ 50 * 2 ^ 53 from rfl]; ac_rfl
  obtain ⟨t, e9, ht, hd⟩ := right_smallK hk hr (Nat.two_pow_pos _) hlt
  have hv := val_pack (s1 != s2) ht
  rw [e9]
  refine ⟨pack_fin ht, ?_⟩
  rw [hv]
  have hX := sgn_xor d1 d2 (V t) _ (2 ^ 1074) rfl
  have hb := mul_bound (A := a * Qn) (B := b * Qn) (E := e * Qn) (F := f * Qn) (Int.mul_nonneg ha (by omega)) (Int.mul_nonneg hb (by omega)) (by grind) (by grind : val x ≤ _) (by grind) (by grind : val y ≤ _)
  generalize sgn (s1 != s2) (V t) = R at *
  have hd' : -((2 ^ 50 * Qn : Nat) : Int) * ((2 ^ k * Qn : Nat) : Int) ≤ R * ((2 ^ 1074 : Nat) : Int) - val x * val y ∧ R * ((2 ^ 1074 : Nat) : Int) - val x * val y ≤ ((2 ^ 50 * Qn : Nat) : Int) * ((2 ^ k * Qn : Nat) : Int) := by
    rw [hX]
    have e1 : ((V t : Nat) : Int) * ((2 ^ 1074 : Nat) : Int) = ((2 ^ 1074 * V t : Nat) : Int) := by rw [Int.natCast_mul, Int.mul_comm]
    rw [e1]
    have e2 : ((2 ^ 50 * Qn : Nat) : Int) * ((2 ^ k * Qn : Nat) : Int) = ((2 ^ 1074 * (2 ^ k * Qn) : Nat) : Int) := by rw [one_Q, Int.natCast_mul (2 ^ 50 * Qn) (2 ^ k * Qn)]
    rw [Int.neg_mul, e2]
    generalize 2 ^ 1074 * V t = J at *
    generalize 2 ^ 1074 * (2 ^ k * Qn) = K at *
    generalize (val x).natAbs * (val y).natAbs = W at *
    unfold dist at hd
    unfold sgn
    cases (s1 != s2) <;> simp <;> grind
  rw [one_Q] at hd'
  have e3 : ((2 ^ 50 * Qn : Nat) : Int) = 2 ^ 50 * (Qn : Int) := by simp
  have e4 : ((2 ^ k * Qn : Nat) : Int) = 2 ^ k * (Qn : Int) := by simp
  rw [e3, e4] at hd'
  generalize (2 : Int) ^ k = kk at *
  generalize val x * val y = Z at *
  generalize (Qn : Int) = q at *
  -- R * (P q) within of a b q^2
  have k1 : (R * 2 ^ 50) * q ≤ ((c + g) * 2 ^ 50 * q) * q := by
    have := Int.mul_le_mul_of_nonneg_right hc (Int.mul_nonneg (Int.le_of_lt hp) (Int.le_of_lt hp))
    grind
  have k2 : ((c - g) * 2 ^ 50 * q) * q ≤ (R * 2 ^ 50) * q := by
    have := Int.mul_le_mul_of_nonneg_right hc2 (Int.mul_nonneg (Int.le_of_lt hp) (Int.le_of_lt hp))
    grind
  have k3 := Int.le_of_mul_le_mul_right k1 hp
  have k4 := Int.le_of_mul_le_mul_right k2 hp
  constructor <;> grind
theorem Nr.mul {x y : UInt64} {a b e f c g : Int} (hx : Nr x a e) (hy : Nr y b f) (h0 : 0 ≤ a ∧ 0 ≤ b ∧ 0 ≤ e ∧ 0 ≤ f) (hM : (a + e + 1) * (b + f + 1) ≤ 2 ^ 103)
    (hc : a * b + (a * f + b * e + e * f) + 2 ^ 50 ≤ (c + g) * 2 ^ 50) (hc2 : (c - g) * 2 ^ 50 ≤ a * b - (a * f + b * e + e * f) - 2 ^ 50) : Nr (Float64.mul x y) c g :=
  Nr.mulK 0 (by decide) hx hy h0 (by omega) (by omega) (by omega)
end PPF2
section PPF3
open PySem.Float64
@[irreducible] noncomputable def Kn : Nat := 2 ^ 1067
theorem one_K : (2 : Nat) ^ 1074 = 128 * Kn := by unfold Kn; rw [show 1074 = 7 + 1067 from rfl, Nat.pow_add]
theorem K_Q : Kn = 2 ^ 43 * Qn := by unfold Kn Qn; rw [← Nat.pow_add]
theorem Kn_pos : 0 < Kn := by unfold Kn; exact Nat.two_pow_pos _
/-- the float n / 128 -/
noncomputable def Fl (n : Nat) : UInt64 := ofFrac false n 128
theorem Fl_right (n : Nat) : Right (Fl n) false (n * Kn) 1 := ofFrac_right (by decide) (by rw [one_K]; ac_rfl) (by decide)
theorem Fl_small {n : Nat} (h : n < 2 ^ 53) : n * Kn < 2 ^ 53 * (2 ^ 43 * Qn) := by
  rw [← K_Q]; exact Nat.mul_lt_mul_of_pos_right h Kn_pos
theorem V_small {n t0 : Nat} (h : n < 1024) (e : V t0 = n * Kn) : V t0 < 2 ^ 53 * Qn := by
  rw [e, K_Q, ← Nat.mul_assoc]
  exact Nat.mul_lt_mul_of_pos_right (by omega) Qn_pos
theorem Fl_at {n : Nat} (h : n < 1024) : ∃ t0, V t0 = n * Kn ∧ Fl n = pack false t0 ∧ t0 < infMag := by
  obtain ⟨t0, e⟩ := V_rep 1067 n (by omega)
  have eK : (2 : Nat) ^ 1067 = Kn := by unfold Kn; rfl
  rw [eK] at e
  have hV := V_small h e
  have hr := Fl_right n
  obtain ⟨t, e1, ht, -⟩ := right_fin hr (by decide) (by rw [Nat.one_mul, ← e]; exact hV)
  have hr2 : Right (Fl n) false (1 * V t0) 1 := by rw [Nat.one_mul, e]; exact hr
  have e2 := right_exact hr2 (by decide) hV
  refine ⟨t0, e, e2, ?_⟩
  rcases Nat.lt_or_ge t0 infMag with h1 | h1
  · exact h1
  · exfalso
    have := V_mono h1
    have e9 : V infMag = 2 ^ 2098 := by
      have := V_at (k := 2046) (q := 2 ^ 52) (by lia) (.inl (Nat.le_refl _))
      rw [← Nat.pow_add] at this
      exact this
    rw [e9] at this
    have hh : (2 : Nat) ^ 53 * Qn ≤ 2 ^ 2098 := by unfold Qn; decide +kernel
    grind
theorem Fl_of {r : UInt64} {n D : Nat} (h : n < 1024) (hD : 0 < D) (hr : Right r false (D * (n * Kn)) D) : r = Fl n := by
  obtain ⟨t0, e, e2, -⟩ := Fl_at h
  rw [← e] at hr
  rw [right_exact hr hD (V_small h e), e2]
theorem Fl_dec {n : Nat} (h : n < 1024) : (∃ m k, decode (Fl n) = .fin false m k ∧ (m = 0 ↔ n = 0)) ∧ val (Fl n) = ((n * Kn : Nat) : Int) := by
  obtain ⟨t0, e, e2, ht⟩ := Fl_at h
  rw [e2]
  obtain ⟨m, k, hd, hm⟩ := decode_pack false ht
  refine ⟨⟨m, k, hd, ?_⟩, ?_⟩
  · rw [e] at hm
    have h2 := Nat.two_pow_pos (k + 1074).toNat
    constructor
    · intro h0
      rw [h0, Nat.zero_mul] at hm
      rcases Nat.mul_eq_zero.mp hm.symm with h1 | h1
      · exact h1
      · exact absurd h1 (Nat.ne_of_gt Kn_pos)
    · intro h0
      rw [h0, Nat.zero_mul] at hm
      rcases Nat.mul_eq_zero.mp hm with h1 | h1
      · exact h1
      · lia
  · rw [val_pack false ht, e]; rfl
theorem Fl_zero : Fl 0 = zero false := by decide +kernel
theorem q64_Fl {a : Nat} (h : a < 512) : q64 (a : Int) = Fl (2 * a) := by
  have hs : (decide ((a : Int) < 0) != decide ((64 : Int) < 0)) = false := by simp
  unfold q64
  rw [hs]
  have hr : Right (ofFrac false (a : Int).natAbs (64 : Int).natAbs) false (1 * (2 * a * Kn)) 1 := ofFrac_right (by decide) (by rw [one_K, Int.natAbs_natCast, show (64 : Int).natAbs = 64 from rfl]; grind) (by decide)
  exact Fl_of (by omega) (by decide) hr
theorem Fl_add {i j : Nat} (h : i + j < 1024) : Float64.add (Fl i) (Fl j) = Fl (i + j) := by
  obtain ⟨⟨m1, k1, d1, -⟩, v1⟩ := Fl_dec (n := i) (by omega)
  obtain ⟨⟨m2, k2, d2, -⟩, v2⟩ := Fl_dec (n := j) (by omega)
  have hr := add_right d1 d2
  have hv : val (Fl i) + val (Fl j) = (((i + j) * Kn : Nat) : Int) := by rw [v1, v2, Nat.add_mul]; rfl
  rw [hv] at hr
  have hp := Kn_pos
  by_cases hz : i + j = 0
  · rw [hr.1 (by rw [hz, Nat.zero_mul]; rfl), hz, Fl_zero]; rfl
  · have hn : (((i + j) * Kn : Nat) : Int) ≠ 0 := by
      intro h
      rcases Nat.mul_eq_zero.mp (Int.ofNat_eq_zero.mp h) with h1 | h1 <;> omega
    have := hr.2 hn
    have hs : decide ((((i + j) * Kn : Nat) : Int) < 0) = false := decide_eq_false (Int.not_lt.mpr (Int.natCast_nonneg _))
    rw [hs, Int.natAbs_natCast] at this
    exact Fl_of h (by decide) (D := 1) (by rw [Nat.one_mul]; exact this)
theorem Fl_sub {i j : Nat} (h : i < 1024) (hj : j ≤ i) : Float64.sub (Fl i) (Fl j) = Fl (i - j) := by
  obtain ⟨⟨m1, k1, d1, -⟩, v1⟩ := Fl_dec (n := i) (by omega)
  obtain ⟨⟨m2, k2, d2, -⟩, v2⟩ := Fl_dec (n := j) (by omega)
  have hr := sub_right d1 d2
  have hle : j * Kn ≤ i * Kn := Nat.mul_le_mul_right _ hj
  have hv : val (Fl i) - val (Fl j) = (((i - j) * Kn : Nat) : Int) := by rw [v1, v2, Nat.sub_mul]; omega
  rw [hv] at hr
  have hp := Kn_pos
  by_cases hz : i - j = 0
  · rw [hr.1 (by rw [hz, Nat.zero_mul]; rfl), hz, Fl_zero]; rfl
  · have hn : (((i - j) * Kn : Nat) : Int) ≠ 0 := by
      intro h
      rcases Nat.mul_eq_zero.mp (Int.ofNat_eq_zero.mp h) with h1 | h1 <;> lia
    have := hr.2 hn
    have hs : decide ((((i - j) * Kn : Nat) : Int) < 0) = false := decide_eq_false (Int.not_lt.mpr (Int.natCast_nonneg _))
    rw [hs, Int.natAbs_natCast] at this
    exact Fl_of (by omega) (by decide) (D := 1) (by rw [Nat.one_mul]; exact this)
theorem Fl_half {i : Nat} (h : 2 * i < 1024) : Float64.div (Fl (2 * i)) f2 = Fl i := by
  have e2 : f2 = Fl 256 := by decide +kernel
  rw [e2]
  obtain ⟨⟨m1, k1, d1, -⟩, v1⟩ := Fl_dec (n := 2 * i) (by omega)
  obtain ⟨⟨m2, k2, d2, z2⟩, v2⟩ := Fl_dec (n := 256) (by omega)
  have hr := div_right d1 d2 (fun h => by have := z2.mp h; omega)
  rw [v1, v2, Int.natAbs_natCast, Int.natAbs_natCast] at hr
  refine Fl_of (by omega) (Nat.mul_pos (by decide : 0 < 256) Kn_pos) (D := 256 * Kn) ?_
  have : 256 * Kn * (i * Kn) = 2 * i * Kn * 2 ^ 1074 := by rw [one_K]; grind
  rw [this]; exact hr
theorem Fl_cmp {i j : Nat} (hi : i < 1024) (hj : j < 1024) : cmp (Fl i) (Fl j) = some (compare i j) := by
  obtain ⟨⟨m1, k1, d1, -⟩, v1⟩ := Fl_dec (n := i) (by omega)
  obtain ⟨⟨m2, k2, d2, -⟩, v2⟩ := Fl_dec (n := j) (by omega)
  rw [cmp_right d1 d2, v1, v2]
  congr 1
  have hp := Kn_pos
  rcases Nat.lt_trichotomy i j with h | h | h
  · rw [Nat.compare_eq_lt.mpr h, Int.compare_eq_lt.mpr (Int.ofNat_lt.mpr (Nat.mul_lt_mul_of_pos_right h hp))]
  · subst h; rw [Nat.compare_eq_eq.mpr rfl, Int.compare_eq_eq.mpr rfl]
  · rw [Nat.compare_eq_gt.mpr h, Int.compare_eq_gt.mpr (Int.ofNat_lt.mpr (Nat.mul_lt_mul_of_pos_right h hp))]
theorem Fl_isZero {i : Nat} (hi : i < 1024) : isZero (Fl i) = true ↔ i = 0 := by
  obtain ⟨⟨m1, k1, d1, z1⟩, v1⟩ := Fl_dec (n := i) (by omega)
  unfold isZero
  rw [d1]
  cases m1 with
  | zero => simp; exact z1.mp rfl
  | succ m => simp; intro h; have := z1.mpr h; omega
theorem Fl_nr {n : Nat} (h : n < 1024) : Nr (Fl n) ((n : Int) * 2 ^ 43) 0 := by
  obtain ⟨⟨m1, k1, d1, -⟩, v1⟩ := Fl_dec (n := n) h
  refine ⟨⟨_, _, _, d1⟩, ?_, ?_⟩ <;> rw [v1, K_Q] <;> simp <;> grind
theorem Fl_div {i j : Nat} {c : Int} (hi : i < 1024) (hj : j < 1024) (h0 : 0 < j) (hij : i ≤ j * 4) (hc : c * j ≤ i * 2 ^ 50 ∧ i * 2 ^ 50 < (c + 1) * j) : Nr (Float64.div (Fl i) (Fl j)) c 2 := by
  obtain ⟨⟨m1, k1, d1, -⟩, v1⟩ := Fl_dec (n := i) (by omega)
  obtain ⟨⟨m2, k2, d2, z2⟩, v2⟩ := Fl_dec (n := j) (by omega)
  have hr := div_right d1 d2 (fun h => by have := z2.mp h; lia)
  rw [v1, v2, Int.natAbs_natCast, Int.natAbs_natCast] at hr
  have hK := Kn_pos
  have hQ := Qn_pos
  have hW : i * Kn * 2 ^ 1074 = Kn * (i * (2 ^ 50 * Qn)) := by rw [one_Q]; ac_rfl
  rw [hW] at hr
  obtain ⟨t, e9, ht, hd⟩ := right_small hr (Nat.mul_pos h0 hK) (by
    rw [Nat.mul_comm j, Nat.mul_assoc]
    refine Nat.mul_lt_mul_of_pos_left ?_ hK
    calc i * (2 ^ 50 * Qn) ≤ j * 4 * (2 ^ 50 * Qn) := Nat.mul_le_mul_right _ hij
      _ = j * (2 ^ 52 * Qn) := by grind
      _ < j * (2 ^ 53 * Qn) := Nat.mul_lt_mul_of_pos_left (Nat.mul_lt_mul_of_pos_right (by omega) hQ) h0)
  have hv := val_pack (false != false) ht
  rw [e9]
  refine ⟨pack_fin ht, ?_⟩
  rw [hv]
  have hd2 : dist (i * (2 ^ 50 * Qn)) (j * V t) ≤ j * Qn := by
    refine Nat.le_of_mul_le_mul_left (c := Kn) ?_ hK
    rw [← dist_mul]
    calc dist (Kn * (i * (2 ^ 50 * Qn))) (Kn * (j * V t)) = dist (Kn * (i * (2 ^ 50 * Qn))) (j * Kn * V t) := by congr 1; ac_rfl
      _ ≤ j * Kn * Qn := hd
      _ = Kn * (j * Qn) := by ac_rfl
  show (c - 2) * (Qn : Int) ≤ ((V t : Nat) : Int) ∧ ((V t : Nat) : Int) ≤ (c + 2) * (Qn : Int)
  have hd3 : -((j : Int) * Qn) ≤ (j : Int) * (V t) - (i : Int) * (2 ^ 50 * Qn) ∧ (j : Int) * (V t) - (i : Int) * (2 ^ 50 * Qn) ≤ (j : Int) * Qn := by
    have a1 : ((i * (2 ^ 50 * Qn) : Nat) : Int) = (i : Int) * (2 ^ 50 * Qn) := by simp
    have a2 : ((j * V t : Nat) : Int) = (j : Int) * (V t) := by simp
    have a3 : ((j * Qn : Nat) : Int) = (j : Int) * Qn := by simp
    rw [← a1, ← a2, ← a3]
    generalize i * (2 ^ 50 * Qn) = A at *
    generalize j * V t = B at *
    generalize j * Qn = C at *
    unfold dist at hd2
    omega
  have hq : (0 : Int) < (Qn : Int) := Int.ofNat_lt.mpr hQ
  have hjp : (0 : Int) < (j : Int) := Int.ofNat_lt.mpr h0
  generalize ((V t : Nat) : Int) = v at *
  generalize (Qn : Int) = q at *
  generalize (j : Int) = jj at *
  generalize (i : Int) = ii at *
  have k1 := Int.mul_le_mul_of_nonneg_right hc.1 (Int.le_of_lt hq)
  have k2 := Int.mul_le_mul_of_nonneg_right (Int.le_of_lt hc.2) (Int.le_of_lt hq)
  constructor
  · refine Int.le_of_mul_le_mul_left (a := jj) ?_ hjp
    have := Int.mul_pos hjp hq
    grind
  · refine Int.le_of_mul_le_mul_left (a := jj) ?_ hjp
    grind
end PPF3
section PPF4
open PySem.Float64
theorem Nr.mono {x : UInt64} {a e e' : Int} (h : Nr x a e) (he : e ≤ e') : Nr x a e' := by
  obtain ⟨d, h1, h2⟩ := h
  have hp : (0 : Int) ≤ (Qn : Int) := Int.natCast_nonneg _
  exact ⟨d, Int.le_trans (Int.mul_le_mul_of_nonneg_right (by lia) hp) h1, Int.le_trans h2 (Int.mul_le_mul_of_nonneg_right (by lia) hp)⟩
noncomputable def nrB (x : UInt64) (a e : Int) : Bool := isFinite x && (decide ((a - e) * 2 ^ 1024 ≤ val x) && decide (val x ≤ (a + e) * 2 ^ 1024))
theorem Nr.ofB {x : UInt64} {a e : Int} (h : nrB x a e = true) : Nr x a e := by
  unfold nrB at h
  simp only [Bool.and_eq_true, decide_eq_true_eq] at h
  have eQ : (Qn : Int) = 2 ^ 1024 := by unfold Qn; rw [Int.natCast_pow]; rfl
  refine ⟨?_, by rw [eQ]; exact h.2.1, by rw [eQ]; exact h.2.2⟩
  have h1 := h.1
  unfold isFinite at h1
  split at h1
  · rename_i s m k hd; exact ⟨_, _, _, hd⟩
  · cases h1
theorem floor_val {m : Nat} {e : Int} (he : -1074 ≤ e) : floorOf false m e = ((m * 2 ^ (e + 1074).toNat / 2 ^ 1074 : Nat) : Int) := by
  unfold floorOf sgn
  simp only [Bool.false_eq_true, if_false]
  split
  · rename_i h
    have e1 : (e + 1074).toNat = e.toNat + 1074 := by lia
    rw [e1, Nat.pow_add, ← Nat.mul_assoc, Nat.mul_div_cancel _ (Nat.two_pow_pos _)]
    simp
  · rename_i h
    have e1 : 1074 = (e + 1074).toNat + (-e).toNat := by omega
    have e2 : m * 2 ^ (e + 1074).toNat / 2 ^ 1074 = m / 2 ^ (-e).toNat := by
      calc m * 2 ^ (e + 1074).toNat / 2 ^ 1074 = (2 ^ (e + 1074).toNat * m) / (2 ^ (e + 1074).toNat * 2 ^ (-e).toNat) := by rw [← Nat.pow_add, ← e1, Nat.mul_comm]
        _ = m / 2 ^ (-e).toNat := Nat.mul_div_mul_left _ _ (Nat.two_pow_pos _)
    rw [e2, Int.fdiv_eq_ediv_of_nonneg _ (by exact Int.le_of_lt (Int.pow_pos (by decide)))]
    simp
theorem trunc_val {y : UInt64} {s : Bool} {m : Nat} {e : Int} (h : decode y = .fin s m e) : Flt.toInt truncOf y = sgn s ((val y).natAbs / 2 ^ 1074) := by
  unfold Flt.toInt
  rw [h]
  simp only
  have hv := floor_val (m := m) (decode_ge h)
  rw [val_natAbs h]
  unfold truncOf ceilOf sgn
  cases s
  · simp only [Bool.false_eq_true, if_false]; exact hv
  · simp only [if_true, Bool.not_true]; rw [hv]
theorem sgn_of {y : UInt64} {s : Bool} {m : Nat} {e : Int} (h : decode y = .fin s m e) : (val y ≤ 0 ∨ s = false) ∧ (0 ≤ val y ∨ s = true) := by
  rw [val_eq h]
  generalize m * 2 ^ (e + 1074).toNat = M
  unfold sgn
  cases s
  · exact ⟨.inr rfl, .inl (by simp only [Bool.false_eq_true, if_false]; omega)⟩
  · exact ⟨.inl (by simp only [if_true]; omega), .inr rfl⟩
theorem trunc_core {O c : Nat} {v : Int} {s : Bool} (hO : 0 < O) (hs : (v ≤ 0 ∨ s = false) ∧ (0 ≤ v ∨ s = true)) (l2 : (2 * c : Int) * (O : Int) - O < v) (u2 : v < (2 * c : Int) * (O : Int) + O) : sgn s (v.natAbs / O) = 2 * c ∨ (c ≠ 0 ∧ sgn s (v.natAbs / O) = 2 * c - 1) := by
  by_cases hv : (2 * c : Int) * (O : Int) ≤ v
  · left
    have hv0 : 0 ≤ v := Int.le_trans (Int.mul_nonneg (by lia) (by omega)) hv
    have hdiv : v.natAbs / O = 2 * c := by
      refine Nat.div_eq_of_lt_le ?_ ?_
      · have : ((2 * c * O : Nat) : Int) = (2 * c : Int) * (O : Int) := by simp
        omega
      · have : (((2 * c + 1) * O : Nat) : Int) = (2 * c : Int) * (O : Int) + O := by
          rw [Nat.add_mul, Nat.one_mul]; simp
        omega
    rw [hdiv]
    unfold sgn
    split
    · rename_i hst
      have h0 : v = 0 := by
        rcases hs.1 with h | h
        · omega
        · rw [h] at hst; cases hst
      have : c = 0 := by
        rcases Nat.eq_zero_or_pos c with h | h
        · exact h
        · have := Int.mul_pos (by omega : (0 : Int) < (2 * c : Int)) (by omega : (0 : Int) < (O : Int))
          omega
      subst this; simp
    · simp
  · by_cases hc : c = 0
    · left
      subst hc
      have hdiv : v.natAbs / O = 0 := Nat.div_eq_of_lt (by simp at hv l2 u2; omega)
      rw [hdiv]
      unfold sgn; split <;> simp
    · right
      refine ⟨hc, ?_⟩
      have hv0 : 0 < v := by
        have := Int.mul_le_mul_of_nonneg_right (by lia : (1 : Int) ≤ (2 * c : Int)) (by omega : (0 : Int) ≤ (O : Int))
        omega
      have hdiv : v.natAbs / O = 2 * c - 1 := by
        refine Nat.div_eq_of_lt_le ?_ ?_
        · have h2 : (((2 * c - 1) * O : Nat) : Int) = (2 * c : Int) * (O : Int) - O := by
            have : ((2 * c - 1 : Nat) : Int) = 2 * c - 1 := by omega
            rw [Int.natCast_mul, this, Int.sub_mul, Int.one_mul]
          omega
        · have h2 : (((2 * c - 1 + 1) * O : Nat) : Int) = (2 * c : Int) * (O : Int) := by
            have : ((2 * c - 1 + 1 : Nat) : Int) = 2 * c := by omega
            rw [Int.natCast_mul, this]
          omega
      rw [hdiv]
      unfold sgn
      split
      · rename_i hst
        rcases hs.1 with h | h
        · omega
        · rw [h] at hst; cases hst
      · omega
theorem trunc_at {y : UInt64} {c : Nat} {g : Int} (h : Nr y (c * 2 ^ 51) g) (hg : 0 ≤ g ∧ g < 2 ^ 50) : Flt.toInt truncOf y = 2 * c ∨ (c ≠ 0 ∧ Flt.toInt truncOf y = 2 * c - 1) := by
  obtain ⟨⟨s, m, k, hd⟩, l, u⟩ := h
  have hq := Qn_pos
  have hs := sgn_of hd
  rw [trunc_val hd, one_Q]
  have hp : (0 : Int) < (Qn : Int) := Int.ofNat_lt.mpr hq
  have e1 : ((2 ^ 50 * Qn : Nat) : Int) = 2 ^ 50 * (Qn : Int) := by simp
  have hm := Int.mul_lt_mul_of_pos_right hg.2 hp
  have e2 : ((c : Int) * 2 ^ 51 - g) * (Qn : Int) = (2 * c : Int) * (2 ^ 50 * (Qn : Int)) - g * (Qn : Int) := by grind
  have e3 : ((c : Int) * 2 ^ 51 + g) * (Qn : Int) = (2 * c : Int) * (2 ^ 50 * (Qn : Int)) + g * (Qn : Int) := by grind
  rw [e2] at l
  rw [e3] at u
  rw [← e1] at l u hm
  exact trunc_core (Nat.mul_pos (by decide) hq) hs (by omega) (by omega)
theorem f128_nr : Nr f128 (2 ^ 57) 0 := Nr.ofB (by decide +kernel)
theorem rnd_of {x : UInt64} {c : Nat} {a : Int} (h : Nr x a (2 ^ 30)) (ha : a = c * 2 ^ 44) (hc : c < 128) : rndB x c = true := by
  subst ha
  have hm : Nr (mul x f128) ((c : Int) * 2 ^ 51) (2 ^ 38) := Nr.mulK 10 (by decide) h f128_nr (by lia) (by lia) (by lia) (by lia)
  have ht := trunc_at hm (by omega)
  unfold rndB
  rw [hm.fin]
  have hb : 0 ≤ Flt.toInt truncOf (mul x f128) ∧ Flt.toInt truncOf (mul x f128) ≤ 1000 ∧ (Flt.toInt truncOf (mul x f128) + 1).fdiv 2 = (c : Int) := by
    generalize Flt.toInt truncOf (mul x f128) = k at *
    rw [Int.fdiv_eq_ediv_of_nonneg _ (by decide)]
    omega
  simp only [Bool.true_and, Bool.and_eq_true, decide_eq_true_eq]
  exact hb
end PPF4
section PPF5
open PySem.Float64
theorem f0_Fl : (0 : UInt64) = Fl 0 := by decide +kernel
theorem f1_Fl : f1 = Fl 128 := by decide +kernel
theorem f2_Fl : f2 = Fl 256 := by decide +kernel
theorem fh_Fl : fhalf = Fl 64 := by decide +kernel
theorem cmp_gt_Fl {i j : Nat} (hi : i < 1024) (hj : j < 1024) : (cmp (Fl i) (Fl j) == some .gt) = decide (j < i) := by
  rw [Fl_cmp hi hj]
  rcases Nat.lt_trichotomy i j with h | h | h
  · rw [Nat.compare_eq_lt.mpr h, decide_eq_false (by omega)]; rfl
  · rw [Nat.compare_eq_eq.mpr h, decide_eq_false (by omega)]; rfl
  · rw [Nat.compare_eq_gt.mpr h, decide_eq_true h]; rfl
theorem cmp_lt_Fl {i j : Nat} (hi : i < 1024) (hj : j < 1024) : (cmp (Fl i) (Fl j) == some .lt) = decide (i < j) := by
  rw [Fl_cmp hi hj]
  rcases Nat.lt_trichotomy i j with h | h | h
  · rw [Nat.compare_eq_lt.mpr h, decide_eq_true h]; rfl
  · rw [Nat.compare_eq_eq.mpr h, decide_eq_false (by omega)]; rfl
  · rw [Nat.compare_eq_gt.mpr h, decide_eq_false (by omega)]; rfl
theorem cmp_eq_Fl {i j : Nat} (hi : i < 1024) (hj : j < 1024) : (cmp (Fl i) (Fl j) == some .eq) = decide (i = j) := by
  rw [Fl_cmp hi hj]
  rcases Nat.lt_trichotomy i j with h | h | h
  · rw [Nat.compare_eq_lt.mpr h, decide_eq_false (by omega)]; rfl
  · rw [Nat.compare_eq_eq.mpr h, decide_eq_true h]; rfl
  · rw [Nat.compare_eq_gt.mpr h, decide_eq_false (by omega)]; rfl
theorem lt2 {a mx : Nat} (h : a ≤ mx) (hm : mx < 64) : 2 * a < 1024 := by omega
theorem le2 {a mx : Nat} (h : a ≤ mx) : 2 * a ≤ 2 * mx := Nat.mul_le_mul_left 2 h
theorem eq2 {d n a m : Nat} (h : a + d = m) (e : d = n) : 2 * a = 2 * (m - n) := by omega
theorem ge2 {d n a m : Nat} (h : a + d = m) (e : d ≤ n) : 2 * (m - n) ≤ 2 * a := by omega
theorem dif2 {a d m : Nat} (h : a + d = m) : 2 * m - 2 * a = 2 * d := by omega
theorem eqz2 {a d m : Nat} (h : a + d = m) : (2 * a = 2 * m) = (d = 0) := propext ⟨fun e => by omega, fun e => by omega⟩
theorem mx3_at {i j k M : Nat} (hM : M < 1024) (hi : i ≤ M) (hj : j ≤ M) (hk : k ≤ M) (h : i = M ∨ j = M ∨ k = M) : mx3 (Fl i) (Fl j) (Fl k) = Fl M := by
  unfold mx3 best3
  simp only [cmp_gt_Fl (Nat.lt_of_le_of_lt hj hM) (Nat.lt_of_le_of_lt hi hM), decide_eq_true_eq]
  by_cases h1 : i < j
  · simp only [h1, if_true, cmp_gt_Fl (Nat.lt_of_le_of_lt hk hM) (Nat.lt_of_le_of_lt hj hM), decide_eq_true_eq]
    split <;> (congr 1; omega)
  · simp only [h1, if_false, cmp_gt_Fl (Nat.lt_of_le_of_lt hk hM) (Nat.lt_of_le_of_lt hi hM), decide_eq_true_eq]
    split <;> (congr 1; omega)
theorem mn3_at {i j k M m : Nat} (hM : M < 1024) (hi : i ≤ M) (hj : j ≤ M) (hk : k ≤ M) (li : m ≤ i) (lj : m ≤ j) (lk : m ≤ k) (h : i = m ∨ j = m ∨ k = m) : mn3 (Fl i) (Fl j) (Fl k) = Fl m := by
  unfold mn3 best3
  simp only [cmp_lt_Fl (Nat.lt_of_le_of_lt hj hM) (Nat.lt_of_le_of_lt hi hM), decide_eq_true_eq]
  by_cases h1 : j < i
  · simp only [h1, if_true, cmp_lt_Fl (Nat.lt_of_le_of_lt hk hM) (Nat.lt_of_le_of_lt hj hM), decide_eq_true_eq]
    split <;> (congr 1; omega)
  · simp only [h1, if_false, cmp_lt_Fl (Nat.lt_of_le_of_lt hk hM) (Nat.lt_of_le_of_lt hi hM), decide_eq_true_eq]
    split <;> (congr 1; omega)
/-- the hue of a colour whose parts lie da, db, dc under the greatest, n the farthest -/
noncomputable def hueD (da db dc n : Nat) : UInt64 :=
  (divmod (div (if da = 0 then sub (div (Fl (2 * dc)) (Fl (2 * n))) (div (Fl (2 * db)) (Fl (2 * n))) else
    if db = 0 then sub (add f2 (div (Fl (2 * da)) (Fl (2 * n)))) (div (Fl (2 * dc)) (Fl (2 * n))) else
    sub (add f4 (div (Fl (2 * db)) (Fl (2 * n)))) (div (Fl (2 * da)) (Fl (2 * n)))) f6) f1).2
/-- a colour's shape: its parts lie da, db, dc under the greatest, n the farthest -/
structure Shp (a b c mx n da db dc : Nat) : Prop where
  ha : a + da = mx
  hb : b + db = mx
  hc : c + dc = mx
  hmx : mx < 64
  hn : 1 ≤ n
  h0 : da = 0 ∨ db = 0 ∨ dc = 0
  hm : da = n ∨ db = n ∨ dc = n
  la : da ≤ n
  lb : db ≤ n
  lc : dc ≤ n
section
variable {a b c mx n da db dc : Nat}
theorem Shp.nm (h : Shp a b c mx n da db dc) : n ≤ mx := by
  rcases h.hm with e | e | e
  · exact e ▸ Nat.le.intro ((Nat.add_comm _ _).trans h.ha)
  · exact e ▸ Nat.le.intro ((Nat.add_comm _ _).trans h.hb)
  · exact e ▸ Nat.le.intro ((Nat.add_comm _ _).trans h.hc)
theorem Shp.a2 (h : Shp a b c mx n da db dc) : 2 * a < 1024 := lt2 (Nat.le.intro h.ha) h.hmx
theorem Shp.b2 (h : Shp a b c mx n da db dc) : 2 * b < 1024 := lt2 (Nat.le.intro h.hb) h.hmx
theorem Shp.c2 (h : Shp a b c mx n da db dc) : 2 * c < 1024 := lt2 (Nat.le.intro h.hc) h.hmx
theorem Shp.m2 (h : Shp a b c mx n da db dc) : 2 * mx < 1024 := lt2 (Nat.le_refl _) h.hmx
theorem Shp.n2 (h : Shp a b c mx n da db dc) : 2 * n < 1024 := lt2 h.nm h.hmx
theorem Shp.mx3 (h : Shp a b c mx n da db dc) : mx3 (Fl (2 * a)) (Fl (2 * b)) (Fl (2 * c)) = Fl (2 * mx) :=
  mx3_at h.m2 (le2 (Nat.le.intro h.ha)) (le2 (Nat.le.intro h.hb)) (le2 (Nat.le.intro h.hc)) (h.h0.imp (eqz2 h.ha).mpr (Or.imp (eqz2 h.hb).mpr (eqz2 h.hc).mpr))
theorem Shp.mn3 (h : Shp a b c mx n da db dc) : mn3 (Fl (2 * a)) (Fl (2 * b)) (Fl (2 * c)) = Fl (2 * (mx - n)) :=
  mn3_at h.m2 (le2 (Nat.le.intro h.ha)) (le2 (Nat.le.intro h.hb)) (le2 (Nat.le.intro h.hc)) (ge2 h.ha h.la) (ge2 h.hb h.lb) (ge2 h.hc h.lc) (h.hm.imp (eq2 h.ha) (Or.imp (eq2 h.hb) (eq2 h.hc)))
theorem hue_D (h : Shp a b c mx n da db dc) : hueF (Fl (2 * a)) (Fl (2 * b)) (Fl (2 * c)) (Fl (2 * mx)) (Fl (2 * n)) = hueD da db dc n := by
  unfold hueF hueD
  rw [cmp_eq_Fl h.a2 h.m2, cmp_eq_Fl h.b2 h.m2, Fl_sub h.m2 (le2 (Nat.le.intro h.hc)), Fl_sub h.m2 (le2 (Nat.le.intro h.hb)), Fl_sub h.m2 (le2 (Nat.le.intro h.ha)), dif2 h.ha, dif2 h.hb, dif2 h.hc]
  simp only [decide_eq_true_eq, eqz2 h.ha, eqz2 h.hb]
end
/-- share by the sum t and the range n, in 64ths -/
noncomputable def shD (t n : Nat) : UInt64 := if t ≤ 64 then div (Fl (2 * n)) (Fl (2 * t)) else div (Fl (2 * n)) (Fl (256 - 2 * t))
theorem sum2 {mx n : Nat} (h : n ≤ mx) : 2 * mx + 2 * (mx - n) = 2 * (2 * mx - n) := by omega
theorem rng2 {mx n : Nat} (h : n ≤ mx) : 2 * mx - 2 * (mx - n) = 2 * n := by omega
theorem two2 {mx n : Nat} (h : n ≤ mx) : 256 - 2 * mx - 2 * (mx - n) = 256 - 2 * (2 * mx - n) := (Nat.sub_sub _ _ _).trans (congrArg (256 - ·) (sum2 h))
theorem tb1 {mx n : Nat} (hm : mx < 64) : 2 * mx + 2 * (mx - n) < 1024 := by omega
theorem tb2 {mx n : Nat} (hm : mx < 64) : 2 * (2 * mx - n) < 1024 := by omega
theorem tb3 {mx n : Nat} (hm : mx < 64) : 2 * mx - n < 1024 := by omega
theorem tb4 {mx n : Nat} (hm : mx < 64) : 2 * (mx - n) ≤ 256 - 2 * mx := by omega
theorem tb5 {mx n : Nat} (hm : n ≤ mx) (h : 1 ≤ n) : 2 * (2 * mx - n) ≠ 0 := by omega
theorem tb6 {mx n : Nat} (hm : mx < 64) (h : 1 ≤ n) : 256 - 2 * (2 * mx - n) ≠ 0 := by omega
theorem tb7 {mx : Nat} (hm : mx < 64) : 2 * mx ≤ 256 := by omega
theorem tb8 {mx n : Nat} (hm : n ≤ mx) (h : 1 ≤ n) : ¬ 2 * (mx - n) = 2 * mx := by omega
theorem le_cases {t : Nat} : (t < 64 ∨ t = 64) = (t ≤ 64) := propext (Nat.le_iff_lt_or_eq).symm
theorem notz {i : Nat} (hi : i < 1024) (h : i ≠ 0) : ¬ isZero (Fl i) = true := fun e => h ((Fl_isZero hi).mp e)
theorem hls_D {a b c mx n da db dc : Nat} (h : Shp a b c mx n da db dc) :
    hlsF (Fl (2 * a)) (Fl (2 * b)) (Fl (2 * c)) = some (hueD da db dc n, Fl (2 * mx - n), shD (2 * mx - n) n) := by
  unfold hlsF
  rw [h.mx3, h.mn3, Fl_add (tb1 h.hmx), Fl_sub h.m2 (le2 (Nat.sub_le _ _)), sum2 h.nm, rng2 h.nm, Fl_half (tb2 h.hmx)]
  unfold hlsG
  rw [cmp_eq_Fl (lt2 (Nat.sub_le _ _) h.hmx) h.m2, hue_D h, fh_Fl, cmp_lt_Fl (tb3 h.hmx) (by decide), cmp_eq_Fl (tb3 h.hmx) (by decide), f2_Fl, Fl_sub (by decide) (tb7 h.hmx), Fl_sub (Nat.lt_of_le_of_lt (Nat.sub_le _ _) (by decide)) (tb4 h.hmx), two2 h.nm]
  unfold shD
  simp only [decide_eq_true_eq, Bool.or_eq_true, tb8 h.nm h.hn, le_cases, if_false, notz (tb2 h.hmx) (tb5 h.nm h.hn), notz h.n2 (Nat.mul_ne_zero (by decide) (Nat.ne_of_gt h.hn)), notz (Nat.lt_of_le_of_lt (Nat.sub_le _ _) (by decide)) (tb6 h.hmx h.hn)]
  split <;> rfl
theorem shD_nr {t n : Nat} (ht : t < 128) (hn : 1 ≤ n ∧ n ≤ 5) (hnt : n ≤ t ∧ t + n < 128) : ∃ c0 : Int, Nr (shD t n) c0 2 ∧ 2 ^ 43 ≤ c0 ∧ c0 ≤ 2 ^ 50 ∧ (t ≤ 64 → c0 * t ≤ n * 2 ^ 50 ∧ n * 2 ^ 50 < c0 * t + t) ∧ (64 < t → c0 * (128 - t) ≤ n * 2 ^ 50 ∧ n * 2 ^ 50 < c0 * (128 - t) + (128 - t)) := by
  unfold shD
  have key : ∀ u : Nat, 0 < u → u < 128 → n ≤ u → ∃ c0 : Int, Nr (div (Fl (2 * n)) (Fl (2 * u))) c0 2 ∧ 2 ^ 43 ≤ c0 ∧ c0 ≤ 2 ^ 50 ∧ c0 * u ≤ n * 2 ^ 50 ∧ n * 2 ^ 50 < c0 * u + u := by
    intro u h0 h1 h2
    have d1 := Nat.mul_div_le (n * 2 ^ 50) u
    have d2 := Nat.lt_mul_div_succ (n * 2 ^ 50) h0
    have l1 : 2 ^ 43 ≤ n * 2 ^ 50 / u := (Nat.le_div_iff_mul_le h0).mpr (by omega)
    have l2 : n * 2 ^ 50 / u ≤ 2 ^ 50 := Nat.div_le_of_le_mul (Nat.mul_le_mul_right _ h2)
    generalize n * 2 ^ 50 / u = k at *
    have z1 : ((u * k : Nat) : Int) = (k : Int) * u := by rw [Int.natCast_mul, Int.mul_comm]
    have z2 : ((u * (k + 1) : Nat) : Int) = (k : Int) * u + u := by rw [Nat.mul_add, Nat.mul_one, Int.natCast_add, z1]
    refine ⟨k, Fl_div (by omega) (by omega) (by omega) (by lia) ⟨?_, ?_⟩, by omega, by omega, by omega, by omega⟩
    · have : (k : Int) * ((2 * u : Nat) : Int) = 2 * ((k : Int) * u) := by simp; grind
      lia
    · have : ((k : Int) + 1) * ((2 * u : Nat) : Int) = 2 * ((k : Int) * u + u) := by simp; grind
      omega
  by_cases h : t ≤ 64
  · rw [if_pos h]
    obtain ⟨c0, h1, h2, h3, h4, h5⟩ := key t (by omega) (by omega) (by omega)
    exact ⟨c0, h1, h2, h3, fun _ => ⟨h4, h5⟩, fun h' => absurd h' (by omega)⟩
  · rw [if_neg h]
    obtain ⟨c0, h1, h2, h3, h4, h5⟩ := key (128 - t) (by omega) (by omega) (by omega)
    have e : 256 - 2 * t = 2 * (128 - t) := by omega
    have e' : ((128 - t : Nat) : Int) = 128 - (t : Int) := by omega
    rw [e' ] at h4 h5
    rw [e]
    exact ⟨c0, h1, h2, h3, fun h' => absurd h' h, fun _ => ⟨h4, h5⟩⟩
theorem cmp_pos {x : UInt64} {a e : Int} (h : Nr x a e) (hp : e < a) : (cmp x 0 == some .eq) = false := by
  obtain ⟨⟨s, m, k, hd⟩, l, u⟩ := h
  have hq : (0 : Int) < (Qn : Int) := Int.ofNat_lt.mpr Qn_pos
  have h1 := Int.mul_pos (by omega : 0 < a - e) hq
  rw [f0_Fl]
  obtain ⟨⟨m2, k2, d2, -⟩, v2⟩ := Fl_dec (n := 0) (by decide)
  rw [cmp_right hd d2, v2, Nat.zero_mul]
  have : compare (val x) ((0 : Nat) : Int) = .gt := Int.compare_eq_gt.mpr (by omega)
  rw [this]; rfl
/-- the greater and the smaller bound of hls_to_rgb -/
noncomputable def hiD (l s : UInt64) : UInt64 := if (cmp l fhalf == some .lt || cmp l fhalf == some .eq) = true then mul l (add f1 s) else sub (add l s) (mul l s)
theorem rgb_D {h l s : UInt64} (hs : (cmp s 0 == some .eq) = false) : rgbF h l s = (vF (sub (mul f2 l) (hiD l s)) (hiD l s) (add h third), vF (sub (mul f2 l) (hiD l s)) (hiD l s) h, vF (sub (mul f2 l) (hiD l s)) (hiD l s) (sub h third)) := by
  unfold rgbF hiD
  rw [hs, if_neg (by decide)]
  split <;> rfl
theorem hi_nr {t n : Nat} (ht : t < 128) (hn : 1 ≤ n ∧ n ≤ 5) (hnt : n ≤ t ∧ t + n < 128) : Nr (hiD (Fl t) (shD t n)) ((t + n : Int) * 2 ^ 43) 12 := by
  obtain ⟨c0, h1, h2, h3, h4, h5⟩ := shD_nr ht hn hnt
  have hl := Fl_nr (n := t) (by omega)
  have hone := Fl_nr (n := 128) (by omega)
  unfold hiD
  rw [fh_Fl, cmp_lt_Fl (by omega) (by omega), cmp_eq_Fl (by omega) (by omega)]
  by_cases h : t ≤ 64
  · rw [if_pos (by simp only [Bool.or_eq_true, decide_eq_true_eq]; omega), f1_Fl]
    obtain ⟨p1, p2⟩ := h4 h
    have ha := Nr.add hone h1 (by omega)
    have e1 : (t : Int) * 2 ^ 43 * (((128 : Nat) : Int) * 2 ^ 43 + c0) = t * 2 ^ 93 + 2 ^ 43 * (c0 * t) := by grind
    have e2 : ((t : Int) * 2 ^ 43 + 0 + 1) * (((128 : Nat) : Int) * 2 ^ 43 + c0 + (0 + 2 + 1) + 1) = t * 2 ^ 93 + 2 ^ 43 * (c0 * t) + t * 2 ^ 45 + 2 ^ 50 + c0 + 4 := by grind
    refine Nr.mono (Nr.mul (g := 8) hl ha (by lia) ?_ ?_ ?_) (by decide)
    · rw [e2]; lia
    · rw [e1]; omega
    · rw [e1]; omega
  · rw [if_neg (by simp only [Bool.or_eq_true, decide_eq_true_eq]; omega)]
    obtain ⟨p1, p2⟩ := h5 (by omega)
    have ha := Nr.add hl h1 (by lia)
    have e1 : (t : Int) * 2 ^ 43 * c0 = 2 ^ 50 * c0 - 2 ^ 43 * (c0 * (128 - t)) := by grind
    have e2 : ((t : Int) * 2 ^ 43 + 0 + 1) * (c0 + 2 + 1) = 2 ^ 50 * c0 - 2 ^ 43 * (c0 * (128 - t)) + 3 * 2 ^ 43 * t + c0 + 3 := by grind
    have hm : Nr (mul (Fl t) (shD t n)) (c0 - n * 2 ^ 43) 8 := by
      refine Nr.mul hl h1 (by lia) ?_ ?_ ?_
      · rw [e2]; omega
      · rw [e1]; omega
      · rw [e1]; omega
    have hr := Nr.sub ha hm (by omega)
    have e3 : (t : Int) * 2 ^ 43 + c0 - (c0 - n * 2 ^ 43) = (t + n) * 2 ^ 43 := by grind
    rw [e3] at hr
    exact Nr.mono hr (by decide)
theorem lo_nr {t n : Nat} (ht : t < 128) (hn : 1 ≤ n ∧ n ≤ 5) (hnt : n ≤ t ∧ t + n < 128) : Nr (sub (mul f2 (Fl t)) (hiD (Fl t) (shD t n))) ((t - n : Int) * 2 ^ 43) 16 := by
  have hh := hi_nr ht hn hnt
  have hl := Fl_nr (n := t) (by omega)
  have h2 := Fl_nr (n := 256) (by omega)
  rw [f2_Fl]
  have hm : Nr (mul (Fl 256) (Fl t)) (t * 2 ^ 44) 1 := Nr.mul h2 hl (by omega) (by omega) (by lia) (by lia)
  have hr := Nr.sub hm hh (by omega)
  have e3 : (t : Int) * 2 ^ 44 - (t + n) * 2 ^ 43 = (t - n) * 2 ^ 43 := by grind
  rw [e3] at hr
  exact Nr.mono hr (by decide)
end PPF5
section PPF6
open PySem.Float64
theorem f4_Fl : f4 = Fl 512 := by decide +kernel
theorem f6_Fl : f6 = Fl 768 := by decide +kernel
noncomputable def kq (n k : Nat) : Nat := k * 2 ^ 50 / (6 * n)
noncomputable def tOk (x : UInt64) (n k : Nat) : Bool := nrB x (kq n k) 64
noncomputable def chanB (hh : UInt64) (n d : Nat) : Bool :=
  if (cmp (divmod hh f1).2 sixth == some .lt) = true then tOk (divmod hh f1).2 n (n - d) else
  if (cmp (divmod hh f1).2 fhalf == some .lt) = true then d == 0 else
  if (cmp (divmod hh f1).2 twoThird == some .lt) = true then tOk (sub twoThird (divmod hh f1).2) n (n - d) else d == n
noncomputable def k6 (k : Nat) : Nat := k * 2 ^ 44 / 6
noncomputable def numOk (n k : Nat) : Bool := Nat.ble ((n * 2 ^ 44 + 29 + 1) * (kq n k + 64 + 1)) (2 ^ 103) && (Nat.ble (n * 2 ^ 44 * kq n k + (n * 2 ^ 44 * 64 + kq n k * 29 + 29 * 64) + 2 ^ 50) ((k6 k + 64) * 2 ^ 50) && Nat.ble (k6 k * 2 ^ 50 + (n * 2 ^ 44 * 64 + kq n k * 29 + 29 * 64) + 2 ^ 50) (n * 2 ^ 44 * kq n k + 64 * 2 ^ 50))
theorem num_ok : ∀ n, n ≤ 5 → ∀ k, k ≤ n → 1 ≤ n → numOk n k = true := by decide +kernel
theorem mid_nr {a b T : UInt64} {mn n k : Nat} (hn : 1 ≤ n ∧ n ≤ 5) (hk : k ≤ n) (hmn : mn < 64) (ha : Nr a (mn * 2 ^ 44) 16) (hb : Nr b ((mn + n : Int) * 2 ^ 44) 12) (hT : Nr T (kq n k) 64) :
    Nr (add a (mul (mul (sub b a) T) f6)) ((mn + k : Int) * 2 ^ 44) 1000 := by
  have h1 := Nr.sub hb ha (by lia)
  have e1 : (mn + n : Int) * 2 ^ 44 - mn * 2 ^ 44 = ((n * 2 ^ 44 : Nat) : Int) := by rw [Int.natCast_mul, Int.natCast_pow]; grind
  rw [e1] at h1
  have hnum := num_ok n hn.2 k hk hn.1
  unfold numOk at hnum
  simp only [Bool.and_eq_true, Nat.ble_eq] at hnum
  obtain ⟨n1, n2, n3⟩ := hnum
  have h2 : Nr (mul (sub b a) T) (k6 k) 64 := by
    refine Nr.mul h1 hT (by lia) ?_ ?_ ?_
    · have z := Int.ofNat_le.mpr n1
      simp only [Int.natCast_add, Int.natCast_mul, Int.natCast_pow, Int.cast_ofNat_Int] at z ⊢
      exact z
    · have z := Int.ofNat_le.mpr n2
      simp only [Int.natCast_add, Int.natCast_mul, Int.natCast_pow, Int.cast_ofNat_Int] at z ⊢
      exact z
    · rw [← Int.natCast_mul]
      clear n1 n2 h1
      generalize n * 2 ^ 44 * kq n k = A at *
      lia
  have hk6 : 6 * k6 k ≤ k * 2 ^ 44 ∧ k * 2 ^ 44 < 6 * k6 k + 6 := by unfold k6; omega
  have h6 := Fl_nr (n := 768) (by lia)
  have h3 : Nr (mul (mul (sub b a) T) f6) (k * 2 ^ 44) 400 := by
    rw [f6_Fl]
    exact Nr.mul h2 h6 (by omega) (by omega) (by omega) (by omega)
  have h4 := Nr.add ha h3 (by omega)
  have e4 : (mn : Int) * 2 ^ 44 + k * 2 ^ 44 = (mn + k) * 2 ^ 44 := by grind
  rw [e4] at h4
  exact Nr.mono h4 (by decide)
theorem chan_of {a b hh : UInt64} {mn n d : Nat} (hn : 1 ≤ n ∧ n ≤ 5) (hd : d ≤ n) (hmn : mn + n < 64) (ha : Nr a (mn * 2 ^ 44) 16) (hb : Nr b ((mn + n : Int) * 2 ^ 44) 12) (h : chanB hh n d = true) : rndB (vF a b hh) ((mn + n - d : Nat) : Int) = true := by
  unfold chanB at h
  unfold vF
  have ek : ((mn + (n - d : Nat) : Int)) * 2 ^ 44 = ((mn + n - d : Nat) : Int) * 2 ^ 44 := by congr 1; lia
  by_cases h1 : (cmp (divmod hh f1).2 sixth == some .lt) = true
  · rw [if_pos h1] at h ⊢
    exact rnd_of (Nr.mono (mid_nr hn (by omega) (by omega) ha hb (Nr.ofB h)) (by decide)) ek (by omega)
  · rw [if_neg h1] at h ⊢
    by_cases h2 : (cmp (divmod hh f1).2 fhalf == some .lt) = true
    · rw [if_pos h2] at h ⊢
      have : d = 0 := by simpa using h
      subst this
      exact rnd_of (Nr.mono hb (by decide)) (by congr 1) (by lia)
    · rw [if_neg h2] at h ⊢
      by_cases h3 : (cmp (divmod hh f1).2 twoThird == some .lt) = true
      · rw [if_pos h3] at h ⊢
        exact rnd_of (Nr.mono (mid_nr hn (by omega) (by omega) ha hb (Nr.ofB h)) (by decide)) ek (by omega)
      · rw [if_neg h3] at h ⊢
        have : d = n := by simpa using h
        subst this
        exact rnd_of (Nr.mono ha (by decide)) (by congr 1; lia) (by omega)
noncomputable def turnD (h : UInt64) (da db dc n : Nat) : Bool := chanB (add h third) n dc && (chanB h n da && chanB (sub h third) n db)
noncomputable def patOk (da db dc n : Nat) : Bool := turnD (add (hueD da db dc n) third) da db dc n
end PPF6
section PUpr
section
variable {w : World} {p : Program} {loose : List Str} {mean : ExcName → Option Value} {mg mb : Str → Option Value}
theorem ln_24 : True := by
  (k_with "call ref" => ((with_reducible show wpAny _ _ (call (Value.ref 52) _ _) _ _ _); (k_here; k_dflt (refine' (rgb_c ?z1) _ _ _ _ _ _ _ _ _ _ _ _ _ _ _ _ _ ?k1 ?k2 ?k3 ?k4 ?k5 ?kK ?kd ?ku ?_; k_extra "m:std"; k_whole)); (case z1 => with_reducible assumption); ((first | (k_dflt (refine' (us4 neNat neTok neTok neTok ?z9sl ((?_ : L4 _ _ _ _ _) () ()) :); (case z9sl => k_extra "m:slot"); intros u8 x1 t1 t2 t3 u9; clear u8 u9; k_extra "m:cl")) | (refine (sk4 neNat neTok neTok neTok ((?_ : ∀ (x1 : Addr) (t1 : Tok) (t2 : Tok) (t3 : Tok), _) _ _ _ _) :); intros x1 t1 t2 t3))); k_extra "m:got1"))
  (k_with "call ref" => ((with_reducible show wpAny _ _ (call (Value.ref 45) _ _) _ _ _); (k_here; k_dflt (refine' (hls_c ?z1) _ _ _ _ _ _ _ _ _ _ _ _ _ _ _ _ _ ?k1 ?k2 ?k3 ?k4 ?k5 ?kK ?kd ?ku ?_; k_extra "m:std"; k_whole)); (case z1 => with_reducible assumption); ((first | (k_dflt (refine' (us4 neNat neTok neTok neTok ?z9sl ((?_ : L4 _ _ _ _ _) () ()) :); (case z9sl => k_extra "m:slot"); intros u8 x1 t1 t2 t3 u9; clear u8 u9; k_extra "m:cl")) | (refine (sk4 neNat neTok neTok neTok ((?_ : ∀ (x1 : Addr) (t1 : Tok) (t2 : Tok) (t3 : Tok), _) _ _ _ _) :); intros x1 t1 t2 t3))); k_extra "m:got1"))
  (k_with "eval ListComp" => ((with_reducible show wpAny _ _ (eval (PySem.Expr.ListComp (PySem.Expr.BinOp (PySem.Expr.BinOp _ _ _ _) _ _ _) _ _ _) _) _ _ _); k_extra "m:comptup"))
  trivial
noncomputable def rotL (a b c : Int) : Nat → Int × Int × Int
  | 0 => (a, b, c)
  | 1 => (c, a, b)
  | 2 => (b, c, a)
  | _ => (a, b, c)
noncomputable def rotQ (a b c : Int) (i q : Nat) : Int := match q with
  | 0 => (rotL a b c i).1
  | 1 => (rotL a b c i).2.1
  | _ => (rotL a b c i).2.2
noncomputable def RowIs (a b c : Int) (i : Nat) (zs : List Value) (j : Nat) : Prop := zs.length = j ∧ ∀ q, q < j → ∃ t, zs[q]? = some (.int (rotQ a b c i q) t)
theorem RowIs.snoc {a b c : Int} {i j : Nat} {zs : List Value} {t : Tok} {k : Int} (h : RowIs a b c i zs j) (e : k = rotQ a b c i j) : RowIs a b c i (zs ++ [.int k t]) (j + 1) := by
  refine ⟨by simp [h.1], fun q hq => ?_⟩
  by_cases hqj : q < j
  · obtain ⟨t', e'⟩ := h.2 q hqj
    exact ⟨t', by rw [List.getElem?_append_left (by rw [h.1]; exact hqj)]; exact e'⟩
  · have : q = j := by omega
    subst this
    exact ⟨t, by rw [List.getElem?_append_right (by rw [h.1]; exact Nat.le_refl _), h.1, Nat.sub_self, e]; rfl⟩
theorem list3_of {zs : List Value} {x y z : Value} (h : zs.length = 3) (e0 : zs[0]? = some x) (e1 : zs[1]? = some y) (e2 : zs[2]? = some z) : zs = [x, y, z] :=
  List.ext_getElem? fun i => match i with
    | 0 => e0
    | 1 => e1
    | 2 => e2
    | i + 3 => (List.getElem?_eq_none (h ▸ Nat.le_add_left 3 i)).trans (List.getElem?_eq_none (Nat.le_add_left 3 i)).symm
theorem list4_of {zs : List Value} {x y z u : Value} (h : zs.length = 4) (e0 : zs[0]? = some x) (e1 : zs[1]? = some y) (e2 : zs[2]? = some z) (e3 : zs[3]? = some u) : zs = [x, y, z, u] :=
  List.ext_getElem? fun i => match i with
    | 0 => e0
    | 1 => e1
    | 2 => e2
    | 3 => e3
    | i + 4 => (List.getElem?_eq_none (h ▸ Nat.le_add_left 4 i)).trans (List.getElem?_eq_none (Nat.le_add_left 4 i)).symm
theorem RowIs.three {a b c : Int} {i : Nat} {zs : List Value} (h : RowIs a b c i zs 3) : ∃ t0 t1 t2, zs = [.int (rotL a b c i).1 t0, .int (rotL a b c i).2.1 t1, .int (rotL a b c i).2.2 t2] := by
  obtain ⟨t0, e0⟩ := h.2 0 (by decide)
  obtain ⟨t1, e1⟩ := h.2 1 (by decide)
  obtain ⟨t2, e2⟩ := h.2 2 (by decide)
  exact ⟨t0, t1, t2, list3_of h.1 e0 e1 e2⟩
noncomputable def Rots (a b c : Int) (ys : List Value) (tl : Led) (i : Nat) : Prop := ∀ j, j < i → ∃ D t0 t1 t2, ys[j]? = some (.ref D) ∧ (D, LCg.lst [.int (rotL a b c j).1 t0, .int (rotL a b c j).2.1 t1, .int (rotL a b c j).2.2 t2]) ∈ tl
theorem Rots.snoc {a b c : Int} {i : Nat} {ys : List Value} {tl : Led} {D : Addr} {t0 t1 t2 : Tok} (hl : ys.length = i) (h : Rots a b c ys tl i) : Rots a b c (ys ++ [.ref D]) ((D, LCg.lst [.int (rotL a b c i).1 t0, .int (rotL a b c i).2.1 t1, .int (rotL a b c i).2.2 t2]) :: tl) (i + 1) := by
  intro j hj
  by_cases hji : j < i
  · obtain ⟨D', u0, u1, u2, e, hm⟩ := h j hji
    exact ⟨D', u0, u1, u2, by rw [List.getElem?_append_left (by rw [hl]; exact hji)]; exact e, .tail _ hm⟩
  · have : j = i := by omega
    subst this
    exact ⟨D, t0, t1, t2, by rw [List.getElem?_append_right (by rw [hl]; exact Nat.le_refl _), hl, Nat.sub_self]; rfl, .head _⟩
noncomputable def UpRet (ca cb cc : Int) (l : Addr) (K : Led → Value → Prop) : Prop :=
  (Int.fmod cb 3 = Int.fmod cc 3 → K [] (.ref l)) ∧
  (¬ Int.fmod cb 3 = Int.fmod cc 3 → Int.fmod ca 3 = Int.fmod cb 3 → ∀ D t0 t1 t2, K [(D, LCg.lst [.int cc t0, .int ca t1, .int cb t2])] (.ref D)) ∧
  (¬ Int.fmod cb 3 = Int.fmod cc 3 → ¬ Int.fmod ca 3 = Int.fmod cb 3 → Int.fmod cc 3 = Int.fmod ca 3 → ∀ D t0 t1 t2, K [(D, LCg.lst [.int cb t0, .int cc t1, .int ca t2])] (.ref D))
theorem ln_25 : True := by
  (k_with "m:enterO" => (k_extra "m:fill"; unfold ClaimO; k_extra "m:skC"; intros B F X N T hk hd9 hu9 hret; (refine wpAny_call ?_); k_dflt (k_extra "m:code")))
  trivial
noncomputable def pk3 {α : Type} (a b c : α) (k : Int) : α := if k = 0 then a else if k = 1 then b else c
theorem item3 {prog : Program} {w : World} {A : Around} {E : Value → Shared → Prop} {s : Shared} {h₀ : Heap} {L l : Addr} {news : Led} {a b c : Int} {ta tb tc : Tok} {n : Nat} {value slice : PySem.Expr} {k : Int} {u : Tok} {Q : Value → Shared → Prop}
    (N : News h₀ L s.heap news) (hm : (l, listOf #[.int a ta, .int b tb, .int c tc] n) ∈ news) (h : Q (.int (pk3 a b c (Int.fmod k 3)) (pk3 ta tb tc (Int.fmod k 3))) s)
    (hs : subscripted slice false (.ref l) (.int (Int.fmod k 3) u) = operate [.ref l, .int (Int.fmod k 3) u] (getItem (.ref l) (.int (Int.fmod k 3) u)) := by with_unfolding_all rfl) :
    wpAny (model prog w) A (subscriptTail value slice (.ref l) (.int (Int.fmod k 3) u)) Q E s := by
  have h1 := @fm_lo k 3 (by decide)
  have h2 := @fm_hi k 3 (by decide)
  refine item_led N hm h1 (by omega) ?_ h hs
  generalize Int.fmod k 3 = j at *
  have : j = 0 ∨ j = 1 ∨ j = 2 := by omega
  rcases this with rfl | rfl | rfl <;> rfl
theorem rotQ_pk {a b c : Int} {i j : Nat} (hi : i < 4) (hj : j < 3) : pk3 a b c (Int.fmod (0 + (j : Int) - (0 + (i : Int))) 3) = rotQ a b c i j := by
  match i, j, hi, hj with
  | 0, 0, _, _ => rfl
  | 0, 1, _, _ => rfl
  | 0, 2, _, _ => rfl
  | 1, 0, _, _ => rfl
  | 1, 1, _, _ => rfl
  | 1, 2, _, _ => rfl
  | 2, 0, _, _ => rfl
  | 2, 1, _, _ => rfl
  | 2, 2, _, _ => rfl
  | 3, 0, _, _ => rfl
  | 3, 1, _, _ => rfl
  | 3, 2, _, _ => rfl
noncomputable abbrev uOwn : List Str := [Str.ofString "_", Str.ofString "hue", Str.ofString "light", Str.ofString "share"]
noncomputable def TnRot (base : Led) (l : Addr) (a b c : Int) (ys : List Value) (tl : Led) (k : Nat) : Prop := ys[0]? = some (.ref l) ∧ ∀ j, j < k → ∃ D t0 t1 t2 nD, ys[j]? = some (.ref D) ∧ (0 < j → (∀ p ∈ base, p.1 ≠ D) ∧ listOf #[.int (rotL a b c j).1 t0, .int (rotL a b c j).2.1 t1, .int (rotL a b c j).2.2 t2] nD = LCg.lst [.int (rotL a b c j).1 t0, .int (rotL a b c j).2.1 t1, .int (rotL a b c j).2.2 t2]) ∧ (D, listOf #[.int (rotL a b c j).1 t0, .int (rotL a b c j).2.1 t1, .int (rotL a b c j).2.2 t2] nD) ∈ tl
theorem TnRot.snoc {base : Led} {l : Addr} {a b c : Int} {k : Nat} {ys : List Value} {tl tl' : Led} {D : Addr} {t0 t1 t2 : Tok} {nD : Nat} (hl : ys.length = k) (hk : 0 < k) (h : TnRot base l a b c ys tl k) (qb : ∀ p ∈ base, p.1 ≠ D) (ql : listOf #[.int (rotL a b c k).1 t0, .int (rotL a b c k).2.1 t1, .int (rotL a b c k).2.2 t2] nD = LCg.lst [.int (rotL a b c k).1 t0, .int (rotL a b c k).2.1 t1, .int (rotL a b c k).2.2 t2]) (sub : ∀ p ∈ tl, p ∈ tl') (hD : (D, listOf #[.int (rotL a b c k).1 t0, .int (rotL a b c k).2.1 t1, .int (rotL a b c k).2.2 t2] nD) ∈ tl') : TnRot base l a b c (ys ++ [.ref D]) tl' (k + 1) := by
  refine ⟨by rw [List.getElem?_append_left (by rw [hl]; exact hk)]; exact h.1, fun j hj => ?_⟩
  rcases Nat.lt_or_eq_of_le (Nat.le_of_lt_succ hj) with h1 | h1
  · obtain ⟨D', u0, u1, u2, nD', e, hm⟩ := h.2 j h1
    exact ⟨D', u0, u1, u2, nD', by rw [List.getElem?_append_left (by rw [hl]; exact h1)]; exact e, hm.1, sub _ hm.2⟩
  · subst h1
    exact ⟨D, t0, t1, t2, nD, by rw [List.getElem?_append_right (by rw [hl]; exact Nat.le_refl _), hl, Nat.sub_self]; rfl, fun _ => ⟨qb, ql⟩, hD⟩
/-- between the turns: the list of turns, its last one at hand -/
noncomputable def UpSt (own : List Str) (m₀ : Str → Option Value) (base : Led) (T l : Addr) (a b c : Int) (i : Nat) (m₁ : Str → Option Value) (led : Led) : Prop :=
  ∃ us D nT tl, led = (T, listOf (us.toArray.push (.ref D)) nT) :: tl ∧ Same own m₀ m₁ ∧ (∀ p ∈ base, p ∈ tl) ∧ (∀ p ∈ tl, p.1 ≠ T) ∧ us.length = i ∧ TnRot base l a b c (us ++ [.ref D]) tl (i + 1)
section
variable {prog : Program} {w : World} {A : Around} {E : Value → Shared → Prop} {s : Shared} {env : Env} {h₀ : Heap} {x : Str} {px : Pos} {body : List Stmt} {R : Result → Shared → Prop}
theorem up_loop {r l T : Addr} {t u v : Tok} {nT n : Nat} {m₀ : Str → Option Value} {tl : Led} {a b c : Int} {ta tb tc : Tok} (own : List Str)
    (hh : A.handled = none) (hr : IsRange s.heap r 0 3 1 t u v) (F : Fr h₀ env.locals s.heap m₀) (N : News h₀ env.locals s.heap ((T, listOf #[.ref l] nT) :: tl)) (hl : (l, listOf #[.int a ta, .int b tb, .int c tc] n) ∈ tl) (hT : ∀ p ∈ tl, p.1 ≠ T)
    (turn : ∀ I o i tok m₁ us D t0 t1 t2 nD nT tl' h tk, i < 3 → Same own m₀ m₁ → (∀ p ∈ tl, p ∈ tl') → (∀ p ∈ tl', p.1 ≠ T) → us.length = i → TnRot tl l a b c (us ++ [.ref D]) tl' (i + 1) →
      (D, listOf #[.int (rotL a b c i).1 t0, .int (rotL a b c i).2.1 t1, .int (rotL a b c i).2.2 t2] nD) ∈ tl' → @Ne Nat T I → (∀ p ∈ tl', p.1 ≠ I) → Fr h₀ env.locals h m₁ → News h₀ env.locals h ((I, o) :: (T, listOf (us.toArray.push (.ref D)) nT) :: tl') →
      wpAny (model prog w) A (assign (.Name x px) env (.int (0 + (i : Int)) tok)) (fun _ s₂ => wpAny (model prog w) A (execs body env) (TurnK h₀ env.locals (UpSt own m₀ tl T l a b c (i + 1)) I o { s with heap := h, toks := tk } R) (fun _ _ => False) s₂) (fun _ _ => False) { s with heap := h, toks := tk })
    (done : ∀ m₁ us D nT tl' h tk, Same own m₀ m₁ → (∀ p ∈ tl, p ∈ tl') → (∀ p ∈ tl', p.1 ≠ T) → us.length = 3 → TnRot tl l a b c (us ++ [.ref D]) tl' 4 → Fr h₀ env.locals h m₁ → News h₀ env.locals h ((T, listOf (us.toArray.push (.ref D)) nT) :: tl') → R (.ok .next) { s with heap := h, toks := tk }) :
    wpAny (model prog w) A (pyIter (.ref r)) (fun it s₂ => codeAny (model prog w) A (.forLoop (.Name x px) it body [] env) R s₂) E s := by
  refine for_range (n := 3) (UpSt own m₀ tl T l a b c) hh hr (by decide) (by decide) F N ⟨[], l, nT, tl, rfl, Same.refl _ _, fun p hp => hp, hT, rfl, rfl, fun j hj => ?_⟩ ?_ ?_
  · obtain rfl : j = 0 := Nat.lt_one_iff.mp hj
    exact ⟨l, ta, tb, tc, n, rfl, fun h => absurd h (Nat.lt_irrefl _), hl⟩
  · rintro I o i tok m₁ led h tk - hi ⟨us, D, nT', tl', rfl, hs, sub, q, hlen, hR⟩ hne F9 N9
    obtain ⟨D', t0, t1, t2, nD, e, -, hm⟩ := hR.2 i (Nat.lt_succ_self _)
    rw [List.getElem?_append_right (by rw [hlen]; exact Nat.le_refl _), hlen, Nat.sub_self] at e
    cases Option.some.inj e
    exact turn I o i tok m₁ us D t0 t1 t2 nD nT' tl' h tk hi hs sub q hlen hR hm (hne _ (.head _)) (fun p hp => hne p (.tail _ hp)) F9 N9
  · rintro m₁ led h tk ⟨us, D, nT', tl', rfl, hs, sub, q, hlen, hR⟩ F9 N9
    exact done m₁ us D nT' tl' h tk hs sub q hlen hR F9 N9
theorem up_end {own : List Str} {m₀ m₁ : Str → Option Value} {base tl all : Led} {a b c : Int} {i nT' : Nat} {I L T D D' l : Addr} {o : Obj} {us : List Value} {s₁ : Shared} {h' : Heap} {tk : Nat} {t0 t1 t2 : Tok}
    (F : Fr h₀ L h' m₁) (N : News h₀ L h' all) (sub : ∀ p ∈ (I, o) :: (T, listOf ((us.toArray.push (Value.ref D)).push (Value.ref D')) nT') :: (D', LCg.lst [.int (rotL a b c (i + 1)).1 t0, .int (rotL a b c (i + 1)).2.1 t1, .int (rotL a b c (i + 1)).2.2 t2]) :: tl, p ∈ all)
    (hs : Same own m₀ m₁) (bs : ∀ p ∈ base, p ∈ tl) (q : ∀ p ∈ tl, p.1 ≠ T) (qI : ∀ p ∈ tl, p.1 ≠ I) (qTI : @Ne Nat T I) (qD : @Ne Nat D' T) (qDI : @Ne Nat D' I) (qb : ∀ p ∈ tl, p.1 ≠ D') (hlen : us.length = i) (hR : TnRot base l a b c (us ++ [.ref D]) tl (i + 1)) :
    ∃ h₂ tk₂ m₂ news₂, ({ s₁ with heap := h', toks := tk } : Shared) = { s₁ with heap := h₂, toks := tk₂ } ∧ Fr h₀ L h₂ m₂ ∧ News h₀ L h₂ ((I, o) :: news₂) ∧ (∀ p ∈ news₂, p.1 ≠ I) ∧ UpSt own m₀ base T l a b c (i + 1) m₂ news₂ := by
  refine ⟨h', tk, m₁, _, rfl, F, fun p hp => N p (sub p hp), ?_, us ++ [.ref D], D', nT', (D', _) :: tl, by rw [← List.push_toArray], hs, fun p hp => .tail _ (bs p hp), ?_, by rw [List.length_append, hlen]; rfl, TnRot.snoc (by rw [List.length_append, hlen]; rfl) (Nat.succ_pos _) hR (fun p hp => qb p (bs p hp)) rfl (fun p hp => .tail _ hp) (.head _)⟩
  · intro p hp
    rcases List.mem_cons.mp hp with rfl | hp
    · exact qTI
    rcases List.mem_cons.mp hp with rfl | hp
    · exact qDI
    · exact qI p hp
  · intro p hp
    rcases List.mem_cons.mp hp with rfl | hp
    · exact qD
    · exact q p hp
end
theorem rot_bd {a b c : Int} (ha : 0 ≤ a ∧ a < 64) (hb : 0 ≤ b ∧ b < 64) (hc : 0 ≤ c ∧ c < 64) : ∀ i, (0 ≤ (rotL a b c i).1 ∧ (rotL a b c i).1 < 128) ∧ (0 ≤ (rotL a b c i).2.1 ∧ (rotL a b c i).2.1 < 128) ∧ (0 ≤ (rotL a b c i).2.2 ∧ (rotL a b c i).2.2 < 128)
  | 0 => by simp only [rotL]; omega
  | 1 => by simp only [rotL]; omega
  | 2 => by simp only [rotL]; omega
  | _ + 3 => by simp only [rotL]; omega
theorem size4 {us : List Value} {D : Addr} {i : Nat} (h : us.length = i) (hi : i < 3) : (us.toArray.push (Value.ref D)).size ≤ sizeLine := by
  rw [Array.size_push, List.size_toArray, h]
  exact Nat.le_trans (show i + 1 ≤ 3 from hi) (by decide)
theorem ff_absurd {P : Prop} {b : Bool} (h : b = false) (h1 : b = true) : P := absurd (h.symm.trans h1) (by decide)
theorem ln_26 : True := by
  (k_with "subscriptTail Name BinOp" => ((with_reducible show wpAny _ _ (subscriptTail _ _ (Value.ref _) (Value.int (Int.fmod _ 3) _)) _ _ _); k_here; k_dflt (refine' item3 ?z9k0 ?z9k1 ?_ ?z9k6; (case z9k0 => k_asm); (case z9k1 => k_mem); (case z9k6 => with_unfolding_all rfl); k_whole)))
  (k_with "exec For Name Call cons nil" => ((with_reducible show wpAny _ _ (exec (Stmt.For (PySem.Expr.Name (Str.ofString "_") _) _ _ _ _) _) _ _ _); k_dflt (refine wpAny_For ?_)))
  (k_with "eval Name" => ((with_reducible show wpAny _ _ (eval (PySem.Expr.Name (Str.ofString "turns") _) (envOfC _ _ _ _ _)) _ _ _); k_here; k_dflt (refine' ldE ?k1 ?k2 ?k3 ?k4 ?k5 ?_; (case k1 => k_asm); (case k2 => first | (with_reducible assumption) | ((repeat (refine (if_neg (by decide)).trans ?_)); with_reducible assumption)); (case k3 => exact rfl); (case k4 => exact rfl); (case k5 => decide); k_whole)))
  (k_with "subscriptTail Name UnaryOp ref int" => (k_here; (with_reducible show wpAny _ _ (subscriptTail _ _ (Value.ref _) (Value.int _ _)) _ _ _); k_dflt (refine' item_last ?k0 ?k1 ?_ ?k6; (case k0 => k_asm); (case k1 => k_mem); (case k6 => with_unfolding_all rfl); k_whole)))
  (k_with "call builtin:list.append" => (k_here; (with_reducible show wpAny _ _ (call (Value.builtin _) [Value.ref _, _]) _ _ _); k_dflt (refine' append_K ?k1 ?k2 ?k3 ?_ ?z; (case k1 => k_asm); (case k2 => k_asm); (case k3 => k_upd); (case z => with_reducible assumption); k_whole); ((first | (k_dflt (refine' (us1 neHeap ?z9sl ((?_ : L1 _ _) () ()) :); (case z9sl => k_extra "m:slot"); intros u8 h' u9; clear u8 u9; k_extra "m:cl")) | (refine (sk1 neHeap ((?_ : ∀ (h' : Heap), _) _) :); intros h'))); intros F' N'; (try k_sweep)))
  (k_with "pyIter ref" => ((with_reducible show wpAny _ _ (pyIter (Value.ref _)) (fun _ _ => codeAny _ _ (Code.forLoop (PySem.Expr.Name (Str.ofString "_") _) _ _ _ _) _ _) _ _); refine HD.out ?_))
  trivial
theorem upright_c {news : Led} {l : Addr} {n : Nat} {ca cb cc : Int} {ta tb tc : Tok} (hm : (l, listOf #[.int ca ta, .int cb tb, .int cc tc] n) ∈ news) (hb : (0 ≤ ca ∧ ca < 64) ∧ (0 ≤ cb ∧ cb < 64) ∧ (0 ≤ cc ∧ cc < 64))
  (hT1 : turnB ca cb cc cc ca cb = true) (hT2 : turnB cc ca cb cb cc ca = true) (hT3 : turnB cb cc ca ca cb cc = true) (hU : Int.fmod cb 3 = Int.fmod cc 3 ∨ Int.fmod ca 3 = Int.fmod cb 3 ∨ Int.fmod cc 3 = Int.fmod ca 3) : ClaimO w p loose mean mg mb (.ref 287) 20 [.ref l] news (UpRet ca cb cc l) := by
  (revert w p loose mean mg mb news l n ca cb cc ta tb tc; apply @And.left _ True; refine ((?_ : KK 83 _ _ _ → KK 82 _ _ _ → KK 81 _ _ _ → KK 80 _ _ _ → KK 79 _ _ _ → KK 78 _ _ _ → KK 77 _ _ _ → KK 76 _ _ _ → KK 75 _ _ _ → KK 74 _ _ _ → KK 73 _ _ _ → KK 72 _ _ _ → KK 71 _ _ _ → KK 70 _ _ _ → KK 69 _ _ _ → KK 68 _ _ _ → KK 67 _ _ _ → KK 66 _ _ _ → KK 65 _ _ _ → KK 64 _ _ _ → KK 63 _ _ _ → KK 62 _ _ _ → KK 61 _ _ _ → KK 60 _ _ _ → KK 59 _ _ _ → KK 58 _ _ _ → KK 57 _ _ _ → KK 56 _ _ _ → KK 55 _ _ _ → KK 54 _ _ _ → KK 53 _ _ _ → KK 52 _ _ _ → KK 51 _ _ _ → KK 50 _ _ _ → KK 49 _ _ _ → KK 48 _ _ _ → KK 47 _ _ _ → KK 46 _ _ _ → KK 45 _ _ _ → KK 44 _ _ _ → KK 43 _ _ _ → KK 42 _ _ _ → KK 41 _ _ _ → KK 40 _ _ _ → KK 39 _ _ _ → KK 38 _ _ _ → KK 37 _ _ _ → KK 36 _ _ _ → KK 35 _ _ _ → KK 34 _ _ _ → KK 33 _ _ _ → KK 32 _ _ _ → KK 31 _ _ _ → KK 30 _ _ _ → KK 29 _ _ _ → KK 28 _ _ _ → KK 27 _ _ _ → KK 26 _ _ _ → KK 25 _ _ _ → KK 24 _ _ _ → KK 23 _ _ _ → KK 22 _ _ _ → KK 21 _ _ _ → KK 20 _ _ _ → KK 19 _ _ _ → KK 18 _ _ _ → KK 17 _ _ _ → KK 16 _ _ _ → KK 15 _ _ _ → KK 14 _ _ _ → KK 13 _ _ _ → KK 12 _ _ _ → KK 11 _ _ _ → KK 10 _ _ _ → KK 9 _ _ _ → KK 8 _ _ _ → KK 7 _ _ _ → KK 6 _ _ _ → KK 5 _ _ _ → KK 4 _ _ _ → KK 3 _ _ _ → KK 2 _ _ _ → KK 1 _ _ _ → KK 0 _ _ _ → _ ∧ True) ?jj83 ?jj82 ?jj81 ?jj80 ?jj79 ?jj78 ?jj77 ?jj76 ?jj75 ?jj74 ?jj73 ?jj72 ?jj71 ?jj70 ?jj69 ?jj68 ?jj67 ?jj66 ?jj65 ?jj64 ?jj63 ?jj62 ?jj61 ?jj60 ?jj59 ?jj58 ?jj57 ?jj56 ?jj55 ?jj54 ?jj53 ?jj52 ?jj51 ?jj50 ?jj49 ?jj48 ?jj47 ?jj46 ?jj45 ?jj44 ?jj43 ?jj42 ?jj41 ?jj40 ?jj39 ?jj38 ?jj37 ?jj36 ?jj35 ?jj34 ?jj33 ?jj32 ?jj31 ?jj30 ?jj29 ?jj28 ?jj27 ?jj26 ?jj25 ?jj24 ?jj23 ?jj22 ?jj21 ?jj20 ?jj19 ?jj18 ?jj17 ?jj16 ?jj15 ?jj14 ?jj13 ?jj12 ?jj11 ?jj10 ?jj9 ?jj8 ?jj7 ?jj6 ?jj5 ?jj4 ?jj3 ?jj2 ?jj1 ?jj0); intros jj83 jj82 jj81 jj80 jj79 jj78 jj77 jj76 jj75 jj74 jj73 jj72 jj71 jj70 jj69 jj68 jj67 jj66 jj65 jj64 jj63 jj62 jj61 jj60 jj59 jj58 jj57 jj56 jj55 jj54 jj53 jj52 jj51 jj50 jj49 jj48 jj47 jj46 jj45 jj44 jj43 jj42 jj41 jj40 jj39 jj38 jj37 jj36 jj35 jj34 jj33 jj32 jj31 jj30 jj29 jj28 jj27 jj26 jj25 jj24 jj23 jj22 jj21 jj20 jj19 jj18 jj17 jj16 jj15 jj14 jj13 jj12 jj11 jj10 jj9 jj8 jj7 jj6 jj5 jj4 jj3 jj2 jj1 jj0; (k_with "q0" => try clear jj0); (k_with "q1" => try (clear jj1; k_extra "q0")); (k_with "q2" => try (clear jj2; k_extra "q1")); (k_with "q3" => try (clear jj3; k_extra "q2")); (k_with "q4" => try (clear jj4; k_extra "q3")); (k_with "q5" => try (clear jj5; k_extra "q4")); (k_with "q6" => try (clear jj6; k_extra "q5")); (k_with "q7" => try (clear jj7; k_extra "q6")); (k_with "q8" => try (clear jj8; k_extra "q7")); (k_with "q9" => try (clear jj9; k_extra "q8")); (k_with "q10" => try (clear jj10; k_extra "q9")); (k_with "q11" => try (clear jj11; k_extra "q10")); (k_with "q12" => try (clear jj12; k_extra "q11")); (k_with "q13" => try (clear jj13; k_extra "q12")); (k_with "q14" => try (clear jj14; k_extra "q13")); (k_with "q15" => try (clear jj15; k_extra "q14")); (k_with "q16" => try (clear jj16; k_extra "q15")); (k_with "q17" => try (clear jj17; k_extra "q16")); (k_with "q18" => try (clear jj18; k_extra "q17")); (k_with "q19" => try (clear jj19; k_extra "q18")); (k_with "q20" => try (clear jj20; k_extra "q19")); (k_with "q21" => try (clear jj21; k_extra "q20")); (k_with "q22" => try (clear jj22; k_extra "q21")); (k_with "q23" => try (clear jj23; k_extra "q22")); (k_with "q24" => try (clear jj24; k_extra "q23")); (k_with "q25" => try (clear jj25; k_extra "q24")); (k_with "q26" => try (clear jj26; k_extra "q25")); (k_with "q27" => try (clear jj27; k_extra "q26")); (k_with "q28" => try (clear jj28; k_extra "q27")); (k_with "q29" => try (clear jj29; k_extra "q28")); (k_with "q30" => try (clear jj30; k_extra "q29")); (k_with "q31" => try (clear jj31; k_extra "q30")); (k_with "q32" => try (clear jj32; k_extra "q31")); (k_with "q33" => try (clear jj33; k_extra "q32")); (k_with "q34" => try (clear jj34; k_extra "q33")); (k_with "q35" => try (clear jj35; k_extra "q34")); (k_with "q36" => try (clear jj36; k_extra "q35")); (k_with "q37" => try (clear jj37; k_extra "q36")); (k_with "q38" => try (clear jj38; k_extra "q37")); (k_with "q39" => try (clear jj39; k_extra "q38")); (k_with "q40" => try (clear jj40; k_extra "q39")); (k_with "q41" => try (clear jj41; k_extra "q40")); (k_with "q42" => try (clear jj42; k_extra "q41")); (k_with "q43" => try (clear jj43; k_extra "q42")); (k_with "q44" => try (clear jj44; k_extra "q43")); (k_with "q45" => try (clear jj45; k_extra "q44")); (k_with "q46" => try (clear jj46; k_extra "q45")); (k_with "q47" => try (clear jj47; k_extra "q46")); (k_with "q48" => try (clear jj48; k_extra "q47")); (k_with "q49" => try (clear jj49; k_extra "q48")); (k_with "q50" => try (clear jj50; k_extra "q49")); (k_with "q51" => try (clear jj51; k_extra "q50")); (k_with "q52" => try (clear jj52; k_extra "q51")); (k_with "q53" => try (clear jj53; k_extra "q52")); (k_with "q54" => try (clear jj54; k_extra "q53")); (k_with "q55" => try (clear jj55; k_extra "q54")); (k_with "q56" => try (clear jj56; k_extra "q55")); (k_with "q57" => try (clear jj57; k_extra "q56")); (k_with "q58" => try (clear jj58; k_extra "q57")); (k_with "q59" => try (clear jj59; k_extra "q58")); (k_with "q60" => try (clear jj60; k_extra "q59")); (k_with "q61" => try (clear jj61; k_extra "q60")); (k_with "q62" => try (clear jj62; k_extra "q61")); (k_with "q63" => try (clear jj63; k_extra "q62")); (k_with "q64" => try (clear jj64; k_extra "q63")); (k_with "q65" => try (clear jj65; k_extra "q64")); (k_with "q66" => try (clear jj66; k_extra "q65")); (k_with "q67" => try (clear jj67; k_extra "q66")); (k_with "q68" => try (clear jj68; k_extra "q67")); (k_with "q69" => try (clear jj69; k_extra "q68")); (k_with "q70" => try (clear jj70; k_extra "q69")); (k_with "q71" => try (clear jj71; k_extra "q70")); (k_with "q72" => try (clear jj72; k_extra "q71")); (k_with "q73" => try (clear jj73; k_extra "q72")); (k_with "q74" => try (clear jj74; k_extra "q73")); (k_with "q75" => try (clear jj75; k_extra "q74")); (k_with "q76" => try (clear jj76; k_extra "q75")); (k_with "q77" => try (clear jj77; k_extra "q76")); (k_with "q78" => try (clear jj78; k_extra "q77")); (k_with "q79" => try (clear jj79; k_extra "q78")); (k_with "q80" => try (clear jj80; k_extra "q79")); (k_with "q81" => try (clear jj81; k_extra "q80")); (k_with "q82" => try (clear jj82; k_extra "q81")); (k_with "q83" => try (clear jj83; k_extra "q82")); (k_with "m:slot" => (exact jj0; (k_with "m:cl" => k_extra "q0"); (k_with "m:slot" => (exact jj1; (k_with "m:cl" => k_extra "q1"); (k_with "m:slot" => (exact jj2; (k_with "m:cl" => k_extra "q2"); (k_with "m:slot" => (exact jj3; (k_with "m:cl" => k_extra "q3"); (k_with "m:slot" => (exact jj4; (k_with "m:cl" => k_extra "q4"); (k_with "m:slot" => (exact jj5; (k_with "m:cl" => k_extra "q5"); (k_with "m:slot" => (exact jj6; (k_with "m:cl" => k_extra "q6"); (k_with "m:slot" => (exact jj7; (k_with "m:cl" => k_extra "q7"); (k_with "m:slot" => (exact jj8; (k_with "m:cl" => k_extra "q8"); (k_with "m:slot" => (exact jj9; (k_with "m:cl" => k_extra "q9"); (k_with "m:slot" => (exact jj10; (k_with "m:cl" => k_extra "q10"); (k_with "m:slot" => (exact jj11; (k_with "m:cl" => k_extra "q11"); (k_with "m:slot" => (exact jj12; (k_with "m:cl" => k_extra "q12"); (k_with "m:slot" => (exact jj13; (k_with "m:cl" => k_extra "q13"); (k_with "m:slot" => (exact jj14; (k_with "m:cl" => k_extra "q14"); (k_with "m:slot" => (exact jj15; (k_with "m:cl" => k_extra "q15"); (k_with "m:slot" => (exact jj16; (k_with "m:cl" => k_extra "q16"); (k_with "m:slot" => (exact jj17; (k_with "m:cl" => k_extra "q17"); (k_with "m:slot" => (exact jj18; (k_with "m:cl" => k_extra "q18"); (k_with "m:slot" => (exact jj19; (k_with "m:cl" => k_extra "q19"); (k_with "m:slot" => (exact jj20; (k_with "m:cl" => k_extra "q20"); (k_with "m:slot" => (exact jj21; (k_with "m:cl" => k_extra "q21"); (k_with "m:slot" => (exact jj22; (k_with "m:cl" => k_extra "q22"); (k_with "m:slot" => (exact jj23; (k_with "m:cl" => k_extra "q23"); (k_with "m:slot" => (exact jj24; (k_with "m:cl" => k_extra "q24"); (k_with "m:slot" => (exact jj25; (k_with "m:cl" => k_extra "q25"); (k_with "m:slot" => (exact jj26; (k_with "m:cl" => k_extra "q26"); (k_with "m:slot" => (exact jj27; (k_with "m:cl" => k_extra "q27"); (k_with "m:slot" => (exact jj28; (k_with "m:cl" => k_extra "q28"); (k_with "m:slot" => (exact jj29; (k_with "m:cl" => k_extra "q29"); (k_with "m:slot" => (exact jj30; (k_with "m:cl" => k_extra "q30"); (k_with "m:slot" => (exact jj31; (k_with "m:cl" => k_extra "q31"); (k_with "m:slot" => (exact jj32; (k_with "m:cl" => k_extra "q32"); (k_with "m:slot" => (exact jj33; (k_with "m:cl" => k_extra "q33"); (k_with "m:slot" => (exact jj34; (k_with "m:cl" => k_extra "q34"); (k_with "m:slot" => (exact jj35; (k_with "m:cl" => k_extra "q35"); (k_with "m:slot" => (exact jj36; (k_with "m:cl" => k_extra "q36"); (k_with "m:slot" => (exact jj37; (k_with "m:cl" => k_extra "q37"); (k_with "m:slot" => (exact jj38; (k_with "m:cl" => k_extra "q38"); (k_with "m:slot" => (exact jj39; (k_with "m:cl" => k_extra "q39"); (k_with "m:slot" => (exact jj40; (k_with "m:cl" => k_extra "q40"); (k_with "m:slot" => (exact jj41; (k_with "m:cl" => k_extra "q41"); (k_with "m:slot" => (exact jj42; (k_with "m:cl" => k_extra "q42"); (k_with "m:slot" => (exact jj43; (k_with "m:cl" => k_extra "q43"); (k_with "m:slot" => (exact jj44; (k_with "m:cl" => k_extra "q44"); (k_with "m:slot" => (exact jj45; (k_with "m:cl" => k_extra "q45"); (k_with "m:slot" => (exact jj46; (k_with "m:cl" => k_extra "q46"); (k_with "m:slot" => (exact jj47; (k_with "m:cl" => k_extra "q47"); (k_with "m:slot" => (exact jj48; (k_with "m:cl" => k_extra "q48"); (k_with "m:slot" => (exact jj49; (k_with "m:cl" => k_extra "q49"); (k_with "m:slot" => (exact jj50; (k_with "m:cl" => k_extra "q50"); (k_with "m:slot" => (exact jj51; (k_with "m:cl" => k_extra "q51"); (k_with "m:slot" => (exact jj52; (k_with "m:cl" => k_extra "q52"); (k_with "m:slot" => (exact jj53; (k_with "m:cl" => k_extra "q53"); (k_with "m:slot" => (exact jj54; (k_with "m:cl" => k_extra "q54"); (k_with "m:slot" => (exact jj55; (k_with "m:cl" => k_extra "q55"); (k_with "m:slot" => (exact jj56; (k_with "m:cl" => k_extra "q56"); (k_with "m:slot" => (exact jj57; (k_with "m:cl" => k_extra "q57"); (k_with "m:slot" => (exact jj58; (k_with "m:cl" => k_extra "q58"); (k_with "m:slot" => (exact jj59; (k_with "m:cl" => k_extra "q59"); (k_with "m:slot" => (exact jj60; (k_with "m:cl" => k_extra "q60"); (k_with "m:slot" => (exact jj61; (k_with "m:cl" => k_extra "q61"); (k_with "m:slot" => (exact jj62; (k_with "m:cl" => k_extra "q62"); (k_with "m:slot" => (exact jj63; (k_with "m:cl" => k_extra "q63"); (k_with "m:slot" => (exact jj64; (k_with "m:cl" => k_extra "q64"); (k_with "m:slot" => (exact jj65; (k_with "m:cl" => k_extra "q65"); (k_with "m:slot" => (exact jj66; (k_with "m:cl" => k_extra "q66"); (k_with "m:slot" => (exact jj67; (k_with "m:cl" => k_extra "q67"); (k_with "m:slot" => (exact jj68; (k_with "m:cl" => k_extra "q68"); (k_with "m:slot" => (exact jj69; (k_with "m:cl" => k_extra "q69"); (k_with "m:slot" => (exact jj70; (k_with "m:cl" => k_extra "q70"); (k_with "m:slot" => (exact jj71; (k_with "m:cl" => k_extra "q71"); (k_with "m:slot" => (exact jj72; (k_with "m:cl" => k_extra "q72"); (k_with "m:slot" => (exact jj73; (k_with "m:cl" => k_extra "q73"); (k_with "m:slot" => (exact jj74; (k_with "m:cl" => k_extra "q74"); (k_with "m:slot" => (exact jj75; (k_with "m:cl" => k_extra "q75"); (k_with "m:slot" => (exact jj76; (k_with "m:cl" => k_extra "q76"); (k_with "m:slot" => (exact jj77; (k_with "m:cl" => k_extra "q77"); (k_with "m:slot" => (exact jj78; (k_with "m:cl" => k_extra "q78"); (k_with "m:slot" => (exact jj79; (k_with "m:cl" => k_extra "q79"); (k_with "m:slot" => (exact jj80; (k_with "m:cl" => k_extra "q80"); (k_with "m:slot" => (exact jj81; (k_with "m:cl" => k_extra "q81"); (k_with "m:slot" => (exact jj82; (k_with "m:cl" => k_extra "q82"); (k_with "m:slot" => (exact jj83; (k_with "m:cl" => k_extra "q83"); (k_with "m:slot" => fail "no slot"))))))))))))))))))))))))))))))))))))))))))))))))))))))))))))))))))))))))))))))))))))))))))))))))))))))))))))))))))))))))))))))))))))))))))))))))))))))))))))))))))))))))); (k_with "m:clr" => skip); refine ⟨?main, trivial⟩; (first | (k_dflt (refine' (us8 neW neProg neLs neMean neFr neFr neLed neNat ?z9sl ((?_ : L8 _ _ _ _ _ _ _ _ _) () ()) :); (case z9sl => k_extra "m:slot"); intros u8 w p loose mean mg mb news l u9; clear u8 u9; k_extra "m:cl")) | (refine (sk8 neW neProg neLs neMean neFr neFr neLed neNat ((?_ : ∀ (w : World) (p : Program) (loose : List Str) (mean : ExcName → Option Value) (mg : Str → Option Value) (mb : Str → Option Value) (news : Led) (l : Addr), _) _ _ _ _ _ _ _ _) :); intros w p loose mean mg mb news l)); (first | (k_dflt (refine' (us7 neNat neInt neInt neInt neTok neTok neTok ?z9sl ((?_ : L7 _ _ _ _ _ _ _ _) () ()) :); (case z9sl => k_extra "m:slot"); intros u8 n ca cb cc ta tb tc u9; clear u8 u9; k_extra "m:cl")) | (refine (sk7 neNat neInt neInt neInt neTok neTok neTok ((?_ : ∀ (n : Nat) (ca : Int) (cb : Int) (cc : Int) (ta : Tok) (tb : Tok) (tc : Tok), _) _ _ _ _ _ _ _) :); intros n ca cb cc ta tb tc)); intros hm hb hT1 hT2 hT3 hU)
  case main =>
    have hTu : ∀ i, i < 3 → turnB (rotL ca cb cc i).1 (rotL ca cb cc i).2.1 (rotL ca cb cc i).2.2 (rotL ca cb cc (i + 1)).1 (rotL ca cb cc (i + 1)).2.1 (rotL ca cb cc (i + 1)).2.2 = true := fun i hi => match i, hi with
      | 0, _ => hT1
      | 1, _ => hT2
      | 2, _ => hT3
    have hbd := rot_bd hb.1 hb.2.1 hb.2.2
    clear hT1 hT2 hT3
    k_extra "m:enterO"
    k_steps
    refine ⟨?_⟩
    refine' up_loop uOwn rfl ?r ?F ?N ?l ?T ?turn ?done
    case r => assumption
    case F => k_asm
    case N => k_asm
    case l => k_mem
    case T => exact m_ne_of (by assumption)
    case turn =>
      ((first | (k_dflt (refine' (us8 neNat neObj neNat neTok neFr neLv neNat neTok ?z9sl ((?_ : L8 _ _ _ _ _ _ _ _ _) () ()) :); (case z9sl => k_extra "m:slot"); intros u8 I o i tok m₁ us D t0 u9; clear u8 u9; k_extra "m:cl")) | (refine (sk8 neNat neObj neNat neTok neFr neLv neNat neTok ((?_ : ∀ (I : Addr) (o : Obj) (i : Nat) (tok : Tok) (m₁ : Str → Option Value) (us : List Value) (D : Addr) (t0 : Tok), _) _ _ _ _ _ _ _ _) :); intros I o i tok m₁ us D t0)); (first | (k_dflt (refine' (us7 neTok neTok neNat neNat neLed neHeap neNat ?z9sl ((?_ : L7 _ _ _ _ _ _ _ _) () ()) :); (case z9sl => k_extra "m:slot"); intros u8 t1 t2 nD nT tl7 h7 tk7 u9; clear u8 u9; k_extra "m:cl")) | (refine (sk7 neTok neTok neNat neNat neLed neHeap neNat ((?_ : ∀ (t1 : Tok) (t2 : Tok) (nD : Nat) (nT : Nat) (tl7 : Led) (h7 : Heap) (tk7 : Nat), _) _ _ _ _ _ _ _) :); intros t1 t2 nD nT tl7 h7 tk7)))
      intros hi same sub7 hT7 hlen7 hR7 hD hTI hI7 F7 N7
      have e1 : m₁ (Str.ofString "turns") = some _ := (same _ (by decide)).trans rfl
      have z1 := size4 (D := D) hlen7 hi
      have hb3 := hbd i
      refine ex6 (show ∃ x0 x1 x2 x3 x4 x5 : Int, (rotL ca cb cc i).1 = x0 ∧ (rotL ca cb cc i).2.1 = x1 ∧ (rotL ca cb cc i).2.2 = x2 ∧ (rotL ca cb cc (i + 1)).1 = x3 ∧ (rotL ca cb cc (i + 1)).2.1 = x4 ∧ (rotL ca cb cc (i + 1)).2.2 = x5 from ⟨_, _, _, _, _, _, rfl, rfl, rfl, rfl, rfl, rfl⟩) ?_
      ((first | (k_dflt (refine' (us6 neInt neInt neInt neInt neInt neInt ?z9sl ((?_ : L6 _ _ _ _ _ _ _) () ()) :); (case z9sl => k_extra "m:slot"); intros u8 x0 x1 x2 x3 x4 x5 u9; clear u8 u9; k_extra "m:cl")) | (refine (sk6 neInt neInt neInt neInt neInt neInt ((?_ : ∀ (x0 : Int) (x1 : Int) (x2 : Int) (x3 : Int) (x4 : Int) (x5 : Int), _) _ _ _ _ _ _) :); intros x0 x1 x2 x3 x4 x5)))
      rintro ⟨E0, E1, E2, E3, E4, E5⟩
      have hT8 := hTu i hi
      rw [E0, E1, E2, E3, E4, E5] at hT8
      rw [E0, E1, E2] at hb3 hD
      refine ex6 (turnB_out hT8) ?_
      ((first | (k_dflt (refine' (us6 neU neU neU neU neU neU ?z9sl ((?_ : L6 _ _ _ _ _ _ _) () ()) :); (case z9sl => k_extra "m:slot"); intros u8 hu li sh x y z u9; clear u8 u9; k_extra "m:cl")) | (refine (sk6 neU neU neU neU neU neU ((?_ : ∀ (hu : UInt64) (li : UInt64) (sh : UInt64) (x : UInt64) (y : UInt64) (z : UInt64), _) _ _ _ _ _ _) :); intros hu li sh x y z)))
      rintro ⟨e11, e12, r11, r12, r13⟩
      clear hTu hbd
      obtain ⟨hb5, hb6, hb7⟩ := hb3
      refine gen_T ?_
      ((first | (k_dflt (refine' (us1 neFl ?z9sl ((?_ : L1 _ _) () ()) :); (case z9sl => k_extra "m:slot"); intros u8 T9 u9; clear u8 u9; k_extra "m:cl")) | (refine (sk1 neFl ((?_ : ∀ (T9 : Flow → Shared → Prop), _) _) :); intros T9)))
      intro hT9
      try dsimp only
      k_steps
      refine hT9 _ _ ?_
      dsimp only [TurnK]
      rename News _ _ _ _ => N9
      rw [← E3, ← E4, ← E5] at N9
      refine up_end (by k_asm) (by k_asm) (by lcg_sub) ?_ sub7 hT7 hI7 hTI (by k_ne) (by k_ne) (m_ne_off1 (by k_extra "m:part")) hlen7 hR7
      repeat (refine Same.set ?_ (by decide))
      exact same
    case done =>
      ((first | (k_dflt (refine' (us7 neFr neLv neNat neNat neLed neHeap neNat ?z9sl ((?_ : L7 _ _ _ _ _ _ _ _) () ()) :); (case z9sl => k_extra "m:slot"); intros u8 m₁ us D nT tl7 h7 tk7 u9; clear u8 u9; k_extra "m:cl")) | (refine (sk7 neFr neLv neNat neNat neLed neHeap neNat ((?_ : ∀ (m₁ : Str → Option Value) (us : List Value) (D : Addr) (nT : Nat) (tl7 : Led) (h7 : Heap) (tk7 : Nat), _) _ _ _ _ _ _ _) :); intros m₁ us D nT tl7 h7 tk7)))
      intros same sub7 hT7 hlen7 hR7 F7 N7
      have e1 : m₁ (Str.ofString "turns") = some _ := (same _ (by decide)).trans rfl
      refine ex5 (hR7.2 0 (by decide)) ?_
      ((first | (k_dflt (refine' (us5 neNat neTok neTok neTok neNat ?z9sl ((?_ : L5 _ _ _ _ _ _) () ()) :); (case z9sl => k_extra "m:slot"); intros u8 D0 a0 a1 a2 n0 u9; clear u8 u9; k_extra "m:cl")) | (refine (sk5 neNat neTok neTok neTok neNat ((?_ : ∀ (D0 : Addr) (a0 : Tok) (a1 : Tok) (a2 : Tok) (n0 : Nat), _) _ _ _ _ _) :); intros D0 a0 a1 a2 n0)))
      rintro ⟨e0, -, i0⟩
      refine ex5 (hR7.2 1 (by decide)) ?_
      ((first | (k_dflt (refine' (us5 neNat neTok neTok neTok neNat ?z9sl ((?_ : L5 _ _ _ _ _ _) () ()) :); (case z9sl => k_extra "m:slot"); intros u8 D1 b0 b1 b2 n1 u9; clear u8 u9; k_extra "m:cl")) | (refine (sk5 neNat neTok neTok neTok neNat ((?_ : ∀ (D1 : Addr) (b0 : Tok) (b1 : Tok) (b2 : Tok) (n1 : Nat), _) _ _ _ _ _) :); intros D1 b0 b1 b2 n1)))
      rintro ⟨e1', q1, i1⟩
      refine ex5 (hR7.2 2 (by decide)) ?_
      ((first | (k_dflt (refine' (us5 neNat neTok neTok neTok neNat ?z9sl ((?_ : L5 _ _ _ _ _ _) () ()) :); (case z9sl => k_extra "m:slot"); intros u8 D2 c0 c1 c2 n2 u9; clear u8 u9; k_extra "m:cl")) | (refine (sk5 neNat neTok neTok neTok neNat ((?_ : ∀ (D2 : Addr) (c0 : Tok) (c1 : Tok) (c2 : Tok) (n2 : Nat), _) _ _ _ _ _) :); intros D2 c0 c1 c2 n2)))
      rintro ⟨e2, q2, i2⟩
      refine ex5 (hR7.2 3 (by decide)) ?_
      ((first | (k_dflt (refine' (us5 neNat neTok neTok neTok neNat ?z9sl ((?_ : L5 _ _ _ _ _ _) () ()) :); (case z9sl => k_extra "m:slot"); intros u8 D3 d0 d1 d2 n3 u9; clear u8 u9; k_extra "m:cl")) | (refine (sk5 neNat neTok neTok neTok neNat ((?_ : ∀ (D3 : Addr) (d0 : Tok) (d1 : Tok) (d2 : Tok) (n3 : Nat), _) _ _ _ _ _) :); intros D3 d0 d1 d2 n3)))
      rintro ⟨e3, -, i3⟩
      have hys : us ++ [.ref D] = [.ref D0, .ref D1, .ref D2, .ref D3] := list4_of (by rw [List.length_append, hlen7]; rfl) e0 e1' e2 e3
      rw [List.push_toArray, hys] at N7
      have hl0 := hR7.1
      rw [hys] at hl0
      have hD0 : D0 = l := Value.ref.inj (Option.some.inj hl0)
      rw [hD0] at N7 i0
      have hc7 := sub7 _ (by k_mem : (L' + 1, _) ∈ _)
      have hm7 := sub7 _ (by k_mem : (l, _) ∈ _)
      have j1 := i1
      rw [(q1 (Nat.succ_pos _)).2] at j1
      have j2 := i2
      rw [(q2 (Nat.succ_pos _)).2] at j2
      have hq1 := fun p (hp : p ∈ news) => (q1 (Nat.succ_pos _)).1 p (by k_extra "m:in")
      have hq2 := fun p (hp : p ∈ news) => (q2 (Nat.succ_pos _)).1 p (by k_extra "m:in")
      have hn7 : ∀ p ∈ news, p ∈ tl7 := fun p hp => sub7 p (by k_extra "m:in")
      clear hys e0 e1' e2 e3 hR7 hlen7 hTu hbd
      try dsimp only
      k_steps
      refine comp_J (some (Str.ofString "turn")) (by k_asm) (by rfl) (by rfl) ⟨fun _ => rfl, fun _ => rfl⟩ (by decide) ?_
      k_steps
      refine' Or.inr ⟨_, _, _, _, _, _, 4, ?nw, (fun C i ys nw => ∃ oc v₀ tl, oc.data = .cell v₀ ∧ nw = (C + 1, oc) :: tl ∧ (∀ p ∈ tl, p.1 ≠ C + 1) ∧ (∀ p ∈ (?nw : Led), p ∈ tl) ∧ ys.length = i ∧ Rots ca cb cc ys tl i), rfl, rfl, ?f, ?n, ?r, ?s1, ?s2, by decide, fun _ _ _ _ _ hQ => wpAny_of_eq rfl hQ, ?_⟩
      case f => k_asm
      case n => k_asm
      case r => assumption
      case s1 => decide
      case s2 => decide
      refine ⟨fun _ _ _ _ _ => trivial, ?start, ?turn, ?done⟩
      case start =>
        intro C hC
        exact ⟨_, _, _, rfl, rfl, fun p hp => Nat.ne_of_lt (Nat.lt_succ_of_lt (hC p hp)), fun p hp => hp, rfl, fun j hj => absurd hj (Nat.not_lt_zero _)⟩
      case turn =>
        ((first | (k_dflt (refine' (us8 neNat neNat neNat neObj neObj neNat neLv neVal ?z9sl ((?_ : L8 _ _ _ _ _ _ _ _ _) () ()) :); (case z9sl => k_extra "m:slot"); intros u8 I C D oI oC i ys v u9; clear u8 u9; k_extra "m:cl")) | (refine (sk8 neNat neNat neNat neObj neObj neNat neLv neVal ((?_ : ∀ (I : Addr) (C : Addr) (D : Addr) (oI : Obj) (oC : Obj) (i : Nat) (ys : List Value) (v : Value), _) _ _ _ _ _ _ _ _) :); intros I C D oI oC i ys v)); (first | (k_dflt (refine' (us6 neFr neLed neHeap neHeap neNat neQE ?z9sl ((?_ : L6 _ _ _ _ _ _ _) () ()) :); (case z9sl => k_extra "m:slot"); intros u8 m₂ news₁ g h tk E' u9; clear u8 u9; k_extra "m:cl")) | (refine (sk6 neFr neLed neHeap neHeap neNat neQE ((?_ : ∀ (m₂ : Str → Option Value) (news₁ : Led) (g : Heap) (h : Heap) (tk : Nat) (E' : Value → Shared → Prop), _) _ _ _ _ _ _) :); intros m₂ news₁ g h tk E')))
        intro hi hP9 hS9
        refine ex1 hP9 ?_
        ((first | (k_dflt (refine' (us1 neTok ?z9sl ((?_ : L1 _ _) () ()) :); (case z9sl => k_extra "m:slot"); intros u8 t u9; clear u8 u9; k_extra "m:cl")) | (refine (sk1 neTok ((?_ : ∀ (t : Tok), _) _) :); intros t)))
        intro hv9
        rw [hv9]
        clear hP9 hv9
        refine ex3 hS9 ?_
        ((first | (k_dflt (refine' (us3 neObj (inferInstance : Nonempty (Option Value)) neLed ?z9sl ((?_ : L3 _ _ _ _) () ()) :); (case z9sl => k_extra "m:slot"); intros u8 oc v₀ tl u9; clear u8 u9; k_extra "m:cl")) | (refine (sk3 neObj (inferInstance : Nonempty (Option Value)) neLed ((?_ : ∀ (oc : Obj) (v₀ : Option Value) (tl : Led), _) _ _ _) :); intros oc v₀ tl)))
        rintro ⟨hd, hnw, hne, hsub, hlen, hR⟩ hC F9 N9 off9 ne9
        rw [hnw] at N9 off9
        clear hS9 hnw
        refine store_compC (by rfl) (by rfl) F9 N9 hd hne off9 ?_
        ((first | (k_dflt (refine' (us2 neHeap neObj ?z9sl ((?_ : L2 _ _ _) () ()) :); (case z9sl => k_extra "m:slot"); intros u8 h8 oc8 u9; clear u8 u9; k_extra "m:cl")) | (refine (sk2 neHeap neObj ((?_ : ∀ (h8 : Heap) (oc8 : Obj), _) _ _) :); intros h8 oc8)))
        intro hd8 F8 N8
        have m1 := hsub _ (by k_mem : (L' + 1, _) ∈ _)
        have m2 := hsub _ (by k_mem : (l, _) ∈ _)
        clear F9 N9
        all_goals (
          refine comp_J none (by k_asm) (by rfl) (by rfl) ⟨fun _ => rfl, fun _ => rfl⟩ (by decide) ?_
          k_steps
          refine' Or.inr ⟨_, _, _, _, _, _, 3, ?nw2, (fun C2 j zs nw => nw = (?nw2 : Led) ∧ RowIs ca cb cc i zs j), rfl, rfl, ?f2, ?n2, ?r2, ?s12, ?s22, by decide, fun _ _ _ _ _ hQ => wpAny_of_eq rfl hQ, ?_⟩
          case f2 => k_asm
          case n2 => k_asm
          case r2 => assumption
          case s12 => decide
          case s22 => decide
          refine ⟨fun _ _ _ _ _ => trivial, fun C hC => ⟨rfl, rfl, fun q hq => absurd hq (Nat.not_lt_zero _)⟩, ?turn2, ?done2⟩
          case turn2 =>
            ((first | (k_dflt (refine' (us8 neNat neNat neNat neObj neObj neNat neLv neVal ?z9sl ((?_ : L8 _ _ _ _ _ _ _ _ _) () ()) :); (case z9sl => k_extra "m:slot"); intros u8 I2 C2 D2 oI2 oC2 j zs v2 u9; clear u8 u9; k_extra "m:cl")) | (refine (sk8 neNat neNat neNat neObj neObj neNat neLv neVal ((?_ : ∀ (I2 : Addr) (C2 : Addr) (D2 : Addr) (oI2 : Obj) (oC2 : Obj) (j : Nat) (zs : List Value) (v2 : Value), _) _ _ _ _ _ _ _ _) :); intros I2 C2 D2 oI2 oC2 j zs v2)); (first | (k_dflt (refine' (us6 neFr neLed neHeap neHeap neNat neQE ?z9sl ((?_ : L6 _ _ _ _ _ _ _) () ()) :); (case z9sl => k_extra "m:slot"); intros u8 m₂ news₁ g2 h7 tk7 E7 u9; clear u8 u9; k_extra "m:cl")) | (refine (sk6 neFr neLed neHeap neHeap neNat neQE ((?_ : ∀ (m₂ : Str → Option Value) (news₁ : Led) (g2 : Heap) (h7 : Heap) (tk7 : Nat) (E7 : Value → Shared → Prop), _) _ _ _ _ _ _) :); intros m₂ news₁ g2 h7 tk7 E7)))
            intro hj hP9
            refine ex1 hP9 ?_
            ((first | (k_dflt (refine' (us1 neTok ?z9sl ((?_ : L1 _ _) () ()) :); (case z9sl => k_extra "m:slot"); intros u8 t u9; clear u8 u9; k_extra "m:cl")) | (refine (sk1 neTok ((?_ : ∀ (t : Tok), _) _) :); intros t)))
            intro hv9
            rw [hv9]
            clear hP9 hv9
            rintro ⟨hnw, hR2⟩ hC2 F7 N7 off7 ne7
            rw [hnw] at N7 off7
            clear hnw
            refine store_comp (by rfl) (by rfl) F7 N7 hC2 off7 ne7 ?_
            ((first | (k_dflt (refine' (us3 neHeap neObj neFr ?z9sl ((?_ : L3 _ _ _ _) () ()) :); (case z9sl => k_extra "m:slot"); intros u8 h6 oC6 m6 u9; clear u8 u9; k_extra "m:cl")) | (refine (sk3 neHeap neObj neFr ((?_ : ∀ (h6 : Heap) (oC6 : Obj) (m6 : Str → Option Value), _) _ _ _) :); intros h6 oC6 m6)))
            intro hC6 hx6 _ F6 N6
            clear F7 N7
            k_steps
            exact TurnC.intro (by k_asm) (by k_asm) _ (fun p hp => hp) hC6 off7 ⟨rfl, RowIs.snoc hR2 (rotQ_pk hi hj)⟩
          case done2 =>
            ((first | (k_dflt (refine' (us6 neNat neNat neLv neLed neHeap neNat ?z9sl ((?_ : L6 _ _ _ _ _ _ _) () ()) :); (case z9sl => k_extra "m:slot"); intros u8 C2 D2 zs nw h5 tk5 u9; clear u8 u9; k_extra "m:cl")) | (refine (sk6 neNat neNat neLv neLed neHeap neNat ((?_ : ∀ (C2 : Addr) (D2 : Addr) (zs : List Value) (nw : Led) (h5 : Heap) (tk5 : Nat), _) _ _ _ _ _ _) :); intros C2 D2 zs nw h5 tk5)))
            intros hJ5 F5 N5 o5
            obtain ⟨hnw, hR5⟩ := hJ5
            rw [hnw] at N5 o5
            refine ex3 hR5.three ?_
            ((first | (k_dflt (refine' (us3 neTok neTok neTok ?z9sl ((?_ : L3 _ _ _ _) () ()) :); (case z9sl => k_extra "m:slot"); intros u8 t0 t1 t2 u9; clear u8 u9; k_extra "m:cl")) | (refine (sk3 neTok neTok neTok ((?_ : ∀ (t0 : Tok) (t1 : Tok) (t2 : Tok), _) _ _ _) :); intros t0 t1 t2)))
            intro hz9
            rw [hz9] at N5
            clear hnw hz9
            refine TurnC.intro F5 N5 ((C + 1, oc8) :: (D2, _) :: tl) (by lcg_sub) hC ⟨off9.1, ⟨Ne.symm o5.1, Ne.symm o5.2.1, Ne.symm o5.2.2.1⟩, off9.2⟩ ⟨oc8, _, (D2, _) :: tl, hd8, rfl, ?_, fun p hp => .tail _ (hsub p hp), ?_, Rots.snoc hlen hR⟩
            · intro p hp
              rcases List.mem_cons.mp hp with rfl | hp
              · exact Ne.symm o5.2.2.2.1
              · exact hne p hp
            · simp [hlen])
      case done =>
        ((first | (k_dflt (refine' (us6 neNat neNat neLv neLed neHeap neNat ?z9sl ((?_ : L6 _ _ _ _ _ _ _) () ()) :); (case z9sl => k_extra "m:slot"); intros u8 C D ys nw h4 tk4 u9; clear u8 u9; k_extra "m:cl")) | (refine (sk6 neNat neNat neLv neLed neHeap neNat ((?_ : ∀ (C : Addr) (D : Addr) (ys : List Value) (nw : Led) (h4 : Heap) (tk4 : Nat), _) _ _ _ _ _ _) :); intros C D ys nw h4 tk4)))
        intro hS9
        refine ex3 hS9 ?_
        ((first | (k_dflt (refine' (us3 neObj (inferInstance : Nonempty (Option Value)) neLed ?z9sl ((?_ : L3 _ _ _ _) () ()) :); (case z9sl => k_extra "m:slot"); intros u8 oc v₀ tl u9; clear u8 u9; k_extra "m:cl")) | (refine (sk3 neObj (inferInstance : Nonempty (Option Value)) neLed ((?_ : ∀ (oc : Obj) (v₀ : Option Value) (tl : Led), _) _ _ _) :); intros oc v₀ tl)))
        rintro ⟨hd, hnw, hne, hsub, hlen, hR⟩ F4 N4 o4
        rw [hnw] at N4 o4
        clear hS9 hnw
        refine ex4 (hR 0 (by decide)) ?_
        ((first | (k_dflt (refine' (us4 neNat neTok neTok neTok ?z9sl ((?_ : L4 _ _ _ _ _) () ()) :); (case z9sl => k_extra "m:slot"); intros u8 D0 a0 a1 a2 u9; clear u8 u9; k_extra "m:cl")) | (refine (sk4 neNat neTok neTok neTok ((?_ : ∀ (D0 : Addr) (a0 : Tok) (a1 : Tok) (a2 : Tok), _) _ _ _ _) :); intros D0 a0 a1 a2)))
        rintro ⟨e0, i0⟩
        refine ex4 (hR 1 (by decide)) ?_
        ((first | (k_dflt (refine' (us4 neNat neTok neTok neTok ?z9sl ((?_ : L4 _ _ _ _ _) () ()) :); (case z9sl => k_extra "m:slot"); intros u8 D1 b0 b1 b2 u9; clear u8 u9; k_extra "m:cl")) | (refine (sk4 neNat neTok neTok neTok ((?_ : ∀ (D1 : Addr) (b0 : Tok) (b1 : Tok) (b2 : Tok), _) _ _ _ _) :); intros D1 b0 b1 b2)))
        rintro ⟨e1, i1⟩
        refine ex4 (hR 2 (by decide)) ?_
        ((first | (k_dflt (refine' (us4 neNat neTok neTok neTok ?z9sl ((?_ : L4 _ _ _ _ _) () ()) :); (case z9sl => k_extra "m:slot"); intros u8 D2 c0 c1 c2 u9; clear u8 u9; k_extra "m:cl")) | (refine (sk4 neNat neTok neTok neTok ((?_ : ∀ (D2 : Addr) (c0 : Tok) (c1 : Tok) (c2 : Tok), _) _ _ _ _) :); intros D2 c0 c1 c2)))
        rintro ⟨e2, i2⟩
        refine ex4 (hR 3 (by decide)) ?_
        ((first | (k_dflt (refine' (us4 neNat neTok neTok neTok ?z9sl ((?_ : L4 _ _ _ _ _) () ()) :); (case z9sl => k_extra "m:slot"); intros u8 D3 d0 d1 d2 u9; clear u8 u9; k_extra "m:cl")) | (refine (sk4 neNat neTok neTok neTok ((?_ : ∀ (D3 : Addr) (d0 : Tok) (d1 : Tok) (d2 : Tok), _) _ _ _ _) :); intros D3 d0 d1 d2)))
        rintro ⟨e3, i3⟩
        have hys : ys = [.ref D0, .ref D1, .ref D2, .ref D3] := list4_of hlen e0 e1 e2 e3
        rw [hys] at N4
        have N3 := fun p (hp : p ∈ (D, LCg.lst [.ref D0, .ref D1, .ref D2, .ref D3]) :: (D0, LCg.lst [.int ca a0, .int cb a1, .int cc a2]) :: (D1, LCg.lst [.int cc b0, .int ca b1, .int cb b2]) :: (D2, LCg.lst [.int cb c0, .int cc c1, .int ca c2]) :: (D3, LCg.lst [.int ca d0, .int cb d1, .int cc d2]) :: _) => N4 p (by
          rcases List.mem_cons.mp hp with rfl | hp
          · exact .head _
          rcases List.mem_cons.mp hp with rfl | hp
          · exact .tail _ (.tail _ i0)
          rcases List.mem_cons.mp hp with rfl | hp
          · exact .tail _ (.tail _ i1)
          rcases List.mem_cons.mp hp with rfl | hp
          · exact .tail _ (.tail _ i2)
          rcases List.mem_cons.mp hp with rfl | hp
          · exact .tail _ (.tail _ i3)
          · exact .tail _ (.tail _ (hsub p hp)))
        have N2 : News _ _ _ _ := N3
        clear N3 N4 hR hsub hne o4
        try dsimp only
        k_steps
        all_goals obtain ⟨r1, r2, r3⟩ := hret
        all_goals first
          | exact ret_old (r1 (by with_reducible assumption : (rotL ca cb cc 0).2.1.fmod 3 = (rotL ca cb cc 0).2.2.fmod 3)) (by with_reducible assumption) (by with_reducible assumption) (fun p hp => by have hq := hn7 p hp; k_extra "m:in")
          | exact ret_new (r2 (by with_reducible assumption : ¬ (rotL ca cb cc 0).2.1.fmod 3 = (rotL ca cb cc 0).2.2.fmod 3) (by with_reducible assumption : (rotL ca cb cc 1).2.1.fmod 3 = (rotL ca cb cc 1).2.2.fmod 3) _ _ _ _) (by with_reducible assumption) (by with_reducible assumption) (List.forall_mem_cons.mpr ⟨by have hq := j1; k_extra "m:in", fun p hp => by have hq := hn7 p hp; k_extra "m:in"⟩) hq1
          | exact ret_new (r3 (by with_reducible assumption : ¬ (rotL ca cb cc 0).2.1.fmod 3 = (rotL ca cb cc 0).2.2.fmod 3) (by with_reducible assumption : ¬ (rotL ca cb cc 1).2.1.fmod 3 = (rotL ca cb cc 1).2.2.fmod 3) (by with_reducible assumption : (rotL ca cb cc 2).2.1.fmod 3 = (rotL ca cb cc 2).2.2.fmod 3) _ _ _ _) (by with_reducible assumption) (by with_reducible assumption) (List.forall_mem_cons.mpr ⟨by have hq := j2; k_extra "m:in", fun p hp => by have hq := hn7 p hp; k_extra "m:in"⟩) hq2
          | (have z1 : ¬ (rotL ca cb cc 0).2.1.fmod 3 = (rotL ca cb cc 0).2.2.fmod 3 := by with_reducible assumption
             have z2 : ¬ (rotL ca cb cc 1).2.1.fmod 3 = (rotL ca cb cc 1).2.2.fmod 3 := by with_reducible assumption
             have z3 : ¬ (rotL ca cb cc 2).2.1.fmod 3 = (rotL ca cb cc 2).2.2.fmod 3 := by with_reducible assumption
             exact absurd hU (fun z => z.elim z1 fun z => z.elim z2 z3))
          | (refine ff_absurd (by with_reducible assumption) ?_
             simp [rotL])
  (all_goals k_extra "m:pour"); (k_with "m:slot" => fail "no slot")
end
end PUpr
section PUp2
noncomputable abbrev ClaimV (w : World) (p : Program) (loose : List Str) (mean : ExcName → Option Value) (mg mb : Str → Option Value) (f : Value) (n : Nat) (vs : List Value) (news : Led) (Ret : (Led → Value → Prop) → Prop) : Prop :=
  ∀ (dp un : Nat) (gd : Option (List Code)) (cn : Str) (cs : Scope) (a : Addr) (ccd : Value) (cl : List (Str × Addr)) (outer : List Env) (A₀ : Around) (base h₀ : Heap) (L : Addr) (m : Str → Option Value) (s : Shared) (Q E : Value → Shared → Prop),
    Below A₀ base outer h₀ → Fr h₀ L s.heap m → (heapK w.params).In h₀ → News h₀ L s.heap news → Top p loose mean mg mb h₀ → cs.kind = .function → dp + n < recursionLimit → un + 8 * n < cLine →
    Ret (fun tl r => ∀ (h' : Heap) (tk' : Nat), Fr h₀ L h' m → News h₀ L h' (tl ++ news) → Q r { s with heap := h', toks := tk' }) →
    wpAny (model PySem.Challenge.rw_kl0382_01.row.toRowW.prog w) (ktrTop dp un gd cn cs L a ccd cl outer) (call f vs) Q E s
noncomputable def upF (a b c : Int) : Int × Int × Int :=
  if Int.fmod b 3 = Int.fmod c 3 then (a, b, c) else if Int.fmod a 3 = Int.fmod b 3 then (c, a, b) else (b, c, a)
noncomputable abbrev UpOk (a b c : Int) : Prop := turnB a b c c a b = true ∧ turnB c a b b c a = true ∧ turnB b c a a b c = true ∧ (Int.fmod b 3 = Int.fmod c 3 ∨ Int.fmod a 3 = Int.fmod b 3 ∨ Int.fmod c 3 = Int.fmod a 3)
theorem upright_v {w : World} {p : Program} {loose : List Str} {mean : ExcName → Option Value} {mg mb : Str → Option Value} {news : Led} {l : Addr} {n : Nat} {ca cb cc : Int} {ta tb tc : Tok} (hm : (l, listOf #[.int ca ta, .int cb tb, .int cc tc] n) ∈ news) (hb : (0 ≤ ca ∧ ca < 64) ∧ (0 ≤ cb ∧ cb < 64) ∧ (0 ≤ cc ∧ cc < 64)) (hT : UpOk ca cb cc) :
    ClaimV w p loose mean mg mb (.ref 287) 20 [.ref l] news (fun K => ∀ l' k t0 t1 t2, K [(l', listOf #[.int (upF ca cb cc).1 t0, .int (upF ca cb cc).2.1 t1, .int (upF ca cb cc).2.2 t2] k)] (.ref l')) := by
  intro dp un gd cn cs a ccd cl outer A₀ base h₀ L m s Q E B F X N T hk hd9 hu9 hret
  refine upright_c hm hb hT.1 hT.2.1 hT.2.2.1 hT.2.2.2 dp un gd cn cs a ccd cl outer A₀ base h₀ L m s Q E B F X N T hk hd9 hu9 ⟨fun e => ?_, fun e1 e2 => ?_, fun e1 e2 e3 => ?_⟩
  · intro h' tk' F' N' _
    have hu : upF ca cb cc = (ca, cb, cc) := by unfold upF; rw [if_pos e]
    rw [hu] at hret
    refine hret l n ta tb tc h' tk' F' fun p hp => ?_
    rcases List.mem_append.mp hp with h | h
    · rw [List.mem_singleton.mp h]; exact N' _ (by simpa using hm)
    · exact N' p (by simpa using h)
  · intro D t0 t1 t2 h' tk' F' N' _
    have hu : upF ca cb cc = (cc, ca, cb) := by unfold upF; rw [if_neg e1, if_pos e2]
    rw [hu] at hret
    exact hret D _ t0 t1 t2 h' tk' F' N'
  · intro D t0 t1 t2 h' tk' F' N' _
    have hu : upF ca cb cc = (cb, cc, ca) := by unfold upF; rw [if_neg e1, if_neg e2]
    rw [hu] at hret
    exact hret D _ t0 t1 t2 h' tk' F' N'
end PUp2
section PPF7
open PySem.Float64
theorem te1 {mx n : Nat} (h : n ≤ mx) : (((2 * mx - n : Nat) : Int) + n) * 2 ^ 43 = ((mx - n : Nat) + n : Int) * 2 ^ 44 := by omega
theorem te2 {mx n : Nat} (h : n ≤ mx) : (((2 * mx - n : Nat) : Int) - n) * 2 ^ 43 = ((mx - n : Nat) : Int) * 2 ^ 44 := by omega
theorem te3 {mx n : Nat} (hm : mx < 64) : 2 * mx - n < 128 := by omega
theorem te4 {mx n : Nat} (h : n ≤ mx) (hm : mx < 64) : n ≤ 2 * mx - n ∧ 2 * mx - n + n < 128 := by omega
theorem te5 {mx n d a : Nat} (h : n ≤ mx) (ha : a + d = mx) : mx - n + n - d = a := by rw [Nat.sub_add_cancel h, ← ha, Nat.add_sub_cancel]
theorem te6 {mx n : Nat} (h : n ≤ mx) (hm : mx < 64) : mx - n + n < 64 := by rw [Nat.sub_add_cancel h]; exact hm
theorem te7 {a mx : Nat} (h : a ≤ mx) (hm : mx < 64) : a < 512 := by omega
theorem te8 {c0 : Int} (h : 2 ^ 43 ≤ c0) : 2 < c0 := by omega
theorem turn_of {a b c mx n da db dc : Nat} (h : Shp a b c mx n da db dc) (h5 : n ≤ 5) (hp : patOk da db dc n = true) : turnB (a : Int) b c c a b = true := by
  unfold patOk turnD at hp
  simp only [Bool.and_eq_true] at hp
  obtain ⟨p1, p2, p3⟩ := hp
  have hn : 1 ≤ n ∧ n ≤ 5 := ⟨h.hn, h5⟩
  unfold turnB
  rw [q64_Fl (te7 (Nat.le.intro h.ha) h.hmx), q64_Fl (te7 (Nat.le.intro h.hb) h.hmx), q64_Fl (te7 (Nat.le.intro h.hc) h.hmx), hls_D h]
  obtain ⟨c0, s1, s2, -⟩ := shD_nr (te3 h.hmx) hn (te4 h.nm h.hmx)
  have hr := rgb_D (h := Float64.add (hueD da db dc n) third) (l := Fl (2 * mx - n)) (cmp_pos s1 (te8 s2))
  have hi := hi_nr (te3 h.hmx) hn (te4 h.nm h.hmx)
  have lo := lo_nr (te3 h.hmx) hn (te4 h.nm h.hmx)
  rw [te1 h.nm] at hi
  rw [te2 h.nm] at lo
  dsimp only
  rw [hr]
  dsimp only
  have k1 := chan_of hn h.lc (te6 h.nm h.hmx) lo hi p1
  have k2 := chan_of hn h.la (te6 h.nm h.hmx) lo hi p2
  have k3 := chan_of hn h.lb (te6 h.nm h.hmx) lo hi p3
  rw [te5 h.nm h.hc] at k1
  rw [te5 h.nm h.ha] at k2
  rw [te5 h.nm h.hb] at k3
  rw [k1, k2, k3]
  rfl
noncomputable def mxN (p q r : Nat) : Nat := max p (max q r)
noncomputable def rgN (p q r : Nat) : Nat := mxN p q r - min p (min q r)
noncomputable def shpB (p q r : Nat) : Bool :=
  decide ((p + (mxN p q r - p) = mxN p q r ∧ q + (mxN p q r - q) = mxN p q r ∧ r + (mxN p q r - r) = mxN p q r) ∧ (mxN p q r ≤ 5 ∧ 1 ≤ rgN p q r ∧ rgN p q r ≤ 5) ∧
    (mxN p q r - p = 0 ∨ mxN p q r - q = 0 ∨ mxN p q r - r = 0) ∧ (mxN p q r - p = rgN p q r ∨ mxN p q r - q = rgN p q r ∨ mxN p q r - r = rgN p q r) ∧ (mxN p q r - p ≤ rgN p q r ∧ mxN p q r - q ≤ rgN p q r ∧ mxN p q r - r ≤ rgN p q r))
theorem shp_of {w p q r : Nat} (h : shpB p q r = true) (hw : w + mxN p q r < 64) : Shp (w + p) (w + q) (w + r) (w + mxN p q r) (rgN p q r) (mxN p q r - p) (mxN p q r - q) (mxN p q r - r) ∧ rgN p q r ≤ 5 := by
  obtain ⟨⟨a1, a2, a3⟩, ⟨b1, b2, b3⟩, c, d, e1, e2, e3⟩ := of_decide_eq_true h
  exact ⟨⟨(Nat.add_assoc _ _ _).trans (congrArg (w + ·) a1), (Nat.add_assoc _ _ _).trans (congrArg (w + ·) a2), (Nat.add_assoc _ _ _).trans (congrArg (w + ·) a3), hw, b2, c, d, e1, e2, e3⟩, b3⟩
theorem shp_all : ∀ p, p < 6 → ∀ q, q < 6 → ∀ r, r < 6 → (p + q + r) % 3 ≠ 0 → (shpB p q r && (Nat.ble (mxN p q r) 5 && patOk (mxN p q r - p) (mxN p q r - q) (mxN p q r - r) (rgN p q r))) = true := by decide +kernel
theorem turn_w {w p q r : Nat} (hp : p < 6) (hq : q < 6) (hr : r < 6) (hs : (p + q + r) % 3 ≠ 0) (hw : w < 59) : turnB ((w + p : Nat) : Int) ((w + q : Nat) : Int) ((w + r : Nat) : Int) ((w + r : Nat) : Int) ((w + p : Nat) : Int) ((w + q : Nat) : Int) = true := by
  have h := shp_all p hp q hq r hr hs
  simp only [Bool.and_eq_true, Nat.ble_eq] at h
  obtain ⟨h1, h2, h3⟩ := h
  obtain ⟨h4, h5⟩ := shp_of (w := w) h1 (Nat.lt_of_lt_of_le (Nat.add_lt_add_of_lt_of_le hw h2) (by decide))
  exact turn_of h4 h5 h3
theorem up_res : ∀ p, p < 6 → ∀ q, q < 6 → ∀ r, r < 6 → decide ((p + q + r) % 3 = 0 ∨ q % 3 = r % 3 ∨ p % 3 = q % 3 ∨ r % 3 = p % 3) = true := by decide +kernel
theorem bump : ∀ p, p < 6 → ∀ q, q < 6 → ∀ r, r < 6 → (p + q + r) % 3 = 0 → ((p + 1) % 6 + q + r) % 3 ≠ 0 := by decide
theorem fmodN (k n : Nat) : Int.fmod (k : Int) (n : Int) = ((k % n : Nat) : Int) := Int.fmod_eq_emod_of_nonneg _ (Int.natCast_nonneg _)
theorem fdivN (k n : Nat) : Int.fdiv (k : Int) (n : Int) = ((k / n : Nat) : Int) := Int.fdiv_eq_ediv_of_nonneg _ (Int.natCast_nonneg _)
/-- what is drawn: a white, and parts to five, no multiple of three together -/
theorem drawn_is {n : Int} (h : 0 ≤ n ∧ n < 12744) : ∃ w p q r : Nat, w < 59 ∧ p < 6 ∧ q < 6 ∧ r < 6 ∧ (p + q + r) % 3 ≠ 0 ∧ drawnF n = (((w + p : Nat) : Int), ((w + q : Nat) : Int), ((w + r : Nat) : Int)) := by
  obtain ⟨k, rfl⟩ := Int.eq_ofNat_of_zero_le h.1
  have hk : k / 216 < 59 := Nat.div_lt_of_lt_mul (Int.ofNat_lt.mp h.2)
  have e0 : Int.fdiv (k : Int) 216 = ((k / 216 : Nat) : Int) := fdivN k 216
  have e1 : Int.fmod (k : Int) 6 = ((k % 6 : Nat) : Int) := fmodN k 6
  have e2 : Int.fmod (Int.fdiv (k : Int) 6) 6 = ((k / 6 % 6 : Nat) : Int) := (congrArg (Int.fmod · 6) (fdivN k 6)).trans (fmodN _ 6)
  have e3 : Int.fmod (Int.fdiv (k : Int) 36) 6 = ((k / 36 % 6 : Nat) : Int) := (congrArg (Int.fmod · 6) (fdivN k 36)).trans (fmodN _ 6)
  unfold drawnF
  rw [e0, e1, e2, e3]
  have h1 : k % 6 < 6 := Nat.mod_lt _ (by decide)
  have h2 : k / 6 % 6 < 6 := Nat.mod_lt _ (by decide)
  have h3 : k / 36 % 6 < 6 := Nat.mod_lt _ (by decide)
  generalize k / 216 = w at *
  generalize k % 6 = p at *
  generalize k / 6 % 6 = q at *
  generalize k / 36 % 6 = r at *
  have e4 : Int.fmod ((p : Int) + 1) 6 = (((p + 1) % 6 : Nat) : Int) := fmodN (p + 1) 6
  have e5 : Int.fmod ((p : Int) + ((q : Int) + ((r : Int) + 0))) 3 = (((p + (q + (r + 0))) % 3 : Nat) : Int) := fmodN _ 3
  rw [e4, e5, Nat.add_zero, ← Nat.add_assoc]
  by_cases hc : (p + q + r) % 3 = 0
  · rw [if_pos (by rw [hc]; rfl)]
    exact ⟨w, (p + 1) % 6, q, r, hk, Nat.mod_lt _ (by decide), h2, h3, bump p h1 q h2 r h3 hc, rfl⟩
  · rw [if_neg (show ¬ (((p + q + r) % 3 : Nat) : Int) = 0 from fun e => hc (Int.ofNat.inj e))]
    exact ⟨w, p, q, r, hk, h1, h2, h3, hc, rfl⟩
theorem mod_w {w q r : Nat} (h : q % 3 = r % 3) : Int.fmod ((w + q : Nat) : Int) 3 = Int.fmod ((w + r : Nat) : Int) 3 := by
  have e1 := fmodN (w + q) 3
  have e2 := fmodN (w + r) 3
  have : (w + q) % 3 = (w + r) % 3 := by rw [Nat.add_mod, h, ← Nat.add_mod]
  exact e1.trans ((congrArg (fun x : Nat => (x : Int)) this).trans e2.symm)
theorem drawn_up {n : Int} (h : 0 ≤ n ∧ n < 12744) : UpOk (drawnF n).1 (drawnF n).2.1 (drawnF n).2.2 := by
  obtain ⟨w, p, q, r, hw, hp, hq, hr, hs, e⟩ := drawn_is h
  rw [e]
  have hs2 : (r + p + q) % 3 ≠ 0 := fun z => hs (by rw [← z]; congr 1; ac_rfl)
  have hs3 : (q + r + p) % 3 ≠ 0 := fun z => hs (by rw [← z]; congr 1; ac_rfl)
  exact ⟨turn_w hp hq hr hs hw, turn_w hr hp hq hs2 hw, turn_w hq hr hp hs3 hw, ((of_decide_eq_true (up_res p hp q hq r hr)).resolve_left hs).imp mod_w (Or.imp mod_w mod_w)⟩
end PPF7
section PPF8
open PySem.Float64
noncomputable def dq (n d : Nat) : Nat := d * 2 ^ 50 / n
noncomputable def sq (n mx : Nat) : Nat := n * 2 ^ 50 / mx
noncomputable def qB (f : UInt64) (n d : Nat) : Bool := nrB f (dq n d) 64
noncomputable def tB (f : UInt64) (n d : Nat) : Bool := nrB (sub f1 f) (dq n d) 64
noncomputable def sixB (i : Int) (f : UInt64) (x y z n : Nat) : Bool :=
  if i.fmod 6 = 0 then x == 0 && (tB f n y && z == n) else
  if i.fmod 6 = 1 then qB f n x && (y == 0 && z == n) else
  if i.fmod 6 = 2 then x == n && (y == 0 && tB f n z) else
  if i.fmod 6 = 3 then x == n && (qB f n y && z == 0) else
  if i.fmod 6 = 4 then tB f n x && (y == n && z == 0) else
  if i.fmod 6 = 5 then x == 0 && (y == n && qB f n z) else false
noncomputable def hsvP (da db dc n th : Nat) : Bool :=
  hkB (hueD da db dc n) th && (isFinite (mul (add (hueD da db dc n) third) f6) && (decide ((Flt.toInt truncOf (mul (add (hueD da db dc n) third) f6)).natAbs < 2 ^ 1024 - 2 ^ 970) &&
    sixB (Flt.toInt truncOf (mul (add (hueD da db dc n) third) f6)) (sub (mul (add (hueD da db dc n) third) f6) (ofInt (Flt.toInt truncOf (mul (add (hueD da db dc n) third) f6)))) dc da db n))
theorem hsv_D {a b c mx n da db dc : Nat} (h : Shp a b c mx n da db dc) :
    hsvF (Fl (2 * a)) (Fl (2 * b)) (Fl (2 * c)) = some (hueD da db dc n, div (Fl (2 * n)) (Fl (2 * mx)), Fl (2 * mx)) := by
  unfold hsvF
  rw [h.mx3, h.mn3, Fl_sub h.m2 (le2 (Nat.sub_le _ _)), rng2 h.nm]
  unfold hsvG
  rw [cmp_eq_Fl (lt2 (Nat.sub_le _ _) h.hmx) h.m2, hue_D h]
  simp only [decide_eq_true_eq, Bool.false_eq_true, tb8 h.nm h.hn, if_false, notz h.m2 (Nat.mul_ne_zero (by decide) (Nat.ne_of_gt (Nat.lt_of_lt_of_le h.hn h.nm))), notz h.n2 (Nat.mul_ne_zero (by decide) (Nat.ne_of_gt h.hn))]
theorem s_nr {mx n : Nat} (hmx : mx < 64) (hn : 1 ≤ n ∧ n ≤ mx) : Nr (div (Fl (2 * n)) (Fl (2 * mx))) ((sq n mx : Nat) : Int) 2 ∧ 2 ^ 43 ≤ sq n mx ∧ sq n mx ≤ 2 ^ 50 := by
  unfold sq
  have d1 := Nat.mul_div_le (n * 2 ^ 50) mx
  have d2 := Nat.lt_mul_div_succ (n * 2 ^ 50) (by omega : 0 < mx)
  have l1 : 2 ^ 43 ≤ n * 2 ^ 50 / mx := (Nat.le_div_iff_mul_le (by omega)).mpr (by omega)
  have l2 : n * 2 ^ 50 / mx ≤ 2 ^ 50 := Nat.div_le_of_le_mul (Nat.mul_le_mul_right _ hn.2)
  generalize n * 2 ^ 50 / mx = k at *
  have z1 : ((mx * k : Nat) : Int) = (k : Int) * mx := by rw [Int.natCast_mul, Int.mul_comm]
  have z2 : ((mx * (k + 1) : Nat) : Int) = (k : Int) * mx + mx := by rw [Nat.mul_add, Nat.mul_one, Int.natCast_add, z1]
  refine ⟨Fl_div (by lia) (by omega) (by lia) (by lia) ⟨?_, ?_⟩, l1, l2⟩
  · have : (k : Int) * ((2 * mx : Nat) : Int) = 2 * ((k : Int) * mx) := by simp; grind
    lia
  · have : ((k : Int) + 1) * ((2 * mx : Nat) : Int) = 2 * ((k : Int) * mx + mx) := by simp; grind
    omega
/-- the numbers of v * (1 - s * g) -/
noncomputable def numS (mx n d : Nat) : Bool :=
  Nat.ble (((sq n mx) + 2 + 1) * ((dq n d) + 64 + 1)) (2 ^ 103) && (Nat.ble ((sq n mx) * (dq n d) + ((sq n mx) * 64 + (dq n d) * 2 + 2 * 64) + 2 ^ 50) (((sq d mx) + 128) * 2 ^ 50) && (Nat.ble ((sq d mx) * 2 ^ 50 + ((sq n mx) * 64 + (dq n d) * 2 + 2 * 64) + 2 ^ 50) ((sq n mx) * (dq n d) + 128 * 2 ^ 50) && (Nat.ble (sq d mx) (2 ^ 50) &&
    (Nat.ble (mx * 2 ^ 44 * (2 ^ 50 - (sq d mx)) + mx * 2 ^ 44 * 129 + 2 ^ 50) (((mx - d) * 2 ^ 44 + 1000) * 2 ^ 50) && Nat.ble ((mx - d) * 2 ^ 44 * 2 ^ 50 + mx * 2 ^ 44 * 129 + 2 ^ 50) (mx * 2 ^ 44 * (2 ^ 50 - (sq d mx)) + 1000 * 2 ^ 50)))))
theorem num_s : ∀ mx, mx < 64 → ∀ n, n ≤ 3 → ∀ d, d ≤ n → 1 ≤ n → n ≤ mx → numS mx n d = true := by decide +kernel
theorem up_nr {g : UInt64} {mx n d : Nat} (hmx : mx < 64) (hn : 1 ≤ n ∧ n ≤ 3) (hnm : n ≤ mx) (hd : d ≤ n) (hg : Nr g (dq n d) 64) :
    Nr (mul (Fl (2 * mx)) (sub f1 (mul (div (Fl (2 * n)) (Fl (2 * mx))) g))) (((mx - d) * 2 ^ 44 : Nat) : Int) 1000 := by
  obtain ⟨s1, s2, s3⟩ := s_nr hmx ⟨hn.1, hnm⟩
  have hnum := num_s mx hmx n hn.2 d hd hn.1 hnm
  unfold numS at hnum
  simp only [Bool.and_eq_true, Nat.ble_eq] at hnum
  obtain ⟨n1, n2, n3, n4, n5, n6⟩ := hnum
  have hm : Nr (mul (div (Fl (2 * n)) (Fl (2 * mx))) g) ((sq d mx : Nat) : Int) 128 := by
    have l5 : (0 : Int) ≤ (sq n mx : Int) ∧ (0 : Int) ≤ (dq n d : Int) := ⟨Int.natCast_nonneg _, Int.natCast_nonneg _⟩
    refine Nr.mul s1 hg ⟨l5.1, l5.2, by decide, by decide⟩ ?_ ?_ ?_
    · have z := Int.ofNat_le.mpr n1
      simp only [Int.natCast_add, Int.natCast_mul, Int.natCast_pow, Int.cast_ofNat_Int] at z ⊢
      exact z
    · rw [← Int.natCast_mul]
      clear n1 n3 n5 n6 hg s1
      generalize sq n mx * dq n d = A at *
      omega
    · rw [← Int.natCast_mul]
      clear n1 n2 n5 n6 hg s1
      generalize sq n mx * dq n d = A at *
      omega
  have h1 : Nr f1 (2 ^ 50) 0 := by
    have := Fl_nr (n := 128) (by omega)
    rw [← f1_Fl] at this
    exact this
  have hv := Fl_nr (n := 2 * mx) (by omega)
  have hs := Nr.sub h1 hm (by omega)
  have ⟨m, hm9⟩ : ∃ m, m = sq d mx := ⟨_, rfl⟩
  rw [← hm9] at n4 n5 n6 hs
  clear n1 n2 n3 hm9 hm hg s1 h1
  have ev : ((2 * mx : Nat) : Int) * 2 ^ 43 = ((mx * 2 ^ 44 : Nat) : Int) := by omega
  have em : (2 : Int) ^ 50 - (m : Int) = ((2 ^ 50 - m : Nat) : Int) := by omega
  rw [ev] at hv
  rw [em] at hs
  refine Nr.mul hv hs (by omega) ?_ ?_ ?_
  · have := Int.mul_le_mul (by omega : ((mx * 2 ^ 44 : Nat) : Int) + 0 + 1 ≤ 2 ^ 50 + 1) (by omega : ((2 ^ 50 - m : Nat) : Int) + (0 + 128 + 1) + 1 ≤ 2 ^ 50 + 130) (by omega) (by decide)
    exact Int.le_trans this (by decide)
  · rw [← Int.natCast_mul]
    clear n6 hv hs
    have ⟨A, hA⟩ : ∃ A, A = mx * 2 ^ 44 * (2 ^ 50 - m) := ⟨_, rfl⟩
    rw [← hA] at n5 ⊢
    omega
  · rw [← Int.natCast_mul]
    clear n5 hv hs
    have ⟨A, hA⟩ : ∃ A, A = mx * 2 ^ 44 * (2 ^ 50 - m) := ⟨_, rfl⟩
    rw [← hA] at n6 ⊢
    omega
theorem up_p {mx n : Nat} (hmx : mx < 64) (hn : 1 ≤ n ∧ n ≤ 3) (hnm : n ≤ mx) : Nr (mul (Fl (2 * mx)) (sub f1 (div (Fl (2 * n)) (Fl (2 * mx))))) (((mx - n) * 2 ^ 44 : Nat) : Int) 1000 := by
  obtain ⟨s1, s2, s3⟩ := s_nr hmx ⟨hn.1, hnm⟩
  have hnum := num_s mx hmx n hn.2 n (Nat.le_refl _) hn.1 hnm
  unfold numS at hnum
  simp only [Bool.and_eq_true, Nat.ble_eq] at hnum
  obtain ⟨-, -, -, n4, n5, n6⟩ := hnum
  have h1 : Nr f1 (2 ^ 50) 0 := by
    have := Fl_nr (n := 128) (by omega)
    rw [← f1_Fl] at this
    exact this
  have hv := Fl_nr (n := 2 * mx) (by omega)
  have hs := Nr.mono (Nr.sub h1 s1 (by omega)) (by decide : (0 + 2 + 1 : Int) ≤ 129)
  have ⟨m, hm9⟩ : ∃ m, m = sq n mx := ⟨_, rfl⟩
  rw [← hm9] at n4 n5 n6 hs
  clear hm9 s1 s2 s3 h1
  have ev : ((2 * mx : Nat) : Int) * 2 ^ 43 = ((mx * 2 ^ 44 : Nat) : Int) := by omega
  have em : (2 : Int) ^ 50 - (m : Int) = ((2 ^ 50 - m : Nat) : Int) := by omega
  rw [ev] at hv
  rw [em] at hs
  refine Nr.mul hv hs (by omega) ?_ ?_ ?_
  · have := Int.mul_le_mul (by omega : ((mx * 2 ^ 44 : Nat) : Int) + 0 + 1 ≤ 2 ^ 50 + 1) (by omega : ((2 ^ 50 - m : Nat) : Int) + 129 + 1 ≤ 2 ^ 50 + 130) (by omega) (by decide)
    exact Int.le_trans this (by decide)
  · rw [← Int.natCast_mul]
    clear n6 hv hs
    have ⟨A, hA⟩ : ∃ A, A = mx * 2 ^ 44 * (2 ^ 50 - m) := ⟨_, rfl⟩
    rw [← hA] at n5 ⊢
    omega
  · rw [← Int.natCast_mul]
    clear n5 hv hs
    have ⟨A, hA⟩ : ∃ A, A = mx * 2 ^ 44 * (2 ^ 50 - m) := ⟨_, rfl⟩
    rw [← hA] at n6 ⊢
    omega
theorem rnd_nr {x : UInt64} {k : Nat} (h : Nr x ((k * 2 ^ 44 : Nat) : Int) 1000) (hk : k < 128) : rndB x (k : Int) = true :=
  rnd_of (Nr.mono h (by decide)) (by omega) hk
theorem third_of {a b c mx n da db dc th : Nat} (h : Shp a b c mx n da db dc) (h3 : n ≤ 3) (hp : hsvP da db dc n th = true) :
    thirdB (a : Int) b c th c a b = true := by
  have hnm := h.nm
  have hn : 1 ≤ n ∧ n ≤ 3 := ⟨h.hn, h3⟩
  have hmx := h.hmx
  unfold hsvP at hp
  simp only [Bool.and_eq_true, decide_eq_true_eq] at hp
  obtain ⟨p1, p2, p3, p4⟩ := hp
  unfold thirdB
  rw [q64_Fl (te7 (Nat.le.intro h.ha) h.hmx), q64_Fl (te7 (Nat.le.intro h.hb) h.hmx), q64_Fl (te7 (Nat.le.intro h.hc) h.hmx), hsv_D h]
  obtain ⟨s1, s2, s3⟩ := s_nr hmx ⟨hn.1, hnm⟩
  dsimp only
  rw [p1, Bool.true_and]
  unfold vrgbF
  rw [cmp_pos s1 (te8 (Int.ofNat_le.mpr s2)), if_neg (by decide), if_pos p2, if_pos p3]
  generalize Flt.toInt truncOf (mul (add (hueD da db dc n) third) f6) = i at *
  generalize sub (mul (add (hueD da db dc n) third) f6) (ofInt i) = f at *
  have hv : rndB (Fl (2 * mx)) (mx : Int) = true := rnd_of (Nr.mono (Fl_nr (by omega)) (by decide)) (by lia) (by omega)
  have hP : rndB (mul (Fl (2 * mx)) (sub f1 (div (Fl (2 * n)) (Fl (2 * mx))))) ((mx - n : Nat) : Int) = true := rnd_nr (up_p hmx hn hnm) (by omega)
  have hQ : ∀ d, d ≤ n → qB f n d = true → rndB (mul (Fl (2 * mx)) (sub f1 (mul (div (Fl (2 * n)) (Fl (2 * mx))) f))) ((mx - d : Nat) : Int) = true := fun d hd h => rnd_nr (up_nr hmx hn hnm hd (Nr.ofB h)) (by omega)
  have hT : ∀ d, d ≤ n → tB f n d = true → rndB (mul (Fl (2 * mx)) (sub f1 (mul (div (Fl (2 * n)) (Fl (2 * mx))) (sub f1 f)))) ((mx - d : Nat) : Int) = true := fun d hd h => rnd_nr (up_nr hmx hn hnm hd (Nr.ofB h)) (by omega)
  have ea : mx - da = a := by rw [← h.ha, Nat.add_sub_cancel]
  have eb : mx - db = b := by rw [← h.hb, Nat.add_sub_cancel]
  have ec : mx - dc = c := by rw [← h.hc, Nat.add_sub_cancel]
  have QA := hQ da h.la
  have QB := hQ db h.lb
  have QC := hQ dc h.lc
  have TA := hT da h.la
  have TB := hT db h.lb
  have TC := hT dc h.lc
  rw [ea] at QA TA
  rw [eb] at QB TB
  rw [ec] at QC TC
  have VA : da = 0 → rndB (Fl (2 * mx)) (a : Int) = true := fun e => by rw [← ea, e, Nat.sub_zero]; exact hv
  have VB : db = 0 → rndB (Fl (2 * mx)) (b : Int) = true := fun e => by rw [← eb, e, Nat.sub_zero]; exact hv
  have VC : dc = 0 → rndB (Fl (2 * mx)) (c : Int) = true := fun e => by rw [← ec, e, Nat.sub_zero]; exact hv
  have PA : da = n → rndB (mul (Fl (2 * mx)) (sub f1 (div (Fl (2 * n)) (Fl (2 * mx))))) (a : Int) = true := fun e => by rw [← ea, e]; exact hP
  have PB : db = n → rndB (mul (Fl (2 * mx)) (sub f1 (div (Fl (2 * n)) (Fl (2 * mx))))) (b : Int) = true := fun e => by rw [← eb, e]; exact hP
  have PC : dc = n → rndB (mul (Fl (2 * mx)) (sub f1 (div (Fl (2 * n)) (Fl (2 * mx))))) (c : Int) = true := fun e => by rw [← ec, e]; exact hP
  unfold sixB at p4
  unfold vrgbG
  by_cases i0 : i.fmod 6 = 0
  · rw [if_pos i0] at p4 ⊢
    simp only [Bool.and_eq_true, beq_iff_eq] at p4 ⊢
    exact ⟨VC p4.1, TA p4.2.1, PB p4.2.2⟩
  rw [if_neg i0] at p4 ⊢
  by_cases i1 : i.fmod 6 = 1
  · rw [if_pos i1] at p4 ⊢
    simp only [Bool.and_eq_true, beq_iff_eq] at p4 ⊢
    exact ⟨QC p4.1, VA p4.2.1, PB p4.2.2⟩
  rw [if_neg i1] at p4 ⊢
  by_cases i2 : i.fmod 6 = 2
  · rw [if_pos i2] at p4 ⊢
    simp only [Bool.and_eq_true, beq_iff_eq] at p4 ⊢
    exact ⟨PC p4.1, VA p4.2.1, TB p4.2.2⟩
  rw [if_neg i2] at p4 ⊢
  by_cases i3 : i.fmod 6 = 3
  · rw [if_pos i3] at p4 ⊢
    simp only [Bool.and_eq_true, beq_iff_eq] at p4 ⊢
    exact ⟨PC p4.1, QA p4.2.1, VB p4.2.2⟩
  rw [if_neg i3] at p4 ⊢
  by_cases i4 : i.fmod 6 = 4
  · rw [if_pos i4] at p4 ⊢
    simp only [Bool.and_eq_true, beq_iff_eq] at p4 ⊢
    exact ⟨TC p4.1, PA p4.2.1, VB p4.2.2⟩
  rw [if_neg i4] at p4 ⊢
  by_cases i5 : i.fmod 6 = 5
  · rw [if_pos i5] at p4 ⊢
    simp only [Bool.and_eq_true, beq_iff_eq] at p4 ⊢
    exact ⟨VC p4.1, PA p4.2.1, QB p4.2.2⟩
  rw [if_neg i5] at p4
  cases p4
noncomputable def F10n : List (Nat × Nat × Nat) := [(1, 0, 0), (1, 1, 0), (1, 2, 0), (1, 3, 0), (2, 0, 0), (2, 1, 0), (2, 2, 0), (2, 3, 0), (3, 1, 0), (3, 2, 0)]
noncomputable def f10n (i : Nat) : Nat × Nat × Nat := F10n.getD i (0, 0, 0)
theorem f10_cast : ∀ i, i < 10 → F10' i = (((f10n i).1 : Int), ((f10n i).2.1 : Int), ((f10n i).2.2 : Int)) := by decide
noncomputable def hsvB (p q r th : Nat) : Bool := shpB p q r && (Nat.ble (mxN p q r) 3 && (Nat.ble (rgN p q r) 3 && hsvP (mxN p q r - p) (mxN p q r - q) (mxN p q r - r) (rgN p q r) th))
noncomputable def hsvAll (p : Nat × Nat × Nat) : Bool := hsvB p.1 p.2.1 p.2.2 0 && (hsvB p.2.2 p.1 p.2.1 1 && hsvB p.2.1 p.2.2 p.1 2)
theorem hsv_all : ∀ i, i < 10 → hsvAll (f10n i) = true := by decide +kernel
theorem third_w {w p q r th : Nat} (h : hsvB p q r th = true) (hw : w ≤ 60) : thirdB ((p : Int) + w) ((q : Int) + w) ((r : Int) + w) th ((r : Int) + w) ((p : Int) + w) ((q : Int) + w) = true := by
  unfold hsvB at h
  simp only [Bool.and_eq_true, Nat.ble_eq] at h
  obtain ⟨h1, h2, h3, h4⟩ := h
  have hs := (shp_of (w := w) h1 (Nat.lt_of_le_of_lt (Nat.add_le_add hw h2) (by decide))).1
  have := third_of hs h3 h4
  rw [Nat.add_comm w p, Nat.add_comm w q, Nat.add_comm w r] at this
  exact this
theorem turns_ok {white : Int} (h : 0 ≤ white ∧ white ≤ 60) : TurnsOk white := by
  obtain ⟨w, rfl⟩ := Int.eq_ofNat_of_zero_le h.1
  have hw : w ≤ 60 := Int.ofNat_le.mp h.2
  intro i j hi hj
  have hc := f10_cast i hi
  have ha := hsv_all i hi
  unfold col
  rw [hc]
  generalize f10n i = p at *
  unfold hsvAll at ha
  simp only [Bool.and_eq_true] at ha
  obtain ⟨a0, a1, a2⟩ := ha
  match j, hj with
  | 0, _ => exact third_w a0 hw
  | 1, _ => exact third_w a1 hw
  | 2, _ => exact third_w a2 hw
end PPF8
section PEul
noncomputable def minI (a b c : Int) : Int := min a (min b c)
theorem min3_of {M a b c : Int} (h1 : M = a ∨ M = b ∨ M = c) (h2 : M ≤ a ∧ M ≤ b ∧ M ≤ c) : M = minI a b c := by unfold minI; omega
theorem min3_K {prog : Program} {w : World} {A : Around} {E Q : Value → Shared → Prop} {s : Shared} {h₀ : Heap} {L l : Addr} {m : Str → Option Value} {news : Led} {a b c : Int} {ta tb tc : Tok} {n : Nat}
    (F : Fr h₀ L s.heap m) (N : News h₀ L s.heap news) (hm : (l, listOf #[.int a ta, .int b tb, .int c tc] n) ∈ news) (hh : A.handled = none)
    (h : ∀ h' t tk, Fr h₀ L h' m → News h₀ L h' news → Q (.int (minI a b c) t) { s with heap := h', toks := tk }) : wpAny (model prog w) A (call (.builtin "min") [.ref l]) Q E s := by
  refine kso_min (ns := [a, b, c]) (vs := [.int a ta, .int b tb, .int c tc]) F N (N.isList hm) (.cons _ _ (.cons _ _ (.cons _ _ .nil))) (Nat.zero_lt_succ _) hh fun h' M t tk F' N' h1 h2 => ?_
  rw [min3_of (M := M) (a := a) (b := b) (c := c) (by simpa using h1) ⟨h2 a (.head _), h2 b (.tail _ (.head _)), h2 c (.tail _ (.tail _ (.head _)))⟩]
  exact h h' t tk F' N'
theorem minI_bd {a b c lo hi : Int} (ha : lo ≤ a ∧ a < hi) (hb : lo ≤ b ∧ b < hi) (hc : lo ≤ c ∧ c < hi) : lo ≤ minI a b c ∧ minI a b c < hi := by unfold minI; omega
noncomputable def powF (c : Col3) : Nat → Col3
  | 0 => (1, 0, 0)
  | i + 1 => timesC (powF c i) c
noncomputable def unitC (th : Int) : Col3 := if th = 0 then (1, 0, 0) else if th = 1 then (0, 1, 0) else (0, 0, 1)
noncomputable def bareC (a b c : Int) : Col3 := (a - minI a b c, b - minI a b c, c - minI a b c)
noncomputable def nameC (c : Col3) (a' b' c' size : Int) : Str := nameF c.1 c.2.1 c.2.2 a' b' c' size
/-- what _law_euler answers -/
noncomputable def eulerF (a b c a' b' c' th : Int) : Bool :=
  if th = -1 then nameC (a, b, c) a' b' c' (sizeF a' b' c') == Str.ofString "Aa"
  else nameC (powF (bareC a b c) ((sizeF a' b' c' - 1).fdiv 3).toNat) a' b' c' (sizeF a' b' c') == nameC (unitC th) a' b' c' (sizeF a' b' c')
theorem rng_small : ∀ k : Nat, k < 10 → Builtin.Range.small 0 (k : Int) 1 = true ∧ Builtin.Range.rangeSize 0 (k : Int) 1 = ((k : Nat) : Int) := by decide
theorem rng_of {k : Int} (h0 : 0 ≤ k) (h1 : k < 10) : Builtin.Range.small 0 k 1 = true ∧ Builtin.Range.rangeSize 0 k 1 = ((k.toNat : Nat) : Int) := by
  have h := rng_small k.toNat (by omega)
  rw [show ((k.toNat : Nat) : Int) = k by omega] at h
  rw [show ((k.toNat : Nat) : Int) = k by omega]
  exact h
theorem th_three {th : Int} (h : -1 ≤ th ∧ th < 3) (n : ¬ th = -1) : th = 0 ∨ th = 1 ∨ th = 2 := by omega
noncomputable abbrev eOwn : List Str := [Str.ofString "_", Str.ofString "power"]
noncomputable def PowSt (own : List Str) (m₀ : Str → Option Value) (news : Led) (c : Col3) (i : Nat) (m₁ : Str → Option Value) (led : Led) : Prop :=
  Same own m₀ m₁ ∧ (∀ p ∈ news, p ∈ led) ∧ ∃ P u0 u1 u2 nP, m₁ (Str.ofString "power") = some (.ref P) ∧ (P, listOf #[.int (powF c i).1 u0, .int (powF c i).2.1 u1, .int (powF c i).2.2 u2] nP) ∈ led
section
variable {prog : Program} {w : World} {A : Around} {E : Value → Shared → Prop} {s : Shared} {env : Env} {h₀ : Heap} {x : Str} {px : Pos} {body : List Stmt} {R : Result → Shared → Prop}
theorem pow_loop {r P : Addr} {b : Int} {t u v u0 u1 u2 : Tok} {n nP : Nat} {m₀ : Str → Option Value} {news : Led} (own : List Str) (c : Col3)
    (hh : A.handled = none) (hr : IsRange s.heap r 0 b 1 t u v) (hsm : Builtin.Range.small 0 b 1 = true) (hn : Builtin.Range.rangeSize 0 b 1 = ((n : Nat) : Int))
    (F : Fr h₀ env.locals s.heap m₀) (N : News h₀ env.locals s.heap news) (e0 : m₀ (Str.ofString "power") = some (.ref P)) (hP : (P, listOf #[.int 1 u0, .int 0 u1, .int 0 u2] nP) ∈ news)
    (turn : ∀ I o i tok m₁ led P u0 u1 u2 nP h tk, i < n → Same own m₀ m₁ → (∀ p ∈ news, p ∈ led) → m₁ (Str.ofString "power") = some (.ref P) → (P, listOf #[.int (powF c i).1 u0, .int (powF c i).2.1 u1, .int (powF c i).2.2 u2] nP) ∈ led → (∀ p ∈ led, p.1 ≠ I) → Fr h₀ env.locals h m₁ → News h₀ env.locals h ((I, o) :: led) →
      wpAny (model prog w) A (assign (.Name x px) env (.int (0 + (i : Int)) tok)) (fun _ s₂ => wpAny (model prog w) A (execs body env) (TurnK h₀ env.locals (PowSt own m₀ news c (i + 1)) I o { s with heap := h, toks := tk } R) (fun _ _ => False) s₂) (fun _ _ => False) { s with heap := h, toks := tk })
    (done : ∀ m₁ led P u0 u1 u2 nP h tk, Same own m₀ m₁ → (∀ p ∈ news, p ∈ led) → m₁ (Str.ofString "power") = some (.ref P) → (P, listOf #[.int (powF c n).1 u0, .int (powF c n).2.1 u1, .int (powF c n).2.2 u2] nP) ∈ led → Fr h₀ env.locals h m₁ → News h₀ env.locals h led → R (.ok .next) { s with heap := h, toks := tk }) :
    wpAny (model prog w) A (pyIter (.ref r)) (fun it s₂ => codeAny (model prog w) A (.forLoop (.Name x px) it body [] env) R s₂) E s := by
  refine for_range (n := n) (PowSt own m₀ news c) hh hr hsm hn F N ⟨Same.refl _ _, fun p hp => hp, P, u0, u1, u2, nP, e0, hP⟩ ?_ ?_
  · rintro I o i tok m₁ led h tk - hi ⟨hs, sub, P, u0, u1, u2, nP, e1, hm⟩ hne F9 N9
    exact turn I o i tok m₁ led P u0 u1 u2 nP h tk hi hs sub e1 hm hne F9 N9
  · rintro m₁ led h tk ⟨hs, sub, P, u0, u1, u2, nP, e1, hm⟩ F9 N9
    exact done m₁ led P u0 u1 u2 nP h tk hs sub e1 hm F9 N9
theorem pow_end {own : List Str} {m₀ m₁ : Str → Option Value} {news led all : Led} {c : Col3} {i : Nat} {I L P : Addr} {o : Obj} {s₁ : Shared} {h' : Heap} {tk nP : Nat} {u0 u1 u2 : Tok} {p1 p2 p3 : Int}
    (F : Fr h₀ L h' m₁) (N : News h₀ L h' all) (hs : Same own m₀ m₁) (sb : ∀ p ∈ news, p ∈ led) (e1 : m₁ (Str.ofString "power") = some (.ref P)) (sub : ∀ p ∈ (I, o) :: (P, listOf #[.int p1 u0, .int p2 u1, .int p3 u2] nP) :: led, p ∈ all) (hne : ∀ p ∈ led, p.1 ≠ I) (hPI : @Ne Nat P I) (ec : powF c (i + 1) = (p1, p2, p3)) :
    ∃ h₂ tk₂ m₂ news₂, ({ s₁ with heap := h', toks := tk } : Shared) = { s₁ with heap := h₂, toks := tk₂ } ∧ Fr h₀ L h₂ m₂ ∧ News h₀ L h₂ ((I, o) :: news₂) ∧ (∀ p ∈ news₂, p.1 ≠ I) ∧ PowSt own m₀ news c (i + 1) m₂ news₂ := by
  refine ⟨h', tk, m₁, _, rfl, F, fun p hp => N p (sub p hp), ?_, hs, fun p hp => .tail _ (sb p hp), P, u0, u1, u2, nP, e1, by rw [ec]; exact .head _⟩
  intro p hp
  rcases List.mem_cons.mp hp with rfl | hp
  · exact hPI
  · exact hne p hp
end
theorem ln_27 : True := by
  (k_with "eval Name" => ((first | (with_reducible show wpAny _ _ (eval (PySem.Expr.Name (Str.ofString "power") _) (envOfC _ _ _ _ _)) _ _ _) | (with_reducible show wpAny _ _ (eval (PySem.Expr.Name (Str.ofString "bare") _) (envOfC _ _ _ _ _)) _ _ _) | (with_reducible show wpAny _ _ (eval (PySem.Expr.Name (Str.ofString "size") _) (envOfC _ _ _ _ _)) _ _ _) | (with_reducible show wpAny _ _ (eval (PySem.Expr.Name (Str.ofString "m") _) (envOfC _ _ _ _ _)) _ _ _) | (with_reducible show wpAny _ _ (eval (PySem.Expr.Name (Str.ofString "thirds") _) (envOfC _ _ _ _ _)) _ _ _)); k_here; k_dflt (refine' ldE ?k1 ?k2 ?k3 ?k4 ?k5 ?_; (case k1 => k_asm); (case k2 => first | (with_reducible assumption) | ((repeat (refine (if_neg (by decide)).trans ?_)); with_reducible assumption)); (case k3 => exact rfl); (case k4 => exact rfl); (case k5 => decide); k_whole)))
  trivial
section
variable {w : World} {p : Program} {loose : List Str} {mean : ExcName → Option Value} {mg mb : Str → Option Value}
theorem ln_28 : True := by
  (k_with "call ref" => ((with_reducible show wpAny _ _ (call (Value.ref 301) _ _) _ _ _); k_dflt ((k_here; k_dflt (refine' (size_c ?z1 ?z2) _ _ _ _ _ _ _ _ _ _ _ _ _ _ _ _ _ ?k1 ?k2 ?k3 ?k4 ?k5 ?kK ?kd ?ku ?_; k_extra "m:std"; k_whole)); (case z1 => k_mem); (case z2 => first | with_reducible assumption | omega); ((first | (k_dflt (refine' (us1 neTok ?z9sl ((?_ : L1 _ _) () ()) :); (case z9sl => k_extra "m:slot"); intros u8 t1 u9; clear u8 u9; k_extra "m:cl")) | (refine (sk1 neTok ((?_ : ∀ (t1 : Tok), _) _) :); intros t1))); k_extra "m:got0")))
  (k_with "call ref" => ((with_reducible show wpAny _ _ (call (Value.ref 308) _ _) _ _ _); k_dflt ((k_here; k_dflt (refine' (name_cR ?z1 ?z2 ?z3 ?z4) _ _ _ _ _ _ _ _ _ _ _ _ _ _ _ _ _ ?k1 ?k2 ?k3 ?k4 ?k5 ?kK ?kd ?ku ?_; k_extra "m:std"; k_whole)); (case z1 => k_mem); (case z2 => k_mem); (case z3 => first | with_reducible assumption | omega); (case z4 => first | with_reducible assumption | omega); ((first | (k_dflt (refine' (us1 neTok ?z9sl ((?_ : L1 _ _) () ()) :); (case z9sl => k_extra "m:slot"); intros u8 t1 u9; clear u8 u9; k_extra "m:cl")) | (refine (sk1 neTok ((?_ : ∀ (t1 : Tok), _) _) :); intros t1))); k_extra "m:got0")))
  (k_with "call ref" => ((with_reducible show wpAny _ _ (call (Value.ref 294) _ _) _ _ _); k_dflt ((k_here; k_dflt (refine' (times_cR ?z1 ?z2 ?z3) _ _ _ _ _ _ _ _ _ _ _ _ _ _ _ _ _ ?k1 ?k2 ?k3 ?k4 ?k5 ?kK ?kd ?ku ?_; k_extra "m:std"; k_whole)); (case z1 => k_mem); (case z2 => k_mem); (case z3 => first | with_reducible assumption | omega); ((first | (k_dflt (refine' (us4 neNat neTok neTok neTok ?z9sl ((?_ : L4 _ _ _ _ _) () ()) :); (case z9sl => k_extra "m:slot"); intros u8 x1 t1 t2 t3 u9; clear u8 u9; k_extra "m:cl")) | (refine (sk4 neNat neTok neTok neTok ((?_ : ∀ (x1 : Addr) (t1 : Tok) (t2 : Tok) (t3 : Tok), _) _ _ _ _) :); intros x1 t1 t2 t3))); k_extra "m:got1")))
  (k_with "eval ListComp" => ((with_reducible show wpAny _ _ (eval (PySem.Expr.ListComp (PySem.Expr.BinOp (PySem.Expr.Name _ _) Operator.Sub _ _) _ _ _) _) _ _ _); k_here; k_dflt (refine LCg.ListComp_U (F₀ := by k_asm) (by rfl) (by decide) (by rfl) (by decide) (by rfl) ?_)))
  (k_with "CompSrc" => (k_here; k_dflt (refine' LCg.CompSrc.ledger ?z9a ?z9b ?z9c ?z9d ?z9e ?_; (case z9a => exact rfl); (case z9b => k_asm); (case z9c => k_asm); (case z9d => k_mem); (case z9e => first | exact Nat.le_of_ble_eq_true rfl | size_fits); ((first | (k_dflt (refine' (us1 neHeap ?z9sl ((?_ : L1 _ _) () ()) :); (case z9sl => k_extra "m:slot"); intros u8 g' u9; clear u8 u9; k_extra "m:cl")) | (refine (sk1 neHeap ((?_ : ∀ (g' : Heap), _) _) :); intros g'))); lcg_lit)))
  (k_with "pyIter ref" => ((with_reducible show wpAny _ _ (pyIter (Value.ref _)) (fun _ _ => codeAny _ _ (Code.forLoop (PySem.Expr.Name (Str.ofString "_") _) _ _ _ _) _ _) _ _); refine HD.out ?_))
  (k_with "exec For Name Call cons nil" => ((with_reducible show wpAny _ _ (exec (Stmt.For (PySem.Expr.Name (Str.ofString "_") _) _ _ _ _) _) _ _ _); k_dflt (refine wpAny_For ?_)))
  (k_with "call builtin:min" => (k_here; (with_reducible show wpAny _ _ (call (Value.builtin _) [Value.ref _]) _ _ _); k_dflt (refine' min3_K ?k1 ?k2 ?k3 ?k4 ?_; (case k1 => k_asm); (case k2 => k_asm); (case k3 => k_mem); (case k4 => exact rfl); k_whole); ((first | (k_dflt (refine' (us3 neHeap neTok neNat ?z9sl ((?_ : L3 _ _ _ _) () ()) :); (case z9sl => k_extra "m:slot"); intros u8 h' t' k' u9; clear u8 u9; k_extra "m:cl")) | (refine (sk3 neHeap neTok neNat ((?_ : ∀ (h' : Heap) (t' : Tok) (k' : Nat), _) _ _ _) :); intros h' t' k'))); intros F' N'; (try k_sweep)))
  trivial
theorem bd_of {a b c : Int} (h : (0 ≤ a ∧ a < 64) ∧ (0 ≤ b ∧ b < 64) ∧ (0 ≤ c ∧ c < 64)) : Bd a b c := by unfold Bd; omega
theorem bk_of {a b c : Int} (h : (0 ≤ a ∧ a < 64) ∧ (0 ≤ b ∧ b < 64) ∧ (0 ≤ c ∧ c < 64)) : Bk a b c := by unfold Bk; omega
theorem bd_bare {a b c k : Int} (h : (0 ≤ a ∧ a < 64) ∧ (0 ≤ b ∧ b < 64) ∧ (0 ≤ c ∧ c < 64)) (hk : 0 ≤ k ∧ k < 64) : Bd (a - k) (b - k) (c - k) := by unfold Bd; omega
theorem sz30 {z : Int} (h : 0 < z ∧ z ≤ 25) : 0 < z ∧ z ≤ 30 := ⟨h.1, Int.le_trans h.2 (by decide)⟩
theorem thd10 {z : Int} (h : 0 < z ∧ z ≤ 25) : 0 ≤ (z - 1).fdiv 3 ∧ (z - 1).fdiv 3 < 10 := by
  rw [Int.fdiv_eq_ediv_of_nonneg _ (by decide)]; omega
theorem euler_c {news : Led} {l1 l2 : Addr} {n n' : Nat} {xa xb xc ya yb yc : Int} {ta tb tc ta' tb' tc' tt : Tok} {th : Int} (hm : (l1, listOf #[.int xa ta, .int xb tb, .int xc tc] n) ∈ news) (hm' : (l2, listOf #[.int ya ta', .int yb tb', .int yc tc'] n') ∈ news) (hb : (0 ≤ xa ∧ xa < 64) ∧ (0 ≤ xb ∧ xb < 64) ∧ (0 ≤ xc ∧ xc < 64)) (hb' : (0 ≤ ya ∧ ya < 64) ∧ (0 ≤ yb ∧ yb < 64) ∧ (0 ≤ yc ∧ yc < 64)) (hs : 0 < sizeF ya yb yc ∧ sizeF ya yb yc ≤ 25) (ht : -1 ≤ th ∧ th < 3) :
    ClaimO w p loose mean mg mb (.ref 318) 4 [.ref l1, .ref l2, .int th tt] news (fun K => K [] (.bool (eulerF xa xb xc ya yb yc th))) := by
  (revert w p loose mean mg mb news l1 l2 n n' xa xb xc ya yb yc ta tb tc ta' tb' tc' tt th; apply @And.left _ True; refine ((?_ : KK 65 _ _ _ → KK 64 _ _ _ → KK 63 _ _ _ → KK 62 _ _ _ → KK 61 _ _ _ → KK 60 _ _ _ → KK 59 _ _ _ → KK 58 _ _ _ → KK 57 _ _ _ → KK 56 _ _ _ → KK 55 _ _ _ → KK 54 _ _ _ → KK 53 _ _ _ → KK 52 _ _ _ → KK 51 _ _ _ → KK 50 _ _ _ → KK 49 _ _ _ → KK 48 _ _ _ → KK 47 _ _ _ → KK 46 _ _ _ → KK 45 _ _ _ → KK 44 _ _ _ → KK 43 _ _ _ → KK 42 _ _ _ → KK 41 _ _ _ → KK 40 _ _ _ → KK 39 _ _ _ → KK 38 _ _ _ → KK 37 _ _ _ → KK 36 _ _ _ → KK 35 _ _ _ → KK 34 _ _ _ → KK 33 _ _ _ → KK 32 _ _ _ → KK 31 _ _ _ → KK 30 _ _ _ → KK 29 _ _ _ → KK 28 _ _ _ → KK 27 _ _ _ → KK 26 _ _ _ → KK 25 _ _ _ → KK 24 _ _ _ → KK 23 _ _ _ → KK 22 _ _ _ → KK 21 _ _ _ → KK 20 _ _ _ → KK 19 _ _ _ → KK 18 _ _ _ → KK 17 _ _ _ → KK 16 _ _ _ → KK 15 _ _ _ → KK 14 _ _ _ → KK 13 _ _ _ → KK 12 _ _ _ → KK 11 _ _ _ → KK 10 _ _ _ → KK 9 _ _ _ → KK 8 _ _ _ → KK 7 _ _ _ → KK 6 _ _ _ → KK 5 _ _ _ → KK 4 _ _ _ → KK 3 _ _ _ → KK 2 _ _ _ → KK 1 _ _ _ → KK 0 _ _ _ → _ ∧ True) ?jj65 ?jj64 ?jj63 ?jj62 ?jj61 ?jj60 ?jj59 ?jj58 ?jj57 ?jj56 ?jj55 ?jj54 ?jj53 ?jj52 ?jj51 ?jj50 ?jj49 ?jj48 ?jj47 ?jj46 ?jj45 ?jj44 ?jj43 ?jj42 ?jj41 ?jj40 ?jj39 ?jj38 ?jj37 ?jj36 ?jj35 ?jj34 ?jj33 ?jj32 ?jj31 ?jj30 ?jj29 ?jj28 ?jj27 ?jj26 ?jj25 ?jj24 ?jj23 ?jj22 ?jj21 ?jj20 ?jj19 ?jj18 ?jj17 ?jj16 ?jj15 ?jj14 ?jj13 ?jj12 ?jj11 ?jj10 ?jj9 ?jj8 ?jj7 ?jj6 ?jj5 ?jj4 ?jj3 ?jj2 ?jj1 ?jj0); intros jj65 jj64 jj63 jj62 jj61 jj60 jj59 jj58 jj57 jj56 jj55 jj54 jj53 jj52 jj51 jj50 jj49 jj48 jj47 jj46 jj45 jj44 jj43 jj42 jj41 jj40 jj39 jj38 jj37 jj36 jj35 jj34 jj33 jj32 jj31 jj30 jj29 jj28 jj27 jj26 jj25 jj24 jj23 jj22 jj21 jj20 jj19 jj18 jj17 jj16 jj15 jj14 jj13 jj12 jj11 jj10 jj9 jj8 jj7 jj6 jj5 jj4 jj3 jj2 jj1 jj0; (k_with "q0" => try clear jj0); (k_with "q1" => try (clear jj1; k_extra "q0")); (k_with "q2" => try (clear jj2; k_extra "q1")); (k_with "q3" => try (clear jj3; k_extra "q2")); (k_with "q4" => try (clear jj4; k_extra "q3")); (k_with "q5" => try (clear jj5; k_extra "q4")); (k_with "q6" => try (clear jj6; k_extra "q5")); (k_with "q7" => try (clear jj7; k_extra "q6")); (k_with "q8" => try (clear jj8; k_extra "q7")); (k_with "q9" => try (clear jj9; k_extra "q8")); (k_with "q10" => try (clear jj10; k_extra "q9")); (k_with "q11" => try (clear jj11; k_extra "q10")); (k_with "q12" => try (clear jj12; k_extra "q11")); (k_with "q13" => try (clear jj13; k_extra "q12")); (k_with "q14" => try (clear jj14; k_extra "q13")); (k_with "q15" => try (clear jj15; k_extra "q14")); (k_with "q16" => try (clear jj16; k_extra "q15")); (k_with "q17" => try (clear jj17; k_extra "q16")); (k_with "q18" => try (clear jj18; k_extra "q17")); (k_with "q19" => try (clear jj19; k_extra "q18")); (k_with "q20" => try (clear jj20; k_extra "q19")); (k_with "q21" => try (clear jj21; k_extra "q20")); (k_with "q22" => try (clear jj22; k_extra "q21")); (k_with "q23" => try (clear jj23; k_extra "q22")); (k_with "q24" => try (clear jj24; k_extra "q23")); (k_with "q25" => try (clear jj25; k_extra "q24")); (k_with "q26" => try (clear jj26; k_extra "q25")); (k_with "q27" => try (clear jj27; k_extra "q26")); (k_with "q28" => try (clear jj28; k_extra "q27")); (k_with "q29" => try (clear jj29; k_extra "q28")); (k_with "q30" => try (clear jj30; k_extra "q29")); (k_with "q31" => try (clear jj31; k_extra "q30")); (k_with "q32" => try (clear jj32; k_extra "q31")); (k_with "q33" => try (clear jj33; k_extra "q32")); (k_with "q34" => try (clear jj34; k_extra "q33")); (k_with "q35" => try (clear jj35; k_extra "q34")); (k_with "q36" => try (clear jj36; k_extra "q35")); (k_with "q37" => try (clear jj37; k_extra "q36")); (k_with "q38" => try (clear jj38; k_extra "q37")); (k_with "q39" => try (clear jj39; k_extra "q38")); (k_with "q40" => try (clear jj40; k_extra "q39")); (k_with "q41" => try (clear jj41; k_extra "q40")); (k_with "q42" => try (clear jj42; k_extra "q41")); (k_with "q43" => try (clear jj43; k_extra "q42")); (k_with "q44" => try (clear jj44; k_extra "q43")); (k_with "q45" => try (clear jj45; k_extra "q44")); (k_with "q46" => try (clear jj46; k_extra "q45")); (k_with "q47" => try (clear jj47; k_extra "q46")); (k_with "q48" => try (clear jj48; k_extra "q47")); (k_with "q49" => try (clear jj49; k_extra "q48")); (k_with "q50" => try (clear jj50; k_extra "q49")); (k_with "q51" => try (clear jj51; k_extra "q50")); (k_with "q52" => try (clear jj52; k_extra "q51")); (k_with "q53" => try (clear jj53; k_extra "q52")); (k_with "q54" => try (clear jj54; k_extra "q53")); (k_with "q55" => try (clear jj55; k_extra "q54")); (k_with "q56" => try (clear jj56; k_extra "q55")); (k_with "q57" => try (clear jj57; k_extra "q56")); (k_with "q58" => try (clear jj58; k_extra "q57")); (k_with "q59" => try (clear jj59; k_extra "q58")); (k_with "q60" => try (clear jj60; k_extra "q59")); (k_with "q61" => try (clear jj61; k_extra "q60")); (k_with "q62" => try (clear jj62; k_extra "q61")); (k_with "q63" => try (clear jj63; k_extra "q62")); (k_with "q64" => try (clear jj64; k_extra "q63")); (k_with "q65" => try (clear jj65; k_extra "q64")); (k_with "m:slot" => (exact jj0; (k_with "m:cl" => k_extra "q0"); (k_with "m:slot" => (exact jj1; (k_with "m:cl" => k_extra "q1"); (k_with "m:slot" => (exact jj2; (k_with "m:cl" => k_extra "q2"); (k_with "m:slot" => (exact jj3; (k_with "m:cl" => k_extra "q3"); (k_with "m:slot" => (exact jj4; (k_with "m:cl" => k_extra "q4"); (k_with "m:slot" => (exact jj5; (k_with "m:cl" => k_extra "q5"); (k_with "m:slot" => (exact jj6; (k_with "m:cl" => k_extra "q6"); (k_with "m:slot" => (exact jj7; (k_with "m:cl" => k_extra "q7"); (k_with "m:slot" => (exact jj8; (k_with "m:cl" => k_extra "q8"); (k_with "m:slot" => (exact jj9; (k_with "m:cl" => k_extra "q9"); (k_with "m:slot" => (exact jj10; (k_with "m:cl" => k_extra "q10"); (k_with "m:slot" => (exact jj11; (k_with "m:cl" => k_extra "q11"); (k_with "m:slot" => (exact jj12; (k_with "m:cl" => k_extra "q12"); (k_with "m:slot" => (exact jj13; (k_with "m:cl" => k_extra "q13"); (k_with "m:slot" => (exact jj14; (k_with "m:cl" => k_extra "q14"); (k_with "m:slot" => (exact jj15; (k_with "m:cl" => k_extra "q15"); (k_with "m:slot" => (exact jj16; (k_with "m:cl" => k_extra "q16"); (k_with "m:slot" => (exact jj17; (k_with "m:cl" => k_extra "q17"); (k_with "m:slot" => (exact jj18; (k_with "m:cl" => k_extra "q18"); (k_with "m:slot" => (exact jj19; (k_with "m:cl" => k_extra "q19"); (k_with "m:slot" => (exact jj20; (k_with "m:cl" => k_extra "q20"); (k_with "m:slot" => (exact jj21; (k_with "m:cl" => k_extra "q21"); (k_with "m:slot" => (exact jj22; (k_with "m:cl" => k_extra "q22"); (k_with "m:slot" => (exact jj23; (k_with "m:cl" => k_extra "q23"); (k_with "m:slot" => (exact jj24; (k_with "m:cl" => k_extra "q24"); (k_with "m:slot" => (exact jj25; (k_with "m:cl" => k_extra "q25"); (k_with "m:slot" => (exact jj26; (k_with "m:cl" => k_extra "q26"); (k_with "m:slot" => (exact jj27; (k_with "m:cl" => k_extra "q27"); (k_with "m:slot" => (exact jj28; (k_with "m:cl" => k_extra "q28"); (k_with "m:slot" => (exact jj29; (k_with "m:cl" => k_extra "q29"); (k_with "m:slot" => (exact jj30; (k_with "m:cl" => k_extra "q30"); (k_with "m:slot" => (exact jj31; (k_with "m:cl" => k_extra "q31"); (k_with "m:slot" => (exact jj32; (k_with "m:cl" => k_extra "q32"); (k_with "m:slot" => (exact jj33; (k_with "m:cl" => k_extra "q33"); (k_with "m:slot" => (exact jj34; (k_with "m:cl" => k_extra "q34"); (k_with "m:slot" => (exact jj35; (k_with "m:cl" => k_extra "q35"); (k_with "m:slot" => (exact jj36; (k_with "m:cl" => k_extra "q36"); (k_with "m:slot" => (exact jj37; (k_with "m:cl" => k_extra "q37"); (k_with "m:slot" => (exact jj38; (k_with "m:cl" => k_extra "q38"); (k_with "m:slot" => (exact jj39; (k_with "m:cl" => k_extra "q39"); (k_with "m:slot" => (exact jj40; (k_with "m:cl" => k_extra "q40"); (k_with "m:slot" => (exact jj41; (k_with "m:cl" => k_extra "q41"); (k_with "m:slot" => (exact jj42; (k_with "m:cl" => k_extra "q42"); (k_with "m:slot" => (exact jj43; (k_with "m:cl" => k_extra "q43"); (k_with "m:slot" => (exact jj44; (k_with "m:cl" => k_extra "q44"); (k_with "m:slot" => (exact jj45; (k_with "m:cl" => k_extra "q45"); (k_with "m:slot" => (exact jj46; (k_with "m:cl" => k_extra "q46"); (k_with "m:slot" => (exact jj47; (k_with "m:cl" => k_extra "q47"); (k_with "m:slot" => (exact jj48; (k_with "m:cl" => k_extra "q48"); (k_with "m:slot" => (exact jj49; (k_with "m:cl" => k_extra "q49"); (k_with "m:slot" => (exact jj50; (k_with "m:cl" => k_extra "q50"); (k_with "m:slot" => (exact jj51; (k_with "m:cl" => k_extra "q51"); (k_with "m:slot" => (exact jj52; (k_with "m:cl" => k_extra "q52"); (k_with "m:slot" => (exact jj53; (k_with "m:cl" => k_extra "q53"); (k_with "m:slot" => (exact jj54; (k_with "m:cl" => k_extra "q54"); (k_with "m:slot" => (exact jj55; (k_with "m:cl" => k_extra "q55"); (k_with "m:slot" => (exact jj56; (k_with "m:cl" => k_extra "q56"); (k_with "m:slot" => (exact jj57; (k_with "m:cl" => k_extra "q57"); (k_with "m:slot" => (exact jj58; (k_with "m:cl" => k_extra "q58"); (k_with "m:slot" => (exact jj59; (k_with "m:cl" => k_extra "q59"); (k_with "m:slot" => (exact jj60; (k_with "m:cl" => k_extra "q60"); (k_with "m:slot" => (exact jj61; (k_with "m:cl" => k_extra "q61"); (k_with "m:slot" => (exact jj62; (k_with "m:cl" => k_extra "q62"); (k_with "m:slot" => (exact jj63; (k_with "m:cl" => k_extra "q63"); (k_with "m:slot" => (exact jj64; (k_with "m:cl" => k_extra "q64"); (k_with "m:slot" => (exact jj65; (k_with "m:cl" => k_extra "q65"); (k_with "m:slot" => fail "no slot"))))))))))))))))))))))))))))))))))))))))))))))))))))))))))))))))))))))))))))))))))))))))))))))))))))))))))))))))))))))))))))))))))))); (k_with "m:clr" => skip); refine ⟨?main, trivial⟩; (first | (k_dflt (refine' (us8 neW neProg neLs neMean neFr neFr neLed neNat ?z9sl ((?_ : L8 _ _ _ _ _ _ _ _ _) () ()) :); (case z9sl => k_extra "m:slot"); intros u8 w p loose mean mg mb news l1 u9; clear u8 u9; k_extra "m:cl")) | (refine (sk8 neW neProg neLs neMean neFr neFr neLed neNat ((?_ : ∀ (w : World) (p : Program) (loose : List Str) (mean : ExcName → Option Value) (mg : Str → Option Value) (mb : Str → Option Value) (news : Led) (l1 : Addr), _) _ _ _ _ _ _ _ _) :); intros w p loose mean mg mb news l1)); (first | (k_dflt (refine' (us8 neNat neNat neNat neInt neInt neInt neInt neInt ?z9sl ((?_ : L8 _ _ _ _ _ _ _ _ _) () ()) :); (case z9sl => k_extra "m:slot"); intros u8 l2 n n' xa xb xc ya yb u9; clear u8 u9; k_extra "m:cl")) | (refine (sk8 neNat neNat neNat neInt neInt neInt neInt neInt ((?_ : ∀ (l2 : Addr) (n : Nat) (n' : Nat) (xa : Int) (xb : Int) (xc : Int) (ya : Int) (yb : Int), _) _ _ _ _ _ _ _ _) :); intros l2 n n' xa xb xc ya yb)); (first | (k_dflt (refine' (us8 neInt neTok neTok neTok neTok neTok neTok neTok ?z9sl ((?_ : L8 _ _ _ _ _ _ _ _ _) () ()) :); (case z9sl => k_extra "m:slot"); intros u8 yc ta tb tc ta' tb' tc' tt u9; clear u8 u9; k_extra "m:cl")) | (refine (sk8 neInt neTok neTok neTok neTok neTok neTok neTok ((?_ : ∀ (yc : Int) (ta : Tok) (tb : Tok) (tc : Tok) (ta' : Tok) (tb' : Tok) (tc' : Tok) (tt : Tok), _) _ _ _ _ _ _ _ _) :); intros yc ta tb tc ta' tb' tc' tt)); (first | (k_dflt (refine' (us1 neInt ?z9sl ((?_ : L1 _ _) () ()) :); (case z9sl => k_extra "m:slot"); intros u8 th u9; clear u8 u9; k_extra "m:cl")) | (refine (sk1 neInt ((?_ : ∀ (th : Int), _) _) :); intros th)); intros hm hm' hb hb' hs ht)
  case main =>
    have hmn := minI_bd hb.1 hb.2.1 hb.2.2
    have hB1 := bd_of hb'
    have hB2 := bk_of hb'
    have hB3 := bd_of hb
    have hB4 := bd_bare hb hmn
    have hB5 := sz30 hs
    k_extra "m:enterCO"
    k_steps
    · unfold eulerF at hret
      rw [if_pos (by assumption)] at hret
      exact ret_old (Q := Q) (s := s) hret (by assumption) (by assumption) (by lcg_sub)
    · have hk0 := thd10 hs
      have hrs := rng_of hk0.1 hk0.2
      refine ⟨?_⟩
      refine' pow_loop eOwn (bareC xa xb xc) rfl ?r hrs.1 hrs.2 ?F ?N ?e0 ?hP ?turn ?done
      case r => assumption
      case F => assumption
      case N => assumption
      case e0 => rfl
      case hP => k_mem
      case turn =>
        ((first | (k_dflt (refine' (us8 neNat neObj neNat neTok neFr neLed neNat neTok ?z9sl ((?_ : L8 _ _ _ _ _ _ _ _ _) () ()) :); (case z9sl => k_extra "m:slot"); intros u8 I o i tok m₁ led P u0 u9; clear u8 u9; k_extra "m:cl")) | (refine (sk8 neNat neObj neNat neTok neFr neLed neNat neTok ((?_ : ∀ (I : Addr) (o : Obj) (i : Nat) (tok : Tok) (m₁ : Str → Option Value) (led : Led) (P : Addr) (u0 : Tok), _) _ _ _ _ _ _ _ _) :); intros I o i tok m₁ led P u0)); (first | (k_dflt (refine' (us5 neTok neTok neNat neHeap neNat ?z9sl ((?_ : L5 _ _ _ _ _ _) () ()) :); (case z9sl => k_extra "m:slot"); intros u8 u1 u2 nP h7 tk7 u9; clear u8 u9; k_extra "m:cl")) | (refine (sk5 neTok neTok neNat neHeap neNat ((?_ : ∀ (u1 : Tok) (u2 : Tok) (nP : Nat) (h7 : Heap) (tk7 : Nat), _) _ _ _ _ _) :); intros u1 u2 nP h7 tk7)))
        intros hi hs9 sb9 e1 hP9 hne F9 N9
        simp only [List.forall_mem_cons] at sb9
        obtain ⟨sb1, sb2, sb3, sb4, sb5⟩ := sb9
        have e2 : m₁ (Str.ofString "bare") = some _ := (hs9 _ (by decide)).trans rfl
        refine gen_T ?_
        ((first | (k_dflt (refine' (us1 neFl ?z9sl ((?_ : L1 _ _) () ()) :); (case z9sl => k_extra "m:slot"); intros u8 T9 u9; clear u8 u9; k_extra "m:cl")) | (refine (sk1 neFl ((?_ : ∀ (T9 : Flow → Shared → Prop), _) _) :); intros T9)))
        intro hT9
        try dsimp only
        k_steps
        refine hT9 _ _ ?_
        dsimp only [TurnK]
        refine' pow_end ?F ?N ?hs ?sb ?e1 ?sub hne ?hPI ?ec
        case F => assumption
        case N => assumption
        case hs =>
          repeat (refine Same.set ?_ (by decide))
          exact hs9
        case sb =>
          simp only [List.forall_mem_cons]
          exact ⟨sb1, sb2, sb3, sb4, sb5⟩
        case e1 => rfl
        case sub => lcg_sub
        case hPI => k_ne
        case ec => rfl
      case done =>
        ((first | (k_dflt (refine' (us8 neFr neLed neNat neTok neTok neTok neNat neHeap ?z9sl ((?_ : L8 _ _ _ _ _ _ _ _ _) () ()) :); (case z9sl => k_extra "m:slot"); intros u8 m₁ led P u0 u1 u2 nP h7 u9; clear u8 u9; k_extra "m:cl")) | (refine (sk8 neFr neLed neNat neTok neTok neTok neNat neHeap ((?_ : ∀ (m₁ : Str → Option Value) (led : Led) (P : Addr) (u0 : Tok) (u1 : Tok) (u2 : Tok) (nP : Nat) (h7 : Heap), _) _ _ _ _ _ _ _ _) :); intros m₁ led P u0 u1 u2 nP h7)); (first | (k_dflt (refine' (us1 neNat ?z9sl ((?_ : L1 _ _) () ()) :); (case z9sl => k_extra "m:slot"); intros u8 tk7 u9; clear u8 u9; k_extra "m:cl")) | (refine (sk1 neNat ((?_ : ∀ (tk7 : Nat), _) _) :); intros tk7)))
        intros hs9 sb9 e1 hP9 F9 N9
        simp only [List.forall_mem_cons] at sb9
        obtain ⟨sb1, sb2, sb3, sb4, sb5⟩ := sb9
        have e2 : m₁ (Str.ofString "m") = some (.ref l2) := (hs9 _ (by decide)).trans rfl
        have e3 : m₁ (Str.ofString "size") = some _ := (hs9 _ (by decide)).trans rfl
        have e4 : m₁ (Str.ofString "thirds") = some _ := (hs9 _ (by decide)).trans rfl
        have hm2 := sb5 _ hm'
        have hth := th_three ht (by assumption)
        rcases hth with e9 | e9 | e9
        all_goals rw [e9] at e4 hret
        all_goals k_steps
        all_goals (
          unfold eulerF nameC at hret
          rw [if_neg (by decide)] at hret
          exact ret_old (Q := Q) (s := s) hret (by assumption) (by assumption) (fun p hp => by have hq := sb5 p hp; k_extra "m:in"))
  (all_goals k_extra "m:pour"); (k_with "m:slot" => fail "no slot")
end
end PEul
section PPF9
noncomputable def sh (x : Col3) (k : Int) : Col3 := (x.1 + k, x.2.1 + k, x.2.2 + k)
theorem size_sh {a b c : Int} (k : Int) : sizeF (a + k) (b + k) (c + k) = sizeF a b c := by unfold sizeF; grind
theorem nm1_sh {a b c a' b' c' : Int} (j k : Int) : nm1 (a + j) (b + j) (c + j) (a' + k) (b' + k) (c' + k) = nm1 a b c a' b' c' := by unfold nm1; grind
theorem nm2_sh {a b c a' b' c' : Int} (j k : Int) : nm2 (a + j) (b + j) (c + j) (a' + k) (b' + k) (c' + k) = nm2 a b c a' b' c' := by unfold nm2; grind
noncomputable def ixC (x y : Col3) (size : Int) : Nat × Nat := (ixA x.1 x.2.1 x.2.2 y.1 y.2.1 y.2.2 size, ixB x.1 x.2.1 x.2.2 y.1 y.2.1 y.2.2 size)
theorem ixA_sh {x y : Col3} {size : Int} (j k : Int) : ixA (sh x j).1 (sh x j).2.1 (sh x j).2.2 (sh y k).1 (sh y k).2.1 (sh y k).2.2 size = ixA x.1 x.2.1 x.2.2 y.1 y.2.1 y.2.2 size := by
  unfold ixA sh; dsimp only; rw [nm1_sh]
theorem ixB_sh {x y : Col3} {size : Int} (j k : Int) : ixB (sh x j).1 (sh x j).2.1 (sh x j).2.2 (sh y k).1 (sh y k).2.1 (sh y k).2.2 size = ixB x.1 x.2.1 x.2.2 y.1 y.2.1 y.2.2 size := by
  unfold ixB sh; dsimp only; rw [nm2_sh]
theorem rtc_sh (c : Col3) (k : Int) (j : Nat) : rtc (sh c k) j = sh (rtc c j) k := by
  unfold rtc rt sh; split <;> rfl
theorem col_sh (white : Int) (i : Nat) : col white i 0 = sh (col 0 i 0) white := by
  unfold col rt sh; simp
theorem hit_sh {y : Col3} {size k w : Int} {c : Col3} {ia ib j : Nat} : hit (sh y k).1 (sh y k).2.1 (sh y k).2.2 size (rtc (sh c w) j) ia ib = hit y.1 y.2.1 y.2.2 size (rtc c j) ia ib := by
  unfold hit; rw [rtc_sh, ixA_sh, ixB_sh]
theorem look1_sh {y : Col3} {size k w : Int} {c : Col3} {ia ib : Nat} : look1 (sh y k).1 (sh y k).2.1 (sh y k).2.2 size ia ib (sh c w) = (look1 y.1 y.2.1 y.2.2 size ia ib c).map fun q => (q.1, sh q.2 w) := by
  unfold look1
  rw [hit_sh, hit_sh, hit_sh]
  split
  · rfl
  · split
    · rfl
    · split <;> rfl
theorem lookT_sh {y : Col3} {size k w : Int} {ia ib : Nat} : ∀ fs : List Col3, lookT (sh y k).1 (sh y k).2.1 (sh y k).2.2 size (fs.map fun c => sh c w) ia ib = (lookT y.1 y.2.1 y.2.2 size fs ia ib).map fun q => (q.1, sh q.2 w)
  | [] => rfl
  | c :: fs => by
    have ih := lookT_sh (y := y) (size := size) (k := k) (w := w) (ia := ia) (ib := ib) fs
    unfold lookT at *
    rw [List.map_cons, List.findSome?_cons, List.findSome?_cons, look1_sh]
    cases look1 y.1 y.2.1 y.2.2 size ia ib c with
    | some q => rfl
    | none => exact ih
/-- the first colours that are laid, without white or texts -/
noncomputable def fB (y : Col3) (size : Int) : Nat → List Col3
  | 0 => []
  | i + 1 =>
    let fs := fB y size i
    if (ixA (col 0 i 0).1 (col 0 i 0).2.1 (col 0 i 0).2.2 y.1 y.2.1 y.2.2 size == 0 && ixB (col 0 i 0).1 (col 0 i 0).2.1 (col 0 i 0).2.2 y.1 y.2.1 y.2.2 size == 0) || (lookT y.1 y.2.1 y.2.2 size fs (ixA (col 0 i 0).1 (col 0 i 0).2.1 (col 0 i 0).2.2 y.1 y.2.1 y.2.2 size) (ixB (col 0 i 0).1 (col 0 i 0).2.1 (col 0 i 0).2.2 y.1 y.2.1 y.2.2 size)).isSome then fs
    else fs ++ [col 0 i 0]
theorem firsts_sh {y : Col3} {size k w : Int} : ∀ i, firstsAt (sh y k).1 (sh y k).2.1 (sh y k).2.2 size w i = (fB y size i).map fun c => sh c w
  | 0 => rfl
  | i + 1 => by
    have ih := firsts_sh (y := y) (size := size) (k := k) (w := w) i
    unfold firstsAt fB
    rw [rowsAt_firsts, found_look, ih]
    have e1 : (rowC (sh y k).1 (sh y k).2.1 (sh y k).2.2 size (col w i 0)).1 = ixA (col 0 i 0).1 (col 0 i 0).2.1 (col 0 i 0).2.2 y.1 y.2.1 y.2.2 size := by
      rw [col_sh]; exact ixA_sh w k
    have e2 : (rowC (sh y k).1 (sh y k).2.1 (sh y k).2.2 size (col w i 0)).2.1 = ixB (col 0 i 0).1 (col 0 i 0).2.1 (col 0 i 0).2.2 y.1 y.2.1 y.2.2 size := by
      rw [col_sh]; exact ixB_sh w k
    rw [e1, e2, lookT_sh]
    simp only [Option.isSome_map]
    split
    · rfl
    · rw [List.map_append, List.map_cons, List.map_nil, ← col_sh]
theorem times_sh (x c : Col3) (j w : Int) : timesC (sh x j) (sh c w) = sh (timesC x c) (j * (c.1 + c.2.1 + c.2.2) + w * (x.1 + x.2.1 + x.2.2) + 3 * j * w) := by
  unfold timesC sh
  refine Prod.ext ?_ (Prod.ext ?_ ?_) <;> dsimp only <;> grind
theorem goT_map {look look' : Col3 → Option (Nat × Col3)} {f : Col3 → Col3} (h : ∀ c, (look' (f c)).map Prod.fst = (look c).map Prod.fst) : ∀ (fs : List Col3) (acc : Int), goT look' (fs.map f) acc = goT look fs acc
  | [], _ => rfl
  | c :: r, acc => by
    have hc := h c
    rw [List.map_cons, goT, goT]
    cases h1 : look' (f c) with
    | none =>
      rw [h1] at hc
      cases h2 : look c with
      | none => rfl
      | some q => rw [h2] at hc; cases hc
    | some q' =>
      rw [h1] at hc
      cases h2 : look c with
      | none => rw [h2] at hc; cases hc
      | some q =>
        rw [h2] at hc
        have : q'.1 = q.1 := Option.some.inj hc
        dsimp only
        rw [this]
        exact goT_map h r _
/-- the answer of the thirds, by the bare colours -/
noncomputable def thB (x y : Col3) (size : Int) : Int := goT (lookA x y.1 y.2.1 y.2.2 size (fB y size 10)) (fB y size 10) 0
theorem thirds_sh {x y : Col3} {size j k w : Int} : thirdsF (sh x j) (sh y k).1 (sh y k).2.1 (sh y k).2.2 size w = thB x y size := by
  unfold thirdsF thB
  rw [firsts_sh]
  refine goT_map (fun c => ?_) _ _
  unfold lookA
  rw [times_sh, ixA_sh, ixB_sh, lookT_sh, Option.map_map]
  rfl
noncomputable def C20 : List Col3 := [(0, 1, 1), (0, 1, 4), (0, 2, 2), (0, 2, 5), (0, 4, 1), (0, 4, 4), (0, 5, 2), (0, 5, 5), (1, 0, 0), (1, 0, 3), (1, 3, 0), (2, 0, 0), (2, 0, 3), (2, 3, 0), (4, 0, 0), (4, 0, 3), (4, 3, 0), (5, 0, 0), (5, 0, 3), (5, 3, 0)]
noncomputable def size3 (y : Col3) : Int := sizeF y.1 y.2.1 y.2.2
theorem firsts20 : C20.all (fun y => decide (0 < size3 y) && (decide (size3 y ≤ 25) && decide (3 * ((fB y (size3 y) 10).length : Int) = size3 y - 1))) = true := by decide +kernel
end PPF9
section PPFa
noncomputable def eulB (x y : Col3) : Bool := decide (size3 y = 16) || eulerF x.1 x.2.1 x.2.2 y.1 y.2.1 y.2.2 (thB x y (size3 y))
theorem sym20 : C20.all (fun x => C20.all fun y => decide (thB y x (size3 x) = thB x y (size3 y))) = true := by decide +kernel
theorem eul20 : C20.all (fun x => C20.all fun y => eulB x y) = true := by decide +kernel
end PPFa
section PPFb
structure UOk (x : Col3) : Prop where
  bd : (0 ≤ x.1 ∧ x.1 < 64) ∧ (0 ≤ x.2.1 ∧ x.2.1 < 64) ∧ (0 ≤ x.2.2 ∧ x.2.2 < 64)
  size : 0 < sizeF x.1 x.2.1 x.2.2 ∧ sizeF x.1 x.2.1 x.2.2 ≤ 25
  firsts : ∀ white, 3 * ((firstsAt x.1 x.2.1 x.2.2 (sizeF x.1 x.2.1 x.2.2) white 10).length : Int) = sizeF x.1 x.2.1 x.2.2 - 1
noncomputable def thrC (x y : Col3) (white : Int) : Int := thirdsF x y.1 y.2.1 y.2.2 (sizeF y.1 y.2.1 y.2.2) white
structure POk (x y : Col3) (white : Int) : Prop where
  euler : sizeF y.1 y.2.1 y.2.2 ≠ 16 → eulerF x.1 x.2.1 x.2.2 y.1 y.2.1 y.2.2 (thrC x y white) = true
  sym : thrC y x white = thrC x y white
theorem goT_bd {look : Col3 → Option (Nat × Col3)} : ∀ (fs : List Col3) (acc : Int), -1 ≤ goT look fs acc ∧ goT look fs acc < 3
  | [], acc => by unfold goT; exact ⟨by have := Int.fmod_nonneg_of_pos acc (by decide : (0 : Int) < 3); omega, Int.fmod_lt_of_pos _ (by decide)⟩
  | c :: r, acc => by
    unfold goT
    split
    · omega
    · exact goT_bd r _
theorem thrC_bd (x y : Col3) (white : Int) : -1 ≤ thrC x y white ∧ thrC x y white < 3 := goT_bd _ _
noncomputable def minC (u : Col3) : Int := minI u.1 u.2.1 u.2.2
noncomputable def upBare (p q r : Nat) : Bool := C20.contains (sh (upF p q r) (-minC (upF p q r))) && (decide (0 ≤ minC (upF p q r)) && decide (minC (upF p q r) ≤ 5))
theorem up20 : ∀ p, p < 6 → ∀ q, q < 6 → ∀ r, r < 6 → (p + q + r) % 3 ≠ 0 → upBare p q r = true := by decide +kernel
theorem c20_bd : C20.all (fun u => decide ((0 ≤ u.1 ∧ u.1 ≤ 5) ∧ (0 ≤ u.2.1 ∧ u.2.1 ≤ 5) ∧ (0 ≤ u.2.2 ∧ u.2.2 ≤ 5))) = true := by decide +kernel
theorem up_bd : ∀ p : Nat, p < 6 → ∀ q : Nat, q < 6 → ∀ r : Nat, r < 6 → decide (((upF p q r).1 ≤ 5) ∧ ((upF p q r).2.1 ≤ 5) ∧ ((upF p q r).2.2 ≤ 5)) = true := by decide +kernel
theorem sh_sh (x : Col3) (j k : Int) : sh (sh x j) k = sh x (j + k) := by unfold sh; refine Prod.ext ?_ (Prod.ext ?_ ?_) <;> dsimp only <;> lia
theorem sh_zero (x : Col3) : sh x 0 = x := by unfold sh; refine Prod.ext ?_ (Prod.ext ?_ ?_) <;> dsimp only <;> lia
theorem fm3 (a b w : Int) : (Int.fmod (w + a) 3 = Int.fmod (w + b) 3) = (Int.fmod a 3 = Int.fmod b 3) := by
  rw [Int.fmod_eq_emod_of_nonneg _ (by decide), Int.fmod_eq_emod_of_nonneg _ (by decide), Int.fmod_eq_emod_of_nonneg _ (by decide), Int.fmod_eq_emod_of_nonneg _ (by decide)]
  exact propext ⟨fun h => by lia, fun h => by lia⟩
theorem up_sh (w a b c : Int) : upF (w + a) (w + b) (w + c) = sh (upF a b c) w := by
  unfold upF sh
  simp only [fm3]
  split
  · refine Prod.ext ?_ (Prod.ext ?_ ?_) <;> dsimp only <;> lia
  · split <;> (refine Prod.ext ?_ (Prod.ext ?_ ?_) <;> dsimp only <;> lia)
theorem drawn_sh {n : Int} (h : 0 ≤ n ∧ n < 12744) : ∃ u k, u ∈ C20 ∧ upF (drawnF n).1 (drawnF n).2.1 (drawnF n).2.2 = sh u k ∧ UOk (sh u k) := by
  obtain ⟨w, p, q, r, hw, hp, hq, hr, hs, e⟩ := drawn_is h
  have hb := up20 p hp q hq r hr hs
  have hb2 := up_bd p hp q hq r hr
  unfold upBare at hb
  simp only [Bool.and_eq_true, decide_eq_true_eq] at hb hb2
  obtain ⟨h1, h2, h3⟩ := hb
  have hm : sh (upF p q r) (-minC (upF p q r)) ∈ C20 := List.contains_iff_mem.mp h1
  have hE : upF (drawnF n).1 (drawnF n).2.1 (drawnF n).2.2 = sh (sh (upF p q r) (-minC (upF p q r))) (minC (upF p q r) + w) := by
    rw [e, sh_sh]
    dsimp only
    have : (-minC (upF p q r) + (minC (upF p q r) + w)) = (w : Int) := by lia
    rw [this, ← up_sh]
    simp only [Int.natCast_add]
  have hu := List.all_eq_true.mp c20_bd _ hm
  have hf := List.all_eq_true.mp firsts20 _ hm
  simp only [decide_eq_true_eq] at hu
  simp only [Bool.and_eq_true, decide_eq_true_eq] at hf
  generalize minC (upF p q r) = m at *
  have hx5 : (sh (upF p q r) (-m)).1 + m ≤ 5 ∧ (sh (upF p q r) (-m)).2.1 + m ≤ 5 ∧ (sh (upF p q r) (-m)).2.2 + m ≤ 5 := by unfold sh; dsimp only; omega
  generalize sh (upF p q r) (-m) = u at *
  refine ⟨u, m + w, hm, hE, ⟨?_, ?_, fun white => ?_⟩⟩
  · unfold sh; dsimp only; omega
  · unfold sh; dsimp only; rw [size_sh]; exact ⟨hf.1, hf.2.1⟩
  · have es : sizeF (sh u (m + w)).1 (sh u (m + w)).2.1 (sh u (m + w)).2.2 = size3 u := size_sh _
    rw [es, firsts_sh, List.length_map]
    exact hf.2.2
theorem drawn_uok {n : Int} (h : 0 ≤ n ∧ n < 12744) : UOk (upF (drawnF n).1 (drawnF n).2.1 (drawnF n).2.2) := by
  obtain ⟨u, k, -, e, hU⟩ := drawn_sh h
  rw [e]; exact hU
theorem name_sh {x y : Col3} {size : Int} (j k : Int) : nameC (sh x j) (sh y k).1 (sh y k).2.1 (sh y k).2.2 size = nameC x y.1 y.2.1 y.2.2 size := by
  unfold nameC nameF sh; dsimp only; rw [nm1_sh, nm2_sh]
theorem name_sh0 {x y : Col3} {size : Int} (k : Int) : nameC x (sh y k).1 (sh y k).2.1 (sh y k).2.2 size = nameC x y.1 y.2.1 y.2.2 size := by
  have := name_sh (x := x) (y := y) (size := size) 0 k
  rw [sh_zero] at this
  exact this
theorem min_sh (a b c j : Int) : minI (a + j) (b + j) (c + j) = minI a b c + j := by unfold minI; lia
theorem bare_sh (x : Col3) (j : Int) : bareC (sh x j).1 (sh x j).2.1 (sh x j).2.2 = bareC x.1 x.2.1 x.2.2 := by
  unfold bareC sh
  dsimp only
  rw [min_sh, Int.add_sub_add_right, Int.add_sub_add_right, Int.add_sub_add_right]
theorem euler_sh {x y : Col3} {j k th : Int} : eulerF (sh x j).1 (sh x j).2.1 (sh x j).2.2 (sh y k).1 (sh y k).2.1 (sh y k).2.2 th = eulerF x.1 x.2.1 x.2.2 y.1 y.2.1 y.2.2 th := by
  have es : sizeF (sh y k).1 (sh y k).2.1 (sh y k).2.2 = sizeF y.1 y.2.1 y.2.2 := size_sh _
  unfold eulerF
  have h1 : nameC ((sh x j).1, (sh x j).2.1, (sh x j).2.2) y.1 y.2.1 y.2.2 (sizeF y.1 y.2.1 y.2.2) = nameC (x.1, x.2.1, x.2.2) y.1 y.2.1 y.2.2 (sizeF y.1 y.2.1 y.2.2) := by
    have := name_sh (x := x) (y := y) (size := sizeF y.1 y.2.1 y.2.2) j 0
    rw [sh_zero] at this
    exact this
  rw [es, bare_sh, name_sh0, name_sh0, name_sh0, h1]
theorem thrC_sh {x y : Col3} {j k w : Int} : thrC (sh x j) (sh y k) w = thB x y (size3 y) := by
  unfold thrC
  have es : sizeF (sh y k).1 (sh y k).2.1 (sh y k).2.2 = size3 y := size_sh _
  rw [es, thirds_sh]
theorem drawn_pok {n n' : Int} (h : 0 ≤ n ∧ n < 12744) (h' : 0 ≤ n' ∧ n' < 12744) (white : Int) : POk (upF (drawnF n).1 (drawnF n).2.1 (drawnF n).2.2) (upF (drawnF n').1 (drawnF n').2.1 (drawnF n').2.2) white := by
  obtain ⟨u, k, hu, e, -⟩ := drawn_sh h
  obtain ⟨v, l, hv, e', -⟩ := drawn_sh h'
  rw [e, e']
  have hs := List.all_eq_true.mp (List.all_eq_true.mp sym20 u hu) v hv
  have he := List.all_eq_true.mp (List.all_eq_true.mp eul20 u hu) v hv
  have es : sizeF (sh v l).1 (sh v l).2.1 (sh v l).2.2 = size3 v := size_sh _
  refine ⟨fun hne => ?_, ?_⟩
  · rw [es] at hne
    unfold eulB at he
    rw [decide_eq_false hne, Bool.false_or] at he
    rw [thrC_sh, euler_sh]
    exact he
  · rw [thrC_sh, thrC_sh]
    exact of_decide_eq_true hs
end PPFb
section PThL
structure SzOk (a : Array Value) : Prop where
  h : a.size ≤ sizeLine
theorem rows_sz {a' b' c' size white : Int} {i j : Nat} (hi : i < 10) (hj : j < 3) : (rowsAt txt3 a' b' c' size white i).length + j ≤ sizeLine := by
  have := rowsAt_len (txt := txt3) (a' := a') (b' := b') (c' := c') (size := size) (white := white) i
  exact Nat.le_trans (show _ ≤ 33 by omega) (by decide)
theorem sz_30 {n : Nat} (h : n ≤ 30) : n ≤ sizeLine := Nat.le_trans h (by decide)
theorem lt128 {x : Int} (h : 0 ≤ x ∧ x < 100) : 0 ≤ x ∧ x < 128 := ⟨h.1, Int.lt_trans h.2 (by decide)⟩
section
variable {w : World} {p : Program} {loose : List Str} {mean : ExcName → Option Value} {mg mb : Str → Option Value}
theorem ln_29 : True := by
  (k_with "call ref" => ((with_reducible show wpAny _ _ (call (Value.ref 301) _ _) _ _ _); k_dflt ((k_here; k_dflt (refine' (size_c ?z9z1 ?z9z2) _ _ _ _ _ _ _ _ _ _ _ _ _ _ _ _ _ ?k1 ?k2 ?k3 ?k4 ?k5 ?kK ?kd ?ku ?_; k_extra "m:std"; k_whole)); (case z9z1 => k_mem); (case z9z2 => first | with_reducible assumption | omega); ((first | (k_dflt (refine' (us1 neTok ?z9sl ((?_ : L1 _ _) () ()) :); (case z9sl => k_extra "m:slot"); intros u8 t1 u9; clear u8 u9; k_extra "m:cl")) | (refine (sk1 neTok ((?_ : ∀ (t1 : Tok), _) _) :); intros t1))); k_extra "m:got0")))
  (k_with "call ref" => ((with_reducible show wpAny _ _ (call (Value.ref 308) _ _) _ _ _); k_dflt ((k_here; k_dflt (refine' (name_cR ?z9z1 ?z9z2 ?z9z3 ?z9z4) _ _ _ _ _ _ _ _ _ _ _ _ _ _ _ _ _ ?k1 ?k2 ?k3 ?k4 ?k5 ?kK ?kd ?ku ?_; k_extra "m:std"; k_whole)); (case z9z1 => k_mem); (case z9z2 => k_mem); (case z9z3 => first | with_reducible assumption | omega); (case z9z4 => first | with_reducible assumption | omega); ((first | (k_dflt (refine' (us1 neTok ?z9sl ((?_ : L1 _ _) () ()) :); (case z9sl => k_extra "m:slot"); intros u8 t1 u9; clear u8 u9; k_extra "m:cl")) | (refine (sk1 neTok ((?_ : ∀ (t1 : Tok), _) _) :); intros t1))); k_extra "m:got0")))
  (k_with "call ref" => ((with_reducible show wpAny _ _ (call (Value.ref 155) _ _) _ _ _); k_here; k_dflt (refine' conv_c ?z9hx _ _ _ _ _ _ _ _ _ _ _ _ _ _ _ _ _ ?k1 ?k2 ?k3 ?k4 ?k5 ?kK ?kd ?ku ?_; (case z9hx => with_reducible assumption); k_extra "m:std"; k_whole); k_extra "m:got0"))
  (k_with "exec For Name Call cons nil" => ((with_reducible show wpAny _ _ (exec (Stmt.For _ (PySem.Expr.Call (PySem.Expr.Name _ _) [] [] _) _ _ _) _) _ _ _); k_dflt (refine wpAny_For ?_)))
  (k_with "eval ListComp" => ((with_reducible show wpAny _ _ (eval (PySem.Expr.ListComp (PySem.Expr.BinOp _ Operator.Add _ _) _ _ _) _) _ _ _); k_extra "m:comptup"))
  (k_with "eval ListComp" => ((with_reducible show wpAny _ _ (eval (PySem.Expr.ListComp (PySem.Expr.BinOp _ Operator.FloorDiv _ _) _ _ _) _) _ _ _); k_extra "m:comptup"))
  (k_with "exec Assign cons ListComp" => ((with_reducible show wpAny _ _ (exec (Stmt.Assign _ (PySem.Expr.ListComp (PySem.Expr.BinOp _ Operator.Add _ _) _ _ _) _) _) _ _ _); k_extra "m:asgtup"))
  (k_with "exec Assign cons ListComp" => ((with_reducible show wpAny _ _ (exec (Stmt.Assign _ (PySem.Expr.ListComp (PySem.Expr.BinOp _ Operator.FloorDiv _ _) _ _ _) _) _) _ _ _); k_extra "m:asgtup"))
  (k_with "eval Name" => ((first | (with_reducible show wpAny _ _ (eval (PySem.Expr.Name (Str.ofString "m") _) (envOfC _ _ _ _ _)) _ _ _) | (with_reducible show wpAny _ _ (eval (PySem.Expr.Name (Str.ofString "rows") _) (envOfC _ _ _ _ _)) _ _ _) | (with_reducible show wpAny _ _ (eval (PySem.Expr.Name (Str.ofString "size") _) (envOfC _ _ _ _ _)) _ _ _) | (with_reducible show wpAny _ _ (eval (PySem.Expr.Name (Str.ofString "colour") _) (envOfC _ _ _ _ _)) _ _ _) | (with_reducible show wpAny _ _ (eval (PySem.Expr.Name (Str.ofString "first") _) (envOfC _ _ _ _ _)) _ _ _)); k_here; k_dflt (refine' ldE ?z9k1 ?z9k2 ?z9k3 ?z9k4 ?z9k5 ?_; (case z9k1 => k_asm); (case z9k2 => first | (with_reducible assumption) | ((repeat (refine (if_neg (by decide)).trans ?_)); with_reducible assumption)); (case z9k3 => exact rfl); (case z9k4 => exact rfl); (case z9k5 => decide); k_whole)))
  (k_with "call builtin:str.lower" => ((with_reducible show wpAny _ _ (call (Value.builtin "str.lower") [Value.str _ _]) _ _ _); k_dflt (refine' lower_nm ?z9e ?_; (case z9e => with_reducible assumption); ((first | (k_dflt (refine' (us2 neTok neNat ?z9sl ((?_ : L2 _ _ _) () ()) :); (case z9sl => k_extra "m:slot"); intros u8 t9 k9 u9; clear u8 u9; k_extra "m:cl")) | (refine (sk2 neTok neNat ((?_ : ∀ (t9 : Tok) (k9 : Nat), _) _ _) :); intros t9 k9))))))
  (k_with "call ref" => ((with_reducible show wpAny _ _ (call (Value.ref 203) _ _) _ _ _); k_dflt ((k_here; k_dflt (refine' (get_c2 ?z9z1 ?z9z2 ?z9z3 ?z9i1 ?z9i2 ?z9i3 ?z9z4 ?z9z5 ?z9z6) _ _ _ _ _ _ _ _ _ _ _ _ _ _ _ _ _ ?k1 ?k2 ?k3 ?k4 ?k5 ?kK ?kd ?ku ?_; k_extra "m:std"; k_whole)); (case z9z1 => with_reducible assumption); (case z9z2 => with_reducible assumption); (case z9z3 => with_reducible assumption); (case z9i1 => with_reducible assumption); (case z9i2 => with_reducible assumption); (case z9i3 => k_mem); (case z9z4 => with_reducible assumption); (case z9z5 => with_reducible assumption); (case z9z6 => lcg_sub); (refine ⟨?_, ?_⟩ <;> first | ((with_reducible show ∀ _ : Row, _); ((first | (k_dflt (refine' (us2 (inferInstance : Nonempty (Row)) neTok ?z9sl ((?_ : L2 _ _ _) () ()) :); (case z9sl => k_extra "m:slot"); intros u8 r9 t9 u9; clear u8 u9; k_extra "m:cl")) | (refine (sk2 (inferInstance : Nonempty (Row)) neTok ((?_ : ∀ (r9 : Row) (t9 : Tok), _) _ _) :); intros r9 t9))); intro hfnd; k_extra "m:got0") | (intro hfnd; k_extra "m:got0")))))
  (k_with "exec For Name Call cons nil" => ((with_reducible show wpAny _ _ (exec (Stmt.For (PySem.Expr.Name (Str.ofString "third") _) _ _ _ _) _) _ _ _); k_dflt (refine wpAny_For ?_)))
  (k_with "call ref" => ((with_reducible show wpAny _ _ (call (Value.ref 66) _ _) _ _ _); (k_here; k_dflt (refine' (hsv_c ?z9z1) _ _ _ _ _ _ _ _ _ _ _ _ _ _ _ _ _ ?k1 ?k2 ?k3 ?k4 ?k5 ?kK ?kd ?ku ?_; k_extra "m:std"; k_whole)); (case z9z1 => with_reducible assumption); ((first | (k_dflt (refine' (us4 neNat neTok neTok neTok ?z9sl ((?_ : L4 _ _ _ _ _) () ()) :); (case z9sl => k_extra "m:slot"); intros u8 x1 t1 t2 t3 u9; clear u8 u9; k_extra "m:cl")) | (refine (sk4 neNat neTok neTok neTok ((?_ : ∀ (x1 : Addr) (t1 : Tok) (t2 : Tok) (t3 : Tok), _) _ _ _ _) :); intros x1 t1 t2 t3))); k_extra "m:got1"))
  (k_with "call ref" => ((with_reducible show wpAny _ _ (call (Value.ref 73) _ _) _ _ _); (k_here; k_dflt (refine' (vrgb_c ?z9z1) _ _ _ _ _ _ _ _ _ _ _ _ _ _ _ _ _ ?k1 ?k2 ?k3 ?k4 ?k5 ?kK ?kd ?ku ?_; k_extra "m:std"; k_whole)); (case z9z1 => with_reducible assumption); ((first | (k_dflt (refine' (us4 neNat neTok neTok neTok ?z9sl ((?_ : L4 _ _ _ _ _) () ()) :); (case z9sl => k_extra "m:slot"); intros u8 x1 t1 t2 t3 u9; clear u8 u9; k_extra "m:cl")) | (refine (sk4 neNat neTok neTok neTok ((?_ : ∀ (x1 : Addr) (t1 : Tok) (t2 : Tok) (t3 : Tok), _) _ _ _ _) :); intros x1 t1 t2 t3))); k_extra "m:got1"))
  (k_with "binaryOp FloorDiv int int" => ((with_reducible show wpAny _ _ (binaryOp Operator.FloorDiv (Value.int (Mine.hk _) _) (Value.int 64 _)) _ _ _); k_dflt (refine' fdiv_hk ?z9e ?_; (case z9e => with_reducible assumption))))
  (k_with "call type:int" => ((with_reducible show wpAny _ _ (call (Value.type "int") [Value.float (Float64.add _ _) _] _) _ _ _); k_dflt (refine' int_hk ?z9e ?_; (case z9e => with_reducible assumption))))
  (k_with "binaryOp Div int int" => ((with_reducible show wpAny _ _ (binaryOp Operator.Div (Value.int _ _) (Value.int 64 _)) _ _ _); k_dflt (refine' div64 ?z9e ?_; (case z9e => with_reducible assumption))))
  (k_with "subscriptTail Name Constant ref int" => k_extra "m:item")
  (k_with "call type:str" => ((with_reducible show wpAny _ _ (call (Value.type "str") [Value.int _ _]) _ _ _); k_dflt (refine' str_dec ?z9e ?_; (case z9e => with_reducible assumption))))
  (k_with "call builtin:str.join" => ((with_reducible show wpAny _ _ (call (Value.builtin "str.join") [Value.str _ _, Value.ref _]) _ _ _); k_dflt (refine' join_txt ?z9n ?z9m ?_; (case z9n => k_asm); (case z9m => k_mem); ((first | (k_dflt (refine' (us2 neTok neNat ?z9sl ((?_ : L2 _ _ _) () ()) :); (case z9sl => k_extra "m:slot"); intros u8 t9 k9 u9; clear u8 u9; k_extra "m:cl")) | (refine (sk2 neTok neNat ((?_ : ∀ (t9 : Tok) (k9 : Nat), _) _ _) :); intros t9 k9))))))
  (k_with "eval ListComp" => ((with_reducible show wpAny _ _ (eval (PySem.Expr.ListComp (PySem.Expr.Call (PySem.Expr.Name (Str.ofString "str") _) _ _ _) _ _ _) _) _ _ _); k_here; k_dflt (refine LCg.ListComp_U (F₀ := by k_asm) (by rfl) (by decide) (by rfl) (by decide) (by rfl) ?_)))
  (k_with "eval ListComp" => ((with_reducible show wpAny _ _ (eval (PySem.Expr.ListComp (PySem.Expr.Call (PySem.Expr.Name (Str.ofString "int") _) _ _ _) _ _ _) _) _ _ _); k_here; k_dflt (refine LCg.ListComp_U (F₀ := by k_asm) (by rfl) (by decide) (by rfl) (by decide) (by rfl) ?_)))
  (k_with "CompSrc" => (k_here; k_dflt (refine' LCg.CompSrc.ledger ?z9a ?z9b ?z9c ?z9d ?z9e ?_; (case z9a => exact rfl); (case z9b => k_asm); (case z9c => k_asm); (case z9d => k_mem); (case z9e => first | exact Nat.le_of_ble_eq_true rfl | size_fits); ((first | (k_dflt (refine' (us1 neHeap ?z9sl ((?_ : L1 _ _) () ()) :); (case z9sl => k_extra "m:slot"); intros u8 g' u9; clear u8 u9; k_extra "m:cl")) | (refine (sk1 neHeap ((?_ : ∀ (g' : Heap), _) _) :); intros g'))); lcg_lit)))
  (k_with "m:tab9" => first | assumption | exact TabAt.ofFr (by assumption) (by assumption) | exact TabAt.ofNews (by assumption) (by k_mem) (by assumption) (by assumption) (by assumption) | exact TabAt.ofNews (News.right (by assumption)) (by k_mem) (by assumption) (by assumption) (by assumption))
  (k_with "exec For Tuple Call cons nil" => (k_here; (first | (rename TabAt _ _ _ _ _ => z9l) | (rename Obj.IsDictOf _ _ _ => z9l)); with_unfolding_all ((rename Fr _ _ _ _ => z9F); (rename News _ _ _ _ => z9N); (with_reducible apply For_pair_unrF); (case _F => exact z9F); (case hs => (intro _; rfl)); (refine MethodCall_ ?_); (refine ld z9F (by rfl) ?_); (refine getMethod_tab PySem.F.slot_dict_items PySem.F.type_dict_items (by k_extra "m:tab9") ?_); (refine callWith_method0 ?_); (refine call_items_tab (by k_extra "m:tab9") z9F z9N ?_); ((first | (k_dflt (refine' (us2 neHeap neObj ?z9sl ((?_ : L2 _ _ _) () ()) :); (case z9sl => k_extra "m:slot"); intros u8 h' o u9; clear u8 u9; k_extra "m:cl")) | (refine (sk2 neHeap neObj ((?_ : ∀ (h' : Heap) (o : Obj), _) _ _) :); intros h' o))); intros z9v z9F z9N; (refine Iter_strItems_unr (by rfl) (by rfl) (by rfl) (by rfl) z9v (by k_extra "m:tab9") z9F z9N (by first | exact .inr ⟨_, .head _⟩ | exact .inr ⟨_, .tail _ (.head _)⟩ | exact .inr ⟨_, .tail _ (.tail _ (.head _))⟩ | exact .inr ⟨_, .tail _ (.tail _ (.tail _ (.head _)))⟩) ?_))))
  (k_with "UnrI" => ((with_unfolding_all refine UnrI.zero ?_); ((first | (k_dflt (refine' (us2 neHeap neNat ?z9sl ((?_ : L2 _ _ _) () ()) :); (case z9sl => k_extra "m:slot"); intros u8 h' tk' u9; clear u8 u9; k_extra "m:cl")) | (refine (sk2 neHeap neNat ((?_ : ∀ (h' : Heap) (tk' : Nat), _) _ _) :); intros h' tk'))); intros F' N'))
  (k_with "call builtin:list.append" => (k_here; (with_reducible show wpAny _ _ (call (Value.builtin _) [Value.ref _, _]) _ _ _); k_dflt (first | (refine' append_K ?z9k1 ?z9k2 ?z9k3 ?_ ?z9z; (case z9k1 => k_asm); (case z9k2 => k_asm); (case z9k3 => k_upd); (case z9z => first | (refine SzOk.h ?_; with_reducible assumption) | exact Nat.le_of_ble_eq_true rfl); k_whole) | (refine' append_K ?z9k1 (drop2 ?z9k2) ?z9k3 ?_ ?z9z; (case z9k1 => k_asm); (case z9k2 => k_asm); (case z9k3 => k_upd); (case z9z => first | (refine SzOk.h ?_; with_reducible assumption) | exact Nat.le_of_ble_eq_true rfl); k_whole)); ((first | (k_dflt (refine' (us1 neHeap ?z9sl ((?_ : L1 _ _) () ()) :); (case z9sl => k_extra "m:slot"); intros u8 h' u9; clear u8 u9; k_extra "m:cl")) | (refine (sk1 neHeap ((?_ : ∀ (h' : Heap), _) _) :); intros h'))); intros F' N'; (try k_sweep)))
  (k_with "m:k_all" => with_reducible assumption)
  (k_with "call builtin:str.join" => ((with_reducible show wpAny _ _ (call (Value.builtin "str.join") [Value.str _ _, Value.ref _]) _ _ _); k_dflt (refine' join_one ?z9n ?z9m (by decide) ?z9y ?_; (case z9n => k_asm); (case z9m => k_mem); (case z9y => exact Nat.le_trans (txt_len _ _ _) (by decide)); ((first | (k_dflt (refine' (us2 neTok neNat ?z9sl ((?_ : L2 _ _ _) () ()) :); (case z9sl => k_extra "m:slot"); intros u8 t9 k9 u9; clear u8 u9; k_extra "m:cl")) | (refine (sk2 neTok neNat ((?_ : ∀ (t9 : Tok) (k9 : Nat), _) _ _) :); intros t9 k9))))))
  trivial
noncomputable abbrev tOwn : List Str := [Str.ofString "first", Str.ofString "colour", Str.ofString "name", Str.ofString "third", Str.ofString "hue", Str.ofString "share", Str.ofString "level"]
end
end PThL
section PThL2
open PySem.Spec PySem.Calls
open LCg LCp
section
variable {prog : Program} {w : World} {A : Around} {E : Value → Shared → Prop} {s : Shared} {h₀ : Heap} {L : Addr}
theorem len_led {news : Led} {l : Addr} {its : Array Value} {n : Nat} {k : Int} {Q : Value → Shared → Prop} (N : News h₀ L s.heap news) (hm : (l, listOf its n) ∈ news) (e : (its.size : Int) = k) (hz : its.size ≤ sizeLine)
    (h : Q (.int k (s.toks + 1)) { s with toks := s.toks + 1 + 1 }) : wpAny (model prog w) A (call (.builtin "len") [.ref l]) Q E s := by
  subst e
  refine PyProof.Rows.len_list (N.isList hm) ?_ h
  have : its.size < 2 ^ 63 := Nat.lt_of_le_of_lt hz (by decide)
  exact_mod_cast this
end
/-- the texts of the first colours -/
noncomputable def TextsAre (zs : List Value) (fs : List Col3) : Prop := zs.length = fs.length ∧ ∀ (k : Nat) (c : Col3), fs[k]? = some c → ∃ t, zs[k]? = some (Value.str (txt3 c.1 c.2.1 c.2.2) t)
theorem texts_of {ys : List Value} {fs : List Col3} {a' b' c' size : Int} (hc : ColIs false ys (fs.flatMap (three a' b' c' size)) (fs.flatMap (three a' b' c' size)).length) : TextsAre ((List.range fs.length).map fun k => ys.getD (3 * k) .none) fs := by
  have hl : ys.length = 3 * fs.length := hc.1.trans (three_len _)
  refine ⟨by simp, fun k c hk => ?_⟩
  have hlt : k < fs.length := (List.getElem?_eq_some_iff.mp hk).1
  obtain ⟨t, e⟩ := hc.2 (3 * k) (rowC a' b' c' size c) (by rw [three_len]; omega) (by rw [three_at, hk]; rfl)
  exact ⟨t, by rw [pick3_at hl hlt, e]; rfl⟩
section
variable {prog : Program} {w : World} {A : Around} {E : Value → Shared → Prop} {s : Shared} {h₀ : Heap} {L : Addr} {m : Str → Option Value}
theorem slice_col {news : Led} {l : Addr} {ys : List Value} {fs : List Col3} {a' b' c' size : Int} {value slice : PySem.Expr} {t3 : Tok} {ops : List Value} {Q : Value → Shared → Prop} (F : Fr h₀ L s.heap m) (N : News h₀ L s.heap news) (hm : (l, lst ys) ∈ news)
    (hc : ColIs false ys (fs.flatMap (three a' b' c' size)) (fs.flatMap (three a' b' c' size)).length) (hf : fs.length ≤ 10)
    (h : ∀ D zs h', TextsAre zs fs → Fr h₀ L h' m → News h₀ L h' ((D, listOf zs.toArray 0) :: news) → (∀ p ∈ news, p.1 < D) → Q (.ref D) { s with heap := h' })
    (hs : subscripted slice false (.ref l) (.ref s.heap.objs.size) = operate ops (getItem (.ref l) (.ref s.heap.objs.size))) (ht : ∀ r, letTemporaryGo value (.ref l) r = pure ()) :
    wpAny (model prog w) A (subscriptTail value slice (.ref l) (.ref s.heap.objs.size)) Q E { s with heap := s.heap.push { cls := .type "slice", data := .fields #[.none, .none, .int 3 t3] } } := by
  have hl : ys.length = 3 * fs.length := hc.1.trans (three_len _)
  refine kmk_slice3_lit (its := ys.toArray) F N ⟨_, (N _ hm).1, rfl, _, rfl⟩ .none .none (.int _ _) (by decide) (pick3 hl) (fun D h' F' N' lt => h D _ h' (texts_of hc) F' N' lt) hs ht ?_
  rw [List.size_toArray, hl]
  exact Nat.le_trans (show _ ≤ 30 by omega) (by decide)
end
theorem ln_30 : True := by
  (k_with "subscriptTail Name Slice ref ref" => (k_here; (with_reducible show wpAny _ _ (subscriptTail _ (PySem.Expr.Slice none none (some _) _) (Value.ref _) (Value.ref _)) _ _ _); k_dflt (refine' slice_col ?z9F ?z9N ?z9l ?z9c ?z9f ?_ ?z9s ?z9t; (case z9F => k_asm); (case z9N => k_asm); (case z9l => k_mem); (case z9c => assumption); (case z9f => assumption); (case z9s => with_unfolding_all rfl); (case z9t => kmk_pure)); ((first | (k_dflt (refine' (us3 neNat neLv neHeap ?z9sl ((?_ : L3 _ _ _ _) () ()) :); (case z9sl => k_extra "m:slot"); intros u8 D' zs' h' u9; clear u8 u9; k_extra "m:cl")) | (refine (sk3 neNat neLv neHeap ((?_ : ∀ (D' : Addr) (zs' : List Value) (h' : Heap), _) _ _ _) :); intros D' zs' h'))); intros hz' F' N' l1; (try k_lt l1); (try k_sweep)))
  (k_with "exec For Name Subscript cons nil" => ((with_reducible show wpAny _ _ (exec (Stmt.For _ (PySem.Expr.Subscript _ _ _) _ _ _) _) _ _ _); k_dflt (refine wpAny_For ?_)))
  (k_with "m:gotO" => ((dsimp only [List.nil_append, List.cons_append, Apart]); ((first | (k_dflt (refine' (us2 neHeap neNat ?z9sl ((?_ : L2 _ _ _) () ()) :); (case z9sl => k_extra "m:slot"); intros u8 h' tk' u9; clear u8 u9; k_extra "m:cl")) | (refine (sk2 neHeap neNat ((?_ : ∀ (h' : Heap) (tk' : Nat), _) _ _) :); intros h' tk'))); intros F' N' ap'; (simp only [List.forall_mem_cons, and_true] at ap'); (try dsimp only); (try k_sweep)))
  (k_with "call builtin:len" => (k_here; (with_reducible show wpAny _ _ (call (Value.builtin "len") [Value.ref _]) _ _ _); k_dflt (refine' len_led ?z9k1 ?z9k2 ?z9k3 ?z9k4 ?_; (case z9k1 => k_asm); (case z9k2 => k_mem); (case z9k3 => assumption); (case z9k4 => assumption); k_whole)))
  (k_with "call ref" => ((with_reducible show wpAny _ _ (call (Value.ref 208) _ _) _ _ _); k_dflt ((k_here; k_dflt (refine' (keys_c ?z9i1 ?z9i2 ?z9i3 ?z9z5 ?z9z6 ?z9z7) _ _ _ _ _ _ _ _ _ _ _ _ _ _ _ _ _ ?k1 ?k2 ?k3 ?k4 ?k5 ?kK ?kd ?ku ?_; k_extra "m:std"; k_whole)); (case z9i1 => with_reducible assumption); (case z9i2 => with_reducible assumption); (case z9i3 => k_mem); (case z9z5 => with_reducible assumption); (case z9z6 => lcg_sub); (case z9z7 => assumption); ((first | (k_dflt (refine' (us2 neNat neLv ?z9sl ((?_ : L2 _ _ _) () ()) :); (case z9sl => k_extra "m:slot"); intros u8 D' ys' u9; clear u8 u9; k_extra "m:cl")) | (refine (sk2 neNat neLv ((?_ : ∀ (D' : Addr) (ys' : List Value), _) _ _) :); intros D' ys'))); intro hc'; k_extra "m:gotO")))
  (k_with "call ref" => ((with_reducible show wpAny _ _ (call (Value.ref 213) _ _) _ _ _); k_dflt ((k_here; k_dflt (refine' (values_c ?z9i1 ?z9i2 ?z9i3 ?z9z5 ?z9z6 ?z9z7) _ _ _ _ _ _ _ _ _ _ _ _ _ _ _ _ _ ?k1 ?k2 ?k3 ?k4 ?k5 ?kK ?kd ?ku ?_; k_extra "m:std"; k_whole)); (case z9i1 => with_reducible assumption); (case z9i2 => with_reducible assumption); (case z9i3 => k_mem); (case z9z5 => with_reducible assumption); (case z9z6 => lcg_sub); (case z9z7 => assumption); ((first | (k_dflt (refine' (us2 neNat neLv ?z9sl ((?_ : L2 _ _ _) () ()) :); (case z9sl => k_extra "m:slot"); intros u8 D' ys' u9; clear u8 u9; k_extra "m:cl")) | (refine (sk2 neNat neLv ((?_ : ∀ (D' : Addr) (ys' : List Value), _) _ _) :); intros D' ys'))); intro hc'; k_extra "m:gotO")))
  (k_with "SrcLP" => (k_here; k_dflt (refine LCp.SrcLP.ledger (by rfl) (by k_asm) (by k_asm) (by k_mem) (by assumption) ?_; ((first | (k_dflt (refine' (us1 neHeap ?z9sl ((?_ : L1 _ _) () ()) :); (case z9sl => k_extra "m:slot"); intros u8 g9 u9; clear u8 u9; k_extra "m:cl")) | (refine (sk1 neHeap ((?_ : ∀ (g9 : Heap), _) _) :); intros g9))); (first
    | refine rest_rows true rfl (fun _ => rfl) (by decide) (by rfl) (RowsIn.mono (by assumption) (by lcg_sub)) (Or.inr ⟨_, by k_mem, rfl, _, rfl⟩) ?_ _ 0 [] (by rw [Nat.zero_add]; exact And.left (by assumption)) ⟨rfl, fun j r hj => absurd hj (Nat.not_lt_zero _)⟩
    | refine rest_rows false rfl (fun _ => rfl) (by decide) (by rfl) (RowsIn.mono (by assumption) (by lcg_sub)) (Or.inr ⟨_, by k_mem, rfl, _, rfl⟩) ?_ _ 0 [] (by rw [Nat.zero_add]; exact And.left (by assumption)) ⟨rfl, fun j r hj => absurd hj (Nat.not_lt_zero _)⟩); ((first | (k_dflt (refine' (us1 neLv ?z9sl ((?_ : L1 _ _) () ()) :); (case z9sl => k_extra "m:slot"); intros u8 ys' u9; clear u8 u9; k_extra "m:cl")) | (refine (sk1 neLv ((?_ : ∀ (ys' : List Value), _) _) :); intros ys'))); intro hc')))
  (k_with "compareOp NotEq ref ref" => ((with_reducible show wpAny _ _ (compareOp CmpOp.NotEq (Value.ref _) (Value.ref _)) _ _ _); k_dflt (refine' ne_cols ?z9k1 ?z9x1 ?z9x2 ?z9a1 ?z9a2 ?z9b1 ?z9b2 ?z9c1 ?z9c2 ?z9d1 ?z9d2 ?z9hp ?z9hu ?_; (case z9k1 => k_asm); (case z9x1 => k_mem); (case z9x2 => k_mem); (case z9a1 => k_mem); (case z9a2 => k_mem); (case z9b1 => k_mem); (case z9b2 => k_mem); (case z9c1 => with_reducible assumption); (case z9c2 => with_reducible assumption); (case z9d1 => with_reducible assumption); (case z9d2 => with_reducible assumption); (case z9hp => assumption); (case z9hu => (first | k_extra "m:unit" | ktr_units)); k_whole)))
  trivial
end PThL2
section PTh4
/-- the one lambda: its place and its name -/
noncomputable abbrev lamPos : Pos := ⟨256, 44, 256, 92⟩
noncomputable abbrev lamQual : Str := (Str.ofString "_law_thirds" ++ ".<locals>.") ++ "<lambda>"
/-- the table of the codes that stand within _law_thirds: empty, or holding the lambda's code -/
noncomputable def TabSt (ps : Array Value) (led : Led) : Prop := ps = #[] ∨ ∃ c' oc vs t, ps = #[rawInt lamPos.line, rawInt lamPos.col, .ref c'] ∧ (c', oc) ∈ led ∧ oc.data = .fields vs ∧ vs[1]? = some (.str lamQual t)
theorem TabSt.mono {ps : Array Value} {led led' : Led} (h : TabSt ps led) (sub : ∀ p ∈ led, p ∈ led') : TabSt ps led' := by
  rcases h with h | ⟨c', oc, vs, t, e, hm, h1, h2⟩
  · exact .inl h
  · exact .inr ⟨c', oc, vs, t, e, sub _ hm, h1, h2⟩
/-- between the turns of the second loop -/
noncomputable def TxtSt (own : List Str) (m₀ : Str → Option Value) (news : Led) (look : Col3 → Option (Nat × Col3)) (fs : List Col3) (i : Nat) (m₁ : Str → Option Value) (led : Led) : Prop :=
  ∃ ps rest, led = (310, tabObj ps) :: rest ∧ (∀ p ∈ news, p ∈ rest) ∧ (∀ p ∈ rest, p.1 ≠ 310) ∧ TabSt ps rest ∧ Same own m₀ m₁ ∧ ∃ (acc : Int) (t : Tok), m₁ (Str.ofString "thirds") = some (.int acc t) ∧ goT look (fs.drop i) acc = goT look fs 0 ∧ (0 ≤ acc ∧ acc ≤ 2 * (i : Int))
section
variable {prog : Program} {w : World} {A : Around} {E : Value → Shared → Prop} {s : Shared} {env : Env} {h₀ : Heap} {v : Str} {px : Pos} {body : List Stmt} {R : Result → Shared → Prop}
theorem text_loop {l : Addr} {zs : List Value} {fs : List Col3} {n : Nat} {m₀ : Str → Option Value} {all news : Led} {t0 : Tok} {ps : Array Value} (own : List Str) (look : Col3 → Option (Nat × Col3))
    (hh : A.handled = none) (F : Fr h₀ env.locals s.heap m₀) (N : News h₀ env.locals s.heap all) (sub : ∀ p ∈ (310, tabObj ps) :: news, p ∈ all) (hP : ∀ p ∈ news, p.1 ≠ 310) (hT : TabSt ps news) (hm : (l, listOf zs.toArray n) ∈ news) (hz : TextsAre zs fs) (e0 : m₀ (Str.ofString "thirds") = some (.int 0 t0))
    (turn : ∀ I o i c t9 m₁ acc t h tk ps rest, i < fs.length → fs[i]? = some c → Same own m₀ m₁ → m₁ (Str.ofString "thirds") = some (.int acc t) → goT look (c :: fs.drop (i + 1)) acc = goT look fs 0 → (0 ≤ acc ∧ acc ≤ 2 * (i : Int)) →
      (∀ p ∈ news, p ∈ rest) → (∀ p ∈ rest, p.1 ≠ 310) → TabSt ps rest → (∀ p ∈ rest, p.1 ≠ I) → @Ne Nat 310 I →
      Fr h₀ env.locals h m₁ → News h₀ env.locals h ((I, o) :: (310, tabObj ps) :: rest) →
      wpAny (model prog w) A (assign (.Name v px) env (.str (txt3 c.1 c.2.1 c.2.2) t9)) (fun _ s₂ => wpAny (model prog w) A (execs body env) (TurnK h₀ env.locals (TxtSt own m₀ news look fs (i + 1)) I o { s with heap := h, toks := tk } R) (fun _ _ => False) s₂) (fun _ _ => False) { s with heap := h, toks := tk })
    (done : ∀ m₁ acc t h tk ps rest, Same own m₀ m₁ → m₁ (Str.ofString "thirds") = some (.int acc t) → acc.fmod 3 = goT look fs 0 → (0 ≤ acc ∧ acc ≤ 2 * (fs.length : Int)) →
      (∀ p ∈ news, p ∈ rest) → (∀ p ∈ rest, p.1 ≠ 310) → TabSt ps rest → Fr h₀ env.locals h m₁ → News h₀ env.locals h ((310, tabObj ps) :: rest) → R (.ok .next) { s with heap := h, toks := tk }) :
    wpAny (model prog w) A (pyIter (.ref l)) (fun it s₂ => codeAny (model prog w) A (.forLoop (.Name v px) it body [] env) R s₂) E s := by
  have hsz : zs.toArray.size = fs.length := by rw [List.size_toArray]; exact hz.1
  refine for_list (items := zs.toArray) (TxtSt own m₀ news look fs) hh (fun I i v s Q E hv hit hq => wpAny_of_eq rfl hq) F (fun p hp => N p (sub p hp)) ⟨ps, news, rfl, fun p hp => hp, hP, hT, Same.refl _ _, 0, t0, e0, rfl, by decide, by decide⟩ ?_ ?_ ?_
  · rintro i m₁ led h ⟨ps, rest, rfl, sb, -⟩ F9 N9
    exact N9.isList (.tail _ (sb _ hm))
  · rintro I o i v' m₁ led h tk hlt hv ⟨ps, rest, rfl, sb, hP, hT, hs, acc, t, e1, e2, e3⟩ hne F9 N9
    have hi : i < fs.length := by rw [← hsz]; exact (Array.getElem?_eq_some_iff.mp hv).1
    have hc : fs[i]? = some fs[i] := List.getElem?_eq_getElem hi
    obtain ⟨t9, e9⟩ := hz.2 i _ hc
    rw [List.getElem?_toArray, e9] at hv
    cases Option.some.inj hv
    rw [List.drop_eq_getElem_cons hi] at e2
    exact turn I o i fs[i] t9 m₁ acc t h tk ps rest hi hc hs e1 e2 e3 sb hP hT (fun p hp => hne p (.tail _ hp)) (hne _ (.head _)) F9 N9
  · rintro m₁ led h tk ⟨ps, rest, rfl, sb, hP, hT, hs, acc, t, e1, e2, e3⟩ F9 N9
    rw [hsz] at e2 e3
    rw [List.drop_length] at e2
    exact done m₁ acc t h tk ps rest hs e1 e2 e3 sb hP hT F9 N9
theorem text_end {own : List Str} {m₀ m₁ : Str → Option Value} {news rest all : Led} {look : Col3 → Option (Nat × Col3)} {fs : List Col3} {i : Nat} {I L : Addr} {o : Obj} {s₁ : Shared} {h' : Heap} {tk : Nat} {acc : Int} {q : Nat × Col3} {c : Col3} {t : Tok} {ps : Array Value}
    (F : Fr h₀ L h' m₁) (N : News h₀ L h' all) (sub : ∀ p ∈ (I, o) :: (310, tabObj ps) :: rest, p ∈ all) (sb : ∀ p ∈ news, p ∈ rest) (hP : ∀ p ∈ rest, p.1 ≠ 310) (hT : TabSt ps rest) (same : Same own m₀ m₁) (off : ∀ p ∈ rest, p.1 ≠ I) (off2 : @Ne Nat 310 I) (e1 : m₁ (Str.ofString "thirds") = some (.int (acc + (q.1 : Int)) t)) (hq : look c = some q) (hq3 : q.1 < 3)
    (e2 : goT look (c :: fs.drop (i + 1)) acc = goT look fs 0) (e3 : 0 ≤ acc ∧ acc ≤ 2 * (i : Int)) :
    ∃ h₂ tk₂ m₂ news₂, ({ s₁ with heap := h', toks := tk } : Shared) = { s₁ with heap := h₂, toks := tk₂ } ∧ Fr h₀ L h₂ m₂ ∧ News h₀ L h₂ ((I, o) :: news₂) ∧ (∀ p ∈ news₂, p.1 ≠ I) ∧ TxtSt own m₀ news look fs (i + 1) m₂ news₂ := by
  refine ⟨h', tk, m₁, _, rfl, F, fun p hp => N p (sub p hp), ?_, ps, rest, rfl, sb, hP, hT, same, acc + (q.1 : Int), t, e1, ?_, by omega, by omega⟩
  · intro p hp
    rcases List.mem_cons.mp hp with rfl | hp
    · exact off2
    · exact off p hp
  · rw [← e2, goT, hq]
end
section
variable {h₀ h : Heap} {L P a : Addr} {led : Led} {o oP : Obj}
theorem off_tab (N : News h₀ L h led) (hP : (P, oP) ∈ led) (hm : (a, o) ∈ led) (hne : o ≠ oP) : a ≠ P := by
  rintro rfl
  have h1 := (N _ hP).1
  have h2 := (N _ hm).1
  rw [h1] at h2
  exact hne (Option.some.inj h2).symm
noncomputable def offP (led : Led) : Led := led.filter fun p => p.1 != 310
theorem offP_ne : ∀ p ∈ offP led, p.1 ≠ 310 := fun p hp => by
  have := (List.mem_filter.mp hp).2
  simpa using this
theorem offP_mem {p : Addr × Obj} (hp : p ∈ led) (hne : p.1 ≠ 310) : p ∈ offP led := List.mem_filter.mpr ⟨hp, by simpa using hne⟩
theorem offP_sub : ∀ p ∈ offP led, p ∈ led := fun p hp => (List.mem_filter.mp hp).1
end
/-- the contract of _law_thirds: the table of its codes is told apart -/
noncomputable abbrev ClaimT (w : World) (p : Program) (loose : List Str) (mean : ExcName → Option Value) (mg mb : Str → Option Value) (f : Value) (n : Nat) (vs : List Value) (ps : Array Value) (news : Led) (ans : Int) : Prop :=
  ∀ (dp un : Nat) (gd : Option (List Code)) (cn : Str) (cs : Scope) (a : Addr) (ccd : Value) (cl : List (Str × Addr)) (outer : List Env) (A₀ : Around) (base h₀ : Heap) (L : Addr) (m : Str → Option Value) (s : Shared) (Q E : Value → Shared → Prop),
    Below A₀ base outer h₀ → Fr h₀ L s.heap m → (heapK w.params).In h₀ → News h₀ L s.heap ((310, tabObj ps) :: news) → Top p loose mean mg mb h₀ → cs.kind = .function → dp + n < recursionLimit → un + 8 * n < cLine → CodeHd base 312 310 →
    (∀ (t : Tok) (h' : Heap) (tk' : Nat) (ps' : Array Value) (news' : Led), Fr h₀ L h' m → News h₀ L h' ((310, tabObj ps') :: news') → (∀ p ∈ news, p ∈ news') → (∀ p ∈ news', p.1 ≠ 310) → TabSt ps' news' → Q (.int ans t) { s with heap := h', toks := tk' }) →
    wpAny (model PySem.Challenge.rw_kl0382_01.row.toRowW.prog w) (ktrTop dp un gd cn cs L a ccd cl outer) (call f vs) Q E s
section
variable {w : World} {p : Program} {loose : List Str} {mean : ExcName → Option Value} {mg mb : Str → Option Value}
theorem three_bd {a' b' c' size : Int} (hs : 0 < size ∧ size ≤ 25) {fs : List Col3} : ∀ r ∈ fs.flatMap (three a' b' c' size), r.1 < 25 ∧ r.2.1 < 25 := by
  intro r hr
  obtain ⟨c, _, hr⟩ := List.mem_flatMap.mp hr
  unfold three at hr
  simp only [List.mem_cons, List.not_mem_nil, or_false] at hr
  rcases hr with rfl | rfl | rfl <;> exact ⟨ixA_lt hs, ixB_lt hs⟩
theorem get_d3 {news tl : Led} {tb dx hl : Addr} {hvs : Array Value} {n : Nat} {tk t1 : Tok} {x : Str} {ia ib : Nat} {fs : List Col3} {a' b' c' size : Int} {dv : Value} (hs : 0 < size ∧ size ≤ 25) (hx : Txt.lower x = loS ia ib) (ha : ia < 25) (hb : ib < 25)
    (i1 : (tb, instObj 256 dx) ∈ tl) (i2 : (dx, dictOf [{ hash := PyData.keyHash w.params (Str.ofString "_headers"), key := .str (Str.ofString "_headers") tk, val := .ref hl }] 1) ∈ tl)
    (i3 : (hl, listOf hvs n) ∈ news) (hR : RowsIn tl hvs (fs.flatMap (three a' b' c' size))) (sub : ∀ p ∈ tl, p ∈ news) :
    Claim w p loose mean mg mb (.ref 203) 4 [.ref tb, .str x t1, dv] news (fun K => (∀ q t, lookT a' b' c' size fs ia ib = some q → K [] (.str (txt3 (rtc q.2 q.1).1 (rtc q.2 q.1).2.1 (rtc q.2 q.1).2.2) t)) ∧ (lookT a' b' c' size fs ia ib = none → K [] dv)) := by
  k_extra "m:skC"; intros B F X N T hk hd9 hu9 hret
  refine get_d dv hx ha hb (hR.mono sub) (three_bd hs) ⟨sub _ i1, sub _ i2, i3⟩ dp un gd cn cs a ccd cl outer A₀ base h₀ L m s Q E B F X N T hk hd9 hu9 ?_
  have e := found_look (a' := a') (b' := b') (c' := c') (size := size) (ia := ia) (ib := ib) fs
  unfold found at e
  rw [e]
  cases hf : lookT a' b' c' size fs ia ib with
  | some q => exact fun t => hret.1 q t hf
  | none => exact hret.2 hf
end
section
variable {prog : Program} {w : World} {A : Around} {E : Value → Shared → Prop} {s : Shared}
theorem upper_nm {x : Str} {i j : Nat} {t : Tok} {Q : Value → Shared → Prop} (e : Txt.upper x = upS i j) (h : ∀ t' k, Q (.str (upS i j) t') { s with toks := k }) : wpAny (model prog w) A (call (.builtin "str.upper") [.str x t]) Q E s :=
  KXw.upper e (by rw [e]; rfl) h
end
theorem ln_31 : True := by
  (k_with "call builtin:str.upper" => ((with_reducible show wpAny _ _ (call (Value.builtin "str.upper") _) _ _ _); k_dflt (refine' upper_nm ?z9e ?_; (case z9e => with_reducible assumption); ((first | (k_dflt (refine' (us2 neTok neNat ?z9sl ((?_ : L2 _ _ _) () ()) :); (case z9sl => k_extra "m:slot"); intros u8 t9 k9 u9; clear u8 u9; k_extra "m:cl")) | (refine (sk2 neTok neNat ((?_ : ∀ (t9 : Tok) (k9 : Nat), _) _ _) :); intros t9 k9))))))
  (k_with "call ref" => ((with_reducible show wpAny _ _ (call (Value.ref 203) [_, _, _] _) _ _ _); k_dflt ((k_here; k_dflt (refine' (get_d3 ?z9z0 ?z9z1 ?z9z2 ?z9z3 ?z9i1 ?z9i2 ?z9i3 ?z9z4 ?z9z6) _ _ _ _ _ _ _ _ _ _ _ _ _ _ _ _ _ ?k1 ?k2 ?k3 ?k4 ?k5 ?kK ?kd ?ku ?_; k_extra "m:std"; k_whole)); (case z9z0 => with_reducible assumption); (case z9z1 => with_reducible assumption); (case z9z2 => with_reducible assumption); (case z9z3 => with_reducible assumption); (case z9i1 => with_reducible assumption); (case z9i2 => with_reducible assumption); (case z9i3 => k_mem); (case z9z4 => with_reducible assumption); (case z9z6 => lcg_sub); (refine ⟨?_, ?_⟩ <;> first | ((with_reducible show ∀ _ : Nat × Col3, _); ((first | (k_dflt (refine' (us2 (inferInstance : Nonempty (Nat × Col3)) neTok ?z9sl ((?_ : L2 _ _ _) () ()) :); (case z9sl => k_extra "m:slot"); intros u8 q9 t9 u9; clear u8 u9; k_extra "m:cl")) | (refine (sk2 (inferInstance : Nonempty (Nat × Col3)) neTok ((?_ : ∀ (q9 : Nat × Col3) (t9 : Tok), _) _ _) :); intros q9 t9))); intro hfnd; k_extra "m:got0"; k_extra "m:some") | (intro hfnd; k_extra "m:got0")))))
  (k_with "m:enterT" => (k_extra "m:fill"; unfold ClaimT; k_extra "m:skC"; intros B F X N T hk hd9 hu9 hCd hret; (refine wpAny_call ?_); k_dflt (
    refine' code_defC ?k1 ?k2 ?k3 ?k4 ?k5 ?kA ?kF ?kK ?k6 ?k7 ?k8 ?k9 ?kB ?kD ?_ ?c2 ?c3 ?c4; (case kA => exact rfl); (case kF => exact rfl); (case kK => assumption); k_extra "m:std1"; (case k6 => k_is); (case k7 => k_is); (case k8 => (first | k_extra "m:room" | ktr_room)); (case k9 => exact BindsTo.of_eq rfl); (case kB => exact rfl); (case kD => decide +kernel); (case c2 => exact rfl); (case c3 => exact rfl); (case c4 => exact rfl); k_whole; ((first | (k_dflt (refine' (us5 neHeap neNat neHeap neNat neLed ?z9sl ((?_ : L5 _ _ _ _ _ _) () ()) :); (case z9sl => k_extra "m:slot"); intros u8 g' L' h' tk' cells' u9; clear u8 u9; k_extra "m:cl")) | (refine (sk5 neHeap neNat neHeap neNat neLed ((?_ : ∀ (g' : Heap) (L' : Addr) (h' : Heap) (tk' : Nat) (cells' : Led), _) _ _ _ _ _) :); intros g' L' h' tk' cells'))); intros FG' F' N' Y' B' X' T' l1; (try k_lt l1); k_extra "m:cells"; (try simp only [List.cons_append, List.nil_append] at N'); (try dsimp only); (try k_lift B'))))
  trivial
end PTh4
section PLam
open PySem.Spec PySem.Calls
section
variable {M : Model} {A : Around} {E : Value → Shared → Prop} {s : Shared} {h₀ : Heap} {L a c P : Addr} {m mg mb : Str → Option Value} {cn : Str} {cs : Scope} {ccd : Value} {cl : List (Str × Addr)} {news : List (Addr × Obj)} {g : Obj → List (Addr × Obj)}
  {p : Program} {loose : List Str} {mean : ExcName → Option Value} {name : Str} {params : Arguments} {body : PySem.Expr} {scope : Scope} {ps : Array Value} {firstLine : Nat} {clos : List (Str × Addr)}
theorem updF_same (U : UpdF P (tabObj ps) news g) : g (tabObj ps) = news := by
  obtain ⟨own, rest, e, hgr, _, _⟩ := U.split
  rw [hgr, e]
theorem lam_any {Q : Value → Shared → Prop} (F : Fr h₀ L s.heap m) (N : News h₀ L s.heap news) (T : Top p loose mean mg mb h₀) (C : CodeHd h₀ c P) (hcd : ccd = .ref c) (U : UpdF P (tabObj ps) news g) {rest : Led} {I : Addr} {oI : Obj} (hT : TabSt ps rest) (sub : ∀ p ∈ rest, p ∈ news) (hI : ∀ p ∈ rest, p.1 ≠ I) (hIm : (I, oI) ∈ news)
    (hcl : closureFor scope (envX cn cs L a ccd cl) = pure clos)
    (h : ∀ f c' oc vs t ctv ps' h' tk, Fr h₀ L h' m → News h₀ L h' ((f, kla_obj name lamQual params body scope clos ((mg "__name__").getD .none) c' ctv) :: (c', oc) :: g (tabObj ps')) →
      oc.data = .fields vs → vs[1]? = some (.str lamQual t) → (∀ q ∈ news, q.1 < f) → c' < f → c' ≠ P → @Ne Nat c' I → TabSt ps' [(c', oc)] → Q (.ref f) { s with heap := h', toks := tk }) :
    wpAny M A (makeFunction name lamQual params (.expr body) scope (envX cn cs L a ccd cl) [] [] [] lamPos firstLine) Q E s := by
  have hmem : (P, tabObj ps) ∈ news := by
    obtain ⟨own, rest, e, _⟩ := U.split
    rw [e]; exact List.mem_append_right _ (.head _)
  rcases hT with rfl | ⟨c', oc, vs, t, rfl, hm, h1, h2⟩
  · refine kla_nest F N T C hcd U trivial rfl hcl fun f c' oc vs t ctv h' tk F' N' d1 d2 l1 l2 => ?_
    exact h f c' oc vs t ctv _ h' tk F' N' d1 d2 (fun q hq => Nat.lt_trans (l1 q hq) l2) l2 (Nat.ne_of_gt (l1 _ hmem)) (Nat.ne_of_gt (l1 _ hIm)) (.inr ⟨c', oc, vs, t, rfl, .head _, d1, d2⟩)
  · have hI' := hI _ hm
    replace hm := sub _ hm
    refine kla_hit (c' := c') F N T C hcd hmem (by simp [TriplesOk, rawInt]) (by simp [codeAmong, rawInt]) hcl fun f ctv h' tk F' N' l1 => ?_
    refine h f c' oc vs t ctv _ h' tk F' ?_ h1 h2 l1 (l1 _ hm) ?_ hI' (.inr ⟨c', oc, vs, t, rfl, .head _, h1, h2⟩)
    · rw [updF_same U]
      intro q hq
      rcases List.mem_cons.mp hq with rfl | hq
      · exact N' _ (.head _)
      rcases List.mem_cons.mp hq with rfl | hq
      · exact N' _ (.tail _ hm)
      · exact N' _ (.tail _ hq)
    · refine off_tab N hmem hm fun e => ?_
      rw [e] at h1
      cases h1
      cases h2
end
theorem ln_32 : True := by
  (k_with "eval Lambda" => (k_here; k_dflt (refine' kla_eval ?z9d0 ?_; (case z9d0 => exact rfl)); k_dflt (refine' lam_any ?z9F ?z9N ?z9T ?z9C ?z9cd ?z9U ?z9t ?z9sb ?z9hI ?z9hm ?z9cl ?_; (case z9F => k_asm); (case z9N => k_asm); (case z9T => k_asm); (case z9C => kn_code); (case z9cd => exact rfl); (case z9U => k_updF); (case z9t => assumption); (case z9sb => lcg_sub); (case z9hI => assumption); (case z9hm => k_mem); (case z9cl => exact rfl); k_whole); ((first | (k_dflt (refine' (us8 neNat neNat neObj neArr neTok neVal neArr neHeap ?z9sl ((?_ : L8 _ _ _ _ _ _ _ _ _) () ()) :); (case z9sl => k_extra "m:slot"); intros u8 f' c' oc' vs' t' ct' ps' h' u9; clear u8 u9; k_extra "m:cl")) | (refine (sk8 neNat neNat neObj neArr neTok neVal neArr neHeap ((?_ : ∀ (f' : Addr) (c' : Addr) (oc' : Obj) (vs' : Array Value) (t' : Tok) (ct' : Value) (ps' : Array Value) (h' : Heap), _) _ _ _ _ _ _ _ _) :); intros f' c' oc' vs' t' ct' ps' h')); (first | (k_dflt (refine' (us1 neNat ?z9sl ((?_ : L1 _ _) () ()) :); (case z9sl => k_extra "m:slot"); intros u8 tk' u9; clear u8 u9; k_extra "m:cl")) | (refine (sk1 neNat ((?_ : ∀ (tk' : Nat), _) _) :); intros tk'))); intros F' N' d1' d2' l1 l2 l3 l4 hT'; (try dsimp only at N'); (try k_lt l1)))
  (k_with "call ref" => (k_here; kn_here; k_dflt (refine wpAny_call ?_; (refine' kla_code ?k1 ?k2 ?k3 ?k4 ?k5 ?kA ?kF ?kK ?k6 ?k7 ?k8 ?k9 ?kB ?_ ?c2 ?c3 ?c4 ?c5; (case kA => exact rfl); (case kF => exact rfl); (case kK => first | exact rfl | assumption); k_extra "m:std1"; (case k6 => k_mem); (case k7 => exact codeRec_news (by k_asm) (by k_mem) (by assumption) (by assumption)); (case k8 => first | k_extra "m:room" | ktr_room); (case k9 => exact rfl); (case c5 => decide); (case kB => exact locs rfl); (case c2 => exact rfl); (case c3 => exact rfl); (case c4 => exact rfl); k_whole); ((first | (k_dflt (refine' (us3 neHeap neNat neHeap ?z9sl ((?_ : L3 _ _ _ _) () ()) :); (case z9sl => k_extra "m:slot"); intros u8 g' L' h' u9; clear u8 u9; k_extra "m:cl")) | (refine (sk3 neHeap neNat neHeap ((?_ : ∀ (g' : Heap) (L' : Addr) (h' : Heap), _) _ _ _) :); intros g' L' h'))); intros FG' F' N' B' X' T'; (try dsimp only); (try k_lift B'))))
  trivial
end PLam
section PKw
open PySem.Spec PySem.Calls
section
variable {prog : Program} {w : World} {A : Around} {E : Value → Shared → Prop} {s : Shared}
theorem isDict_one {o : Obj} {k : Str} {v : Value} (h : Obj.IsDictOf (_root_.PySem.strKind prog w) o [(k, v)]) : ∃ t ep, o.cls = .type "dict" ∧ o.data = .dict #[⟨(_root_.PySem.strKind prog w).hash k, .str k t, v⟩] ep := by
  obtain ⟨es, ep, hx, hd, hk, hp, -⟩ := h
  obtain ⟨l⟩ := es
  generalize e : ([(k, v)] : List (Str × Value)) = kvs at hp
  cases hp with
  | nil => cases e
  | cons h1 h2 h3 =>
    rename_i e0 kv es' kvs'
    cases e
    cases h3
    obtain ⟨k', hk1, hk2⟩ := hk e0 (by simp)
    have : k' = k := (_root_.PySem.strKind prog w).inj _ _ _ hk1 h1
    subst this
    obtain ⟨t, ht⟩ := Value.isStrOf_shape h1
    obtain ⟨hh, kk, vv⟩ := e0
    simp only at ht hk2 h2
    subst ht; subst hk2; subst h2
    exact ⟨t, ep, hx.1, hd⟩
theorem merge_one {D d : Addr} {o od : Obj} {k : Str} {t : Tok} {v : Value} {ep epd : Nat} {Q : Unit → Shared → Prop} (hD : s.heap.get? D = some o) (hc : o.cls = .type "dict") (hod : o.data = .dict #[⟨(_root_.PySem.strKind prog w).hash k, .str k t, v⟩] ep)
    (hns : (D == sysModules) = false) (hd : s.heap.get? d = some od) (hdd : od.data = .dict #[] epd) (hne : d ≠ D)
    (h : Q () { s with heap := s.heap.update d (Obj.mapDictKeys (·.push ⟨(_root_.PySem.strKind prog w).hash k, .str k t, v⟩)) }) : wpAny (model prog w) A (mergeMapping d (.ref D) true) Q E s := by
  have hT : s.TypeIs (.ref D) "dict" := ⟨o, hD, hc⟩
  unfold mergeMapping
  refine wpAny_bind (wpAny_isInstance hT isSubtype_dict_dict ?_)
  simp only [if_true]
  refine wpAny_bind (wpAny_specialOf hT F.slot_dict_iter.lookup ?_)
  refine wpAny_bind (wpAny_pure ?_)
  simp only [beq_self_eq_true, hns, Bool.false_eq_true, if_false]
  refine wpAny_bind (wpAny_dictEntries hd hdd ?_)
  simp only [show (#[] : Array DictEntry).isEmpty = true from rfl, if_true]
  refine wpAny_bind (wpAny_dictEntries hD hod ?_)
  rw [← Array.forIn_toList]
  simp only [List.forIn_cons, List.forIn_nil]
  refine wpAny_bind (wpAny_bind (wpAny_pure ?_))
  refine wpAny_pure ?_
  refine wpAny_bind (wpAny_dictEntries hD hod ?_)
  refine wpAny_bind (wpAny_dictEpoch hD hod ?_)
  rw [show List.range (#[(⟨(_root_.PySem.strKind prog w).hash k, .str k t, v⟩ : DictEntry)]).size = [0] from rfl]
  simp only [List.forIn_cons, List.forIn_nil]
  refine wpAny_bind (wpAny_bind (wpAny_bind (wpAny_dictEntries hD hod ?_)))
  refine wpAny_bind (wpAny_holding ?_)
  have hk : _root_.PySem.KeysOf (_root_.PySem.strKind prog w) (#[] : Array DictEntry) := fun e he => by simp at he
  have hkey : (_root_.PySem.strKind prog w).is k (.str k t) = true := by
    show Value.isStrOf k (.str k t) = true
    simp [Value.isStrOf]
  refine wpAny_bind (wpAny_dictFind_of hkey hd hdd hk ?_)
  simp only [Array.findIdx?_empty, Option.isSome_none, Bool.false_eq_true, if_false]
  unfold dictPut
  refine wpAny_bind (wpAny_dictFind_of hkey hd hdd hk ?_)
  simp only [Array.findIdx?_empty]
  refine wpAny_updateDictKeys hd hdd ?_ (by decide) (by simp)
  have sb : Heap.SameBut d s.heap (s.heap.update d (Obj.mapDictKeys fun x => x.push ⟨(_root_.PySem.strKind prog w).hash k, .str k t, v⟩)) := Heap.SameBut.update ..
  have hD' := (sb.2 D (Ne.symm hne)).trans hD
  refine wpAny_bind (wpAny_dictEpoch hD' hod ?_)
  simp only [bne_self_eq_false, Bool.false_eq_true, if_false]
  exact wpAny_pure (wpAny_pure (wpAny_pure h))
theorem merged_one {f : Value} {x : Sem Value} {D : Addr} {o : Obj} {k : Str} {v : Value} {Q : Addr → Shared → Prop}
    (hx : ∀ (s₁ : Shared) (Q' : Value → Shared → Prop) (E' : Value → Shared → Prop), (∀ b o, s.heap.get? b = some o → s₁.heap.get? b = some o) → Q' (.ref D) s₁ → wpAny (model prog w) A x Q' E' s₁)
    (hD : s.heap.get? D = some o) (ho : Obj.IsDictOf (_root_.PySem.strKind prog w) o [(k, v)]) (hns : (D == sysModules) = false)
    (h : ∀ d h' t, (∀ b o, s.heap.get? b = some o → h'.get? b = some o) → h'.get? d = some { cls := .type "dict", data := .dict #[⟨(_root_.PySem.strKind prog w).hash k, .str k t, v⟩] 1 } → Q d { s with heap := h' }) :
    wpAny (model prog w) A (mergedKeywords f [(none, x)]) Q E s := by
  obtain ⟨t, ep, hc, hod⟩ := isDict_one ho
  unfold mergedKeywords
  refine wpAny_bind (wpAny_alloc ?_)
  have up : ∀ b o, s.heap.get? b = some o → (s.heap.push { cls := .type "dict", data := .dict #[] }).get? b = some o := fun b o e => Heap.get?_push_of_some _ e
  refine wpAny_bind (wpAny_holding ?_)
  extract_lets merge group g
  have hg : group g = pure () := rfl
  refine wpAny_bind ?_
  rw [List.forIn_cons]
  refine wpAny_bind ?_
  refine wpAny_bind (wpAny_of_eq hg ?_)
  refine wpAny_bind (hx _ _ _ up ?_)
  have hd : (s.heap.push { cls := .type "dict", data := .dict #[] }).get? s.heap.objs.size = some { cls := .type "dict", data := .dict #[] } := Heap.get?_push_size _ rfl
  have hne : s.heap.objs.size ≠ D := Nat.ne_of_gt (Heap.lt_size hD)
  refine wpAny_bind (wpAny_onRaise ?_)
  show wpAny _ _ (holding [.ref D] _) _ _ _
  refine wpAny_holding (wpAny_tryCatch (wpAny_onRaise ?_))
  refine merge_one (t := t) (up _ _ hD) hc hod hns hd rfl hne ?_
  refine wpAny_pure ?_
  show wpAny _ _ (forIn [] _ _) _ _ _
  rw [List.forIn_nil]
  refine wpAny_pure ?_
  refine wpAny_of_eq hg ?_
  refine wpAny_pure ?_
  refine h _ _ t (fun b o' e => ?_) ?_
  · exact (Heap.SameBut.update (s.heap.push { cls := .type "dict", data := .dict #[] }) _ _).extBut b o' (Nat.ne_of_lt (Heap.lt_size e)) (up b o' e)
  · exact Heap.get?_update_self _ hd rfl
theorem keywords_one {f : Value} {d : Addr} {k : Str} {t : Tok} {v : Value} {hh : Int} {Q : List (Str × Value) → Shared → Prop} (hd : s.heap.get? d = some { cls := .type "dict", data := .dict #[⟨hh, .str k t, v⟩] 1 }) (h : Q [(k, v)] s) :
    wpAny (model prog w) A (keywordsIn f d) Q E s := by
  unfold keywordsIn
  refine wpAny_bind (wpAny_dictEntries hd rfl ?_)
  rw [← Array.forIn_toList]
  rw [List.forIn_cons]
  refine wpAny_bind ?_
  refine wpAny_bind (wpAny_pure ?_)
  show wpAny _ _ (forIn [] _ _) _ _ _
  rw [List.forIn_nil]
  refine wpAny_pure ?_
  exact wpAny_pure h
theorem ks_callK {f : Value} {first : List Value} {pos : Pos} {Q : Value → Shared → Prop} {P : Heap → Prop} {args : List (Bool × Sem Value)} {kws : List (Option Str × Sem Value)} (hst : (args.any (·.1) || kws.any (·.1.isNone)) = true)
    (hk : ∀ h, P h → ∃ k, (k = Keeper.frame ∨ k = Keeper.machine ∨ k = Keeper.boundFrame) ∧ Looks (model prog w) h (keeperOf f) k)
    (h : wpAny (model prog w) A (evalArgs f true args kws) (fun a s₁ => P s₁.heap ∧ wpAny (model prog w) A (call f (first ++ a.pos) a.kw) Q E s₁) E s) : wpAny (model prog w) A (callWith pos f first args kws) Q E s := by
  unfold callWith
  refine wpAny_bind (wpAny_holding (wpAny_mono h (fun a s₁ h₁ => wpAny_bind (wpAny_standAt ?_)) fun _ _ x => x))
  obtain ⟨k, hk', L⟩ := hk _ h₁.1
  simp only [hst]
  refine wpAny_bind (L.here ?_)
  have tail : ∀ {t : Sem Value}, wpAny (model prog w) A t Q E s₁ → wpAny (model prog w) A (t >>= fun r => holding [r] point >>= fun _ => pure r) Q E s₁ :=
    fun ht => wpAny_bind (wpAny_mono ht (fun r s₂ hr => wpAny_bind (wpAny_holding (wpAny_point (wpAny_pure hr)))) fun _ _ x => x)
  have marked (mk : Value) : wpAny (model prog w) A (callMarked mk f (first ++ a.pos) a.kw) Q E s₁ := by unfold callMarked; exact Calls.wpAny_keep h₁.2
  rcases hk' with rfl | rfl | rfl <;> dsimp only <;> first | exact tail (marked _) | exact tail (wpAny_operating h₁.2)
theorem call_dd {h₀ : Heap} {m : Str → Option Value} {news : Led} {env : Env} {pos p1 p2 p3 : Pos} {q D : Addr} {o : Obj} {x1 x2 k : Str} {v1 v : Value} {Q : Value → Shared → Prop}
    (F : Fr h₀ env.locals s.heap m) (N : News h₀ env.locals s.heap news) (hk : env.scope.kind = .function) (hl1 : env.kindOf x1 = some .local) (hl2 : env.kindOf x2 = some .local) (hd1 : (x1 == ("__debug__" : Str)) = false) (hd2 : (x2 == ("__debug__" : Str)) = false)
    (hv1 : m x1 = some v1) (hv2 : m x2 = some (.ref D)) (hm : (D, o) ∈ news) (ho : Obj.IsDictOf (_root_.PySem.strKind prog w) o [(k, v)]) (hns : (D == sysModules) = false) (hq : FnAt q s.heap)
    (h : ∀ h', Fr h₀ env.locals h' m → News h₀ env.locals h' news → wpAny (model prog w) A (call (.ref q) [v1] [(k, v)]) Q E { s with heap := h' }) :
    wpAny (model prog w) A (callWith pos (.ref q) [] (backTo pos (starEach [.Name x1 p1] env)) (backToKw pos (keywordEach [⟨none, .Name x2 p2, p3⟩] env))) Q E s := by
  have up : ∀ {h' : Heap}, (∀ b o, s.heap.get? b = some o → h'.get? b = some o) → Fr h₀ env.locals h' m := fun e => F.keeps e
  refine ks_callK (P := FnAt q) rfl (fun h x => keeps_F h x) ?_
  unfold evalArgs
  extract_lets jp
  show wpAny _ _ (spliced [(false, eval (.Name x1 p1) env)] >>= fun r => pure (r, none) >>= jp) _ _ _
  rw [spliced]
  refine wpAny_bind (wpAny_bind ?_)
  refine ldE F hv1 hk hl1 hd1 ?_
  rw [if_neg Bool.false_ne_true]
  refine wpAny_bind (wpAny_pure ?_)
  refine wpAny_bind (wpAny_holding ?_)
  rw [spliced]
  refine wpAny_pure (wpAny_pure ?_)
  refine wpAny_bind (wpAny_pure ?_)
  show wpAny _ _ (holding _ _) _ _ _
  refine wpAny_holding ?_
  have ea : (backToKw pos (keywordEach [⟨none, .Name x2 p2, p3⟩] env)).all (fun x => x.fst.isSome) = false := rfl
  rw [ea, if_neg Bool.false_ne_true]
  have he : ∀ (s₁ : Shared) (Q' : Value → Shared → Prop) (E' : Value → Shared → Prop), (∀ b o, s.heap.get? b = some o → s₁.heap.get? b = some o) → Q' (.ref D) s₁ →
      wpAny (model prog w) A (do let v ← eval (.Name x2 p2) env; standAt pos; pure v) Q' E' s₁ := by
    intro s₁ Q' E' hu hq'
    refine wpAny_bind (ldE (up hu) hv2 hk hl2 hd2 ?_)
    exact wpAny_bind (wpAny_standAt (wpAny_pure hq'))
  refine wpAny_bind (merged_one (f := .ref q) he (N _ hm).1 ho hns fun d h' t hup hd' => ?_)
  refine wpAny_bind (wpAny_pure ?_)
  refine wpAny_bind (wpAny_holding (keywords_one hd' ?_))
  refine wpAny_pure ⟨?_, h h' (up hup) (N.grown hup)⟩
  obtain ⟨oc, od, fd, sl, e1⟩ := hq
  exact ⟨oc, od, fd, sl, hup _ _ e1⟩
end
theorem ln_33 : True := by
  (k_with "callWith ref" => (k_here; (with_reducible show wpAny _ _ (callWith _ (Value.ref _) [] (backTo _ (starEach [PySem.Expr.Name _ _] _)) (backToKw _ (keywordEach [⟨none, PySem.Expr.Name _ _, _⟩] _))) _ _ _); k_dflt (refine' call_dd ?z9F ?z9N ?z9hk ?z9l1 ?z9l2 ?z9d1 ?z9d2 ?z9v1 ?z9v2 ?z9hm ?z9ho ?z9ns ?z9fa ?_; (case z9F => k_asm); (case z9N => k_asm); (case z9hk => exact rfl); (case z9l1 => exact rfl); (case z9l2 => exact rfl); (case z9d1 => decide); (case z9d2 => decide); (case z9v1 => exact rfl); (case z9v2 => exact rfl); (case z9hm => k_mem); (case z9ho => assumption); (case z9ns => assumption); (case z9fa => exact FnAt.of (by k_asm) (by k_mem)); k_whole); ((first | (k_dflt (refine' (us1 neHeap ?z9sl ((?_ : L1 _ _) () ()) :); (case z9sl => k_extra "m:slot"); intros u8 h' u9; clear u8 u9; k_extra "m:cl")) | (refine (sk1 neHeap ((?_ : ∀ (h' : Heap), _) _) :); intros h'))); intros F' N'; (try k_sweep)))
  trivial
end PKw
section PTold
open PySem.Spec PySem.Calls
theorem plain_ok {x : Str} (hx : Plain x.cps) : PyData.strOk x = true := by
  unfold PyData.strOk
  rw [Array.all_eq_true']
  intro c hc
  have := hx c hc
  simp; omega
theorem txt_none {x y z : Int} : (txt3 x y z == Str.ofString "none") = false := by
  rw [beq_eq_false_iff_ne]
  intro e
  have h : 32 ∈ (txt3 x y z).cps := by
    unfold txt3
    simp
  rw [e, show Str.ofString "none" = (⟨#[110, 111, 110, 101]⟩ : Str) from rfl] at h
  simp at h
theorem plain_none : Plain (Str.ofString "none").cps := by
  rw [show Str.ofString "none" = (⟨#[110, 111, 110, 101]⟩ : Str) from rfl]
  intro c hc
  simp at hc
  omega
section
variable {prog : Program} {w : World} {A : Around} {E : Value → Shared → Prop} {s : Shared} {h₀ : Heap} {L : Addr}
theorem item_tupl {news : Led} {l : Addr} {its : Array Value} {value slice : PySem.Expr} {k : Int} {u : Tok} {j : Nat} {v : Value} {Q : Value → Shared → Prop} (N : News h₀ L s.heap news) (hm : (l, tupO its) ∈ news) (hlo : -(2 ^ 63) ≤ k) (hhi : k < 2 ^ 63) (hj : seqIndex? k its.size = some j) (hx : its[j]? = some v) (h : Q v s)
    (hs : subscripted slice false (.ref l) (.int k u) = operate [.ref l, .int k u] (getItem (.ref l) (.int k u))) :
    wpAny (model prog w) A (subscriptTail value slice (.ref l) (.int k u)) Q E s :=
  tail_any (N.isTup hm).typeIs slot_tuple_getitem.lookup (getItem_tuple (N.isTup hm) hlo hhi hj hx h) hs
theorem item_tup0 {news : Led} {l : Addr} {a : Value} {r : List Value} {value slice : PySem.Expr} {u : Tok} {Q : Value → Shared → Prop} (N : News h₀ L s.heap news) (hm : (l, tupO (a :: r).toArray) ∈ news) (h : Q a s)
    (hs : subscripted slice false (.ref l) (.int 0 u) = operate [.ref l, .int 0 u] (getItem (.ref l) (.int 0 u))) :
    wpAny (model prog w) A (subscriptTail value slice (.ref l) (.int 0 u)) Q E s :=
  item_tupl (j := 0) N hm (by decide) (by decide) (by unfold seqIndex?; first | (simp; done) | (simp; omega)) (by simp) h hs
theorem item_tup1 {news : Led} {l : Addr} {a b : Value} {r : List Value} {value slice : PySem.Expr} {u : Tok} {Q : Value → Shared → Prop} (N : News h₀ L s.heap news) (hm : (l, tupO (a :: b :: r).toArray) ∈ news) (h : Q b s)
    (hs : subscripted slice false (.ref l) (.int 1 u) = operate [.ref l, .int 1 u] (getItem (.ref l) (.int 1 u))) :
    wpAny (model prog w) A (subscriptTail value slice (.ref l) (.int 1 u)) Q E s :=
  item_tupl (j := 1) N hm (by decide) (by decide) (by unfold seqIndex?; first | (simp; done) | (simp; omega)) (by simp) h hs
end
section
variable {prog : Program} {w : World} {A : Around} {E : Value → Shared → Prop} {s : Shared} {h₀ : Heap} {L : Addr}
theorem eq_told {news : Led} {X1 X2 : Addr} {x y : Str} {t1 t2 u1 u2 : Tok} {Q : Value → Shared → Prop} (N : News h₀ L s.heap news) (x1 : (X1, tupO #[.str x t1, .str x t2]) ∈ news) (x2 : (X2, tupO #[.str y u1, .str y u2]) ∈ news)
    (hx : Plain x.cps) (hy : Plain y.cps) (hne : (x == y) = false) (hu : A.units + 64 < cLine) (h : Q (.bool false) s) : wpAny (model prog w) A (compareOp .Eq (.ref X1) (.ref X2)) Q E s := by
  have ra : Reads s.heap (.ref X1) (.tuple [.str x, .str x]) _ := reads_tuple_at (N _ x1).1 rfl rfl (.cons (.str _ _) (.cons (.str _ _) .nil))
  have rb : Reads s.heap (.ref X2) (.tuple [.str y, .str y]) _ := reads_tuple_at (N _ x2).1 rfl rfl (.cons (.str _ _) (.cons (.str _ _) .nil))
  have sh : ∀ z : Str, Plain z.cps → SeqAt.shaped (PyData.tuple [.str z, .str z]) = true := fun z hz => by
    unfold SeqAt.shaped
    simp [PyData.canLay0, PyData.canLayAll0, plain_ok hz, PyData.depth, PyData.depthAll]
  refine eq_dataH ra rb (sh x hx) (sh y hy) hu ?_
  have e : PyData.eqv (PyData.tuple [.str x, .str x]) (PyData.tuple [.str y, .str y]) = false := by
    simp only [PyData.eqv, PyData.eqvAll, hne, Bool.false_and]
  rw [e]
  exact h
end
theorem ln_34 : True := by
  (k_with "subscriptTail Name Constant ref int" => (k_here; (with_reducible show wpAny _ _ (subscriptTail _ _ (Value.ref _) (Value.int 0 _)) _ _ _); k_dflt (refine' item_tup0 ?z9k0 ?z9k1 ?_ ?z9k6; (case z9k0 => k_asm); (case z9k1 => k_mem); (case z9k6 => with_unfolding_all rfl); k_whole)))
  (k_with "subscriptTail Name Constant ref int" => (k_here; (with_reducible show wpAny _ _ (subscriptTail _ _ (Value.ref _) (Value.int 1 _)) _ _ _); k_dflt (refine' item_tup1 ?z9k0 ?z9k1 ?_ ?z9k6; (case z9k0 => k_asm); (case z9k1 => k_mem); (case z9k6 => with_unfolding_all rfl); k_whole)))
  (k_with "subscriptTail Call" => (k_here; (with_reducible show wpAny _ _ (subscriptTail _ _ (Value.ref _) (Value.int 0 _)) _ _ _); k_dflt (refine' item_tup0 ?z9k0 ?z9k1 ?_ ?z9k6; (case z9k0 => k_asm); (case z9k1 => k_mem); (case z9k6 => with_unfolding_all rfl); k_whole)))
  (k_with "compareOp Eq ref ref" => ((with_reducible show wpAny _ _ (compareOp CmpOp.Eq (Value.ref _) (Value.ref _)) _ _ _); k_dflt (refine' eq_told ?z9k1 ?z9x1 ?z9x2 ?z9hx ?z9hy ?z9ne ?z9hu ?_; (case z9k1 => k_asm); (case z9x1 => k_mem); (case z9x2 => k_mem); (case z9hx => with_reducible assumption); (case z9hy => with_reducible assumption); (case z9ne => first | with_reducible assumption | exact txt_none); (case z9hu => (first | k_extra "m:unit" | ktr_units)); k_whole)))
  trivial
theorem thirds_ret {h₀ h' : Heap} {L c' : Addr} {oc : Obj} {m : Str → Option Value} {news rest all : Led} {ps' : Array Value} {s : Shared} {Q : Value → Shared → Prop} {ans : Int} {t : Tok} {tk' : Nat}
    (hr : ∀ (t : Tok) (h' : Heap) (tk' : Nat) (ps' : Array Value) (news' : Led), Fr h₀ L h' m → News h₀ L h' ((310, tabObj ps') :: news') → (∀ p ∈ news, p ∈ news') → (∀ p ∈ news', p.1 ≠ 310) → TabSt ps' news' → Q (.int ans t) { s with heap := h', toks := tk' })
    (F : Fr h₀ L h' m) (N : News h₀ L h' all) (hT : TabSt ps' [(c', oc)]) (hc : c' ≠ 310) (sub : ∀ p ∈ (310, tabObj ps') :: (c', oc) :: rest, p ∈ all) (sb : ∀ p ∈ news, p ∈ rest) (hP : ∀ p ∈ rest, p.1 ≠ 310) : Q (.int ans t) { s with heap := h', toks := tk' } := by
  refine hr t h' tk' ps' ((c', oc) :: rest) F (fun p hp => N p (sub p hp)) (fun p hp => .tail _ (sb p hp)) ?_ (hT.mono fun p hp => ?_)
  · intro p hp
    rcases List.mem_cons.mp hp with rfl | hp
    · exact hc
    · exact hP p hp
  · rw [List.mem_singleton.mp hp]; exact .head _
theorem text_end' {own : List Str} {m₀ m₁ : Str → Option Value} {h₀ : Heap} {news rest all : Led} {look : Col3 → Option (Nat × Col3)} {fs : List Col3} {i : Nat} {I L c' : Addr} {o oc : Obj} {s₁ : Shared} {h' : Heap} {tk : Nat} {acc : Int} {q : Nat × Col3} {c : Col3} {t : Tok} {ps' : Array Value}
    (F : Fr h₀ L h' m₁) (N : News h₀ L h' all) (hT : TabSt ps' [(c', oc)]) (hc : c' ≠ 310) (sub : ∀ p ∈ (I, o) :: (310, tabObj ps') :: (c', oc) :: rest, p ∈ all) (sb : ∀ p ∈ news, p ∈ rest) (hP : ∀ p ∈ rest, p.1 ≠ 310) (same : Same own m₀ m₁) (off : ∀ p ∈ rest, p.1 ≠ I) (off2 : @Ne Nat 310 I) (off3 : @Ne Nat c' I) (e1 : m₁ (Str.ofString "thirds") = some (.int (acc + (q.1 : Int)) t)) (hq : look c = some q) (hq3 : q.1 < 3)
    (e2 : goT look (c :: fs.drop (i + 1)) acc = goT look fs 0) (e3 : 0 ≤ acc ∧ acc ≤ 2 * (i : Int)) :
    ∃ h₂ tk₂ m₂ news₂, ({ s₁ with heap := h', toks := tk } : Shared) = { s₁ with heap := h₂, toks := tk₂ } ∧ Fr h₀ L h₂ m₂ ∧ News h₀ L h₂ ((I, o) :: news₂) ∧ (∀ p ∈ news₂, p.1 ≠ I) ∧ TxtSt own m₀ news look fs (i + 1) m₂ news₂ := by
  refine text_end (rest := (c', oc) :: rest) F N sub (fun p hp => .tail _ (sb p hp)) ?_ (hT.mono fun p hp => ?_) same ?_ off2 e1 hq hq3 e2 e3
  · intro p hp
    rcases List.mem_cons.mp hp with rfl | hp
    · exact hc
    · exact hP p hp
  · rw [List.mem_singleton.mp hp]; exact .head _
  · intro p hp
    rcases List.mem_cons.mp hp with rfl | hp
    · exact off3
    · exact off p hp
theorem ln_35 : True := by
  (k_with "eval ListComp" => ((with_reducible show wpAny _ _ (eval (PySem.Expr.ListComp (PySem.Expr.BinOp (PySem.Expr.Call (PySem.Expr.Name (Str.ofString "int") _) _ _ _) Operator.Div _ _) _ _ _) _) _ _ _); k_here; k_dflt (refine LCg.ListComp_U (F₀ := by k_asm) (by rfl) (by decide) (by rfl) (by decide) (by rfl) ?_)))
  trivial
theorem look_facts {a' b' c' size white : Int} {fs : List Col3} {ia ib : Nat} {q : Nat × Col3} (hT : TurnsOk white) (hw : 0 ≤ white ∧ white ≤ 60) (hmem : ∀ c ∈ fs, ∃ k, k < 10 ∧ c = col white k 0) (h : lookT a' b' c' size fs ia ib = some q) :
    q.1 < 3 ∧ ((0 ≤ (rtc q.2 q.1).1 ∧ (rtc q.2 q.1).1 < 100) ∧ (0 ≤ (rtc q.2 q.1).2.1 ∧ (rtc q.2 q.1).2.1 < 100) ∧ (0 ≤ (rtc q.2 q.1).2.2 ∧ (rtc q.2 q.1).2.2 < 100)) ∧
    ∃ hu li sh, hsvF (q64 (rtc q.2 q.1).1) (q64 (rtc q.2 q.1).2.1) (q64 (rtc q.2 q.1).2.2) = some (hu, li, sh) ∧ hkB hu (q.1 : Int) = true := by
  obtain ⟨hm, h3⟩ := look_mem h
  obtain ⟨k, hk, e⟩ := hmem _ hm
  have hx := F10_bd k
  have h9 := hT k q.1 hk h3
  have ec : col white k q.1 = rtc q.2 q.1 := by rw [e]; rfl
  rw [ec] at h9
  obtain ⟨hu, li, sh, x, y, z, e11, k11, -, -, -, -⟩ := thirdB_out h9
  refine ⟨h3, ?_, hu, li, sh, e11, k11⟩
  rw [e]
  refine rt_bd ?_ ?_ ?_ q.1
  · show 0 ≤ (F10' k).1 + white ∧ (F10' k).1 + white < 100; omega
  · show 0 ≤ (F10' k).2.1 + white ∧ (F10' k).2.1 + white < 100; omega
  · show 0 ≤ (F10' k).2.2 + white ∧ (F10' k).2.2 + white < 100; omega
section
variable {prog : Program} {w : World} {A : Around} {E : Value → Shared → Prop} {s : Shared} {h₀ : Heap} {m : Str → Option Value}
theorem ldnE {env : Env} {x : Str} {v : Value} {Q : Value → Shared → Prop} (F : Fr h₀ env.locals s.heap m) (hv : m x = some v) (hk : env.scope.kind = .function) (hl : env.kindOf x = some .local)
    (h : Q v s) : wpAny (model prog w) A (loadName env x) Q E s := wpAny_loadName_local hk hl F.ns hv h
end
theorem ln_36 : True := by
  (k_with "loadName" => ((with_reducible show wpAny _ _ (loadName _ (Str.ofString "thirds")) _ _ _); k_here; k_dflt (refine' ldnE ?z9k1 ?z9k2 ?z9k3 ?z9k4 ?_; (case z9k1 => k_asm); (case z9k2 => first | (with_reducible assumption) | ((repeat (refine (if_neg (by decide)).trans ?_)); with_reducible assumption)); (case z9k3 => exact rfl); (case z9k4 => exact rfl); k_whole)))
  trivial
end PTold
section PThd
/-- what the ten first colours' turns need of the ledger ahead of them -/
noncomputable def FirstBs (its : Array Value) (p13 p14 p15 p16 p17 : Addr × Obj) (news base : Led) : Prop :=
  (∀ i v, its[i]? = some v → i < 10 → ∃ D u0 u1 u2, v = .ref D ∧ (D, tupO #[.int (F10' i).1 u0, .int (F10' i).2.1 u1, .int (F10' i).2.2 u2]) ∈ base) ∧ (p13 ∈ base ∧ p14 ∈ base ∧ p15 ∈ base ∧ p16 ∈ base ∧ p17 ∈ base) ∧ ∀ p ∈ news, p ∈ base
theorem first_bs {its : Array Value} {p13 p14 p15 p16 p17 fl t9 t8 t7 t6 t5 t4 t3 t2 t1 t0 tp : Addr × Obj} {news : Led}
    (h0 : ∃ u0 u1 u2, t0.2 = tupO #[.int (F10' 0).1 u0, .int (F10' 0).2.1 u1, .int (F10' 0).2.2 u2]) (h1 : ∃ u0 u1 u2, t1.2 = tupO #[.int (F10' 1).1 u0, .int (F10' 1).2.1 u1, .int (F10' 1).2.2 u2])
    (h2 : ∃ u0 u1 u2, t2.2 = tupO #[.int (F10' 2).1 u0, .int (F10' 2).2.1 u1, .int (F10' 2).2.2 u2]) (h3 : ∃ u0 u1 u2, t3.2 = tupO #[.int (F10' 3).1 u0, .int (F10' 3).2.1 u1, .int (F10' 3).2.2 u2])
    (h4 : ∃ u0 u1 u2, t4.2 = tupO #[.int (F10' 4).1 u0, .int (F10' 4).2.1 u1, .int (F10' 4).2.2 u2]) (h5 : ∃ u0 u1 u2, t5.2 = tupO #[.int (F10' 5).1 u0, .int (F10' 5).2.1 u1, .int (F10' 5).2.2 u2])
    (h6 : ∃ u0 u1 u2, t6.2 = tupO #[.int (F10' 6).1 u0, .int (F10' 6).2.1 u1, .int (F10' 6).2.2 u2]) (h7 : ∃ u0 u1 u2, t7.2 = tupO #[.int (F10' 7).1 u0, .int (F10' 7).2.1 u1, .int (F10' 7).2.2 u2])
    (h8 : ∃ u0 u1 u2, t8.2 = tupO #[.int (F10' 8).1 u0, .int (F10' 8).2.1 u1, .int (F10' 8).2.2 u2]) (h9 : ∃ u0 u1 u2, t9.2 = tupO #[.int (F10' 9).1 u0, .int (F10' 9).2.1 u1, .int (F10' 9).2.2 u2])
    (hi : its = #[.ref t0.1, .ref t1.1, .ref t2.1, .ref t3.1, .ref t4.1, .ref t5.1, .ref t6.1, .ref t7.1, .ref t8.1, .ref t9.1]) :
    FirstBs its p13 p14 p15 p16 p17 news (fl :: t9 :: t8 :: t7 :: t6 :: t5 :: t4 :: t3 :: t2 :: t1 :: t0 :: tp :: p13 :: p14 :: p15 :: p16 :: p17 :: news) := by
  have key : ∀ {i : Nat} {t : Addr × Obj} {v : Value} {base : Led}, (∃ u0 u1 u2, t.2 = tupO #[.int (F10' i).1 u0, .int (F10' i).2.1 u1, .int (F10' i).2.2 u2]) → some (Value.ref t.1) = some v → t ∈ base → ∃ D u0 u1 u2, v = .ref D ∧ (D, tupO #[.int (F10' i).1 u0, .int (F10' i).2.1 u1, .int (F10' i).2.2 u2]) ∈ base := by
    rintro i ⟨D, o⟩ v base ⟨u0, u1, u2, rfl⟩ e hm
    exact ⟨D, u0, u1, u2, (Option.some.inj e).symm, hm⟩
  refine ⟨fun i v hv hi9 => ?_, by simp, fun p hp => by simp [hp]⟩
  subst hi
  match i, hi9 with
  | 0, _ => exact key h0 hv (by simp)
  | 1, _ => exact key h1 hv (by simp)
  | 2, _ => exact key h2 hv (by simp)
  | 3, _ => exact key h3 hv (by simp)
  | 4, _ => exact key h4 hv (by simp)
  | 5, _ => exact key h5 hv (by simp)
  | 6, _ => exact key h6 hv (by simp)
  | 7, _ => exact key h7 hv (by simp)
  | 8, _ => exact key h8 hv (by simp)
  | 9, _ => exact key h9 hv (by simp)
section
variable {w : World} {p : Program} {loose : List Str} {mean : ExcName → Option Value} {mg mb : Str → Option Value}
noncomputable abbrev txOwn : List Str := [Str.ofString "text", Str.ofString "name", Str.ofString "told", Str.ofString "red", Str.ofString "green", Str.ofString "blue", Str.ofString "thirds"]
theorem ln_37 : True := by
  (k_with "pyIter ref" => ((with_reducible show wpAny _ _ (pyIter (Value.ref _)) (fun _ _ => codeAny _ _ (Code.forLoop (PySem.Expr.Name _ _) _ _ _ _) _ _) _ _); refine HD.out ?_))
  trivial
theorem ln_38 : True := by
  (k_with "eval Name" => ((with_reducible show wpAny _ _ (eval (PySem.Expr.Name (Str.ofString "thirds") _) (envOfC _ _ _ _ _)) _ _ _); k_here; k_dflt (refine' ldE ?z9k1 ?z9k2 ?z9k3 ?z9k4 ?z9k5 ?_; (case z9k1 => k_asm); (case z9k2 => first | (with_reducible assumption) | ((repeat (refine (if_neg (by decide)).trans ?_)); with_reducible assumption)); (case z9k3 => exact rfl); (case z9k4 => exact rfl); (case z9k5 => decide); k_whole)))
  trivial
theorem bd_100 {x : Int} (h : 0 ≤ x ∧ x < 100) : -1000000 ≤ x ∧ x ≤ 1000000 := by omega
theorem look_of {ma mb' mc a' b' c' k0 k1 k2 p1 p2 p3 size : Int} {fs : List Col3} {r : Option (Nat × Col3)} (v1 : ma * k0 + mb' * k2 + mc * k1 = p1) (v2 : ma * k1 + mb' * k0 + mc * k2 = p2) (v3 : ma * k2 + mb' * k1 + mc * k0 = p3)
    (h : lookT a' b' c' size fs (ixA p1 p2 p3 a' b' c' size) (ixB p1 p2 p3 a' b' c' size) = r) : lookA (ma, mb', mc) a' b' c' size fs (k0, k1, k2) = r := by
  subst v1 v2 v3
  exact h
theorem times_cE {w : World} {p : Program} {loose : List Str} {mean : ExcName → Option Value} {mg mb : Str → Option Value} {news : Led} {l l' : Addr} {n n' : Nat} {a b c a' b' c' p1 p2 p3 : Int} {ta tb tc ta' tb' tc' : Tok} (hm : (l, listOf #[.int a ta, .int b tb, .int c tc] n) ∈ news)
   (hm' : (l', listOf #[.int a' ta', .int b' tb', .int c' tc'] n') ∈ news) (hb : Bd a' b' c') (e1 : a * a' + b * c' + c * b' = p1) (e2 : a * b' + b * a' + c * c' = p2) (e3 : a * c' + b * b' + c * a' = p3) :
   Claim w p loose mean mg mb (.ref 294) 1 [.ref l, .ref l'] news (fun K => ∀ x t1 t2 t3, K [(x, listOf #[.int p1 t1, .int p2 t2, .int p3 t3] 0)] (.ref x)) := by
  subst e1 e2 e3
  exact times_cR hm hm' hb
theorem mul_bd {a b : Int} (ha : 0 ≤ a ∧ a < 100) (hb : 0 ≤ b ∧ b < 100) : 0 ≤ a * b ∧ a * b ≤ 10000 := by
  refine ⟨Int.mul_nonneg ha.1 hb.1, ?_⟩
  have := Int.mul_le_mul (show a ≤ 100 by omega) (show b ≤ 100 by omega) hb.1 (by decide)
  omega
theorem col_bd {k0 k1 k2 white : Int} {kc : Nat} (hw : 0 ≤ white ∧ white ≤ 60) (h : (k0, k1, k2) = col white kc 0) : (0 ≤ k0 ∧ k0 < 100) ∧ (0 ≤ k1 ∧ k1 < 100) ∧ (0 ≤ k2 ∧ k2 < 100) := by
  have hx := F10_bd kc
  have e0 : k0 = (F10' kc).1 + white := congrArg Prod.fst h
  have e1 : k1 = (F10' kc).2.1 + white := congrArg (fun z : Col3 => z.2.1) h
  have e2 : k2 = (F10' kc).2.2 + white := congrArg (fun z : Col3 => z.2.2) h
  omega
theorem prod_bd {ma mb' mc k0 k1 k2 p1 p2 p3 : Int} (hb : (0 ≤ ma ∧ ma < 100) ∧ (0 ≤ mb' ∧ mb' < 100) ∧ (0 ≤ mc ∧ mc < 100)) (g0 : 0 ≤ k0 ∧ k0 < 100) (g1 : 0 ≤ k1 ∧ k1 < 100) (g2 : 0 ≤ k2 ∧ k2 < 100)
    (v1 : ma * k0 + mb' * k2 + mc * k1 = p1) (v2 : ma * k1 + mb' * k0 + mc * k2 = p2) (v3 : ma * k2 + mb' * k1 + mc * k0 = p3) : Bd p1 p2 p3 := by
  have a00 := mul_bd hb.1 g0
  have a01 := mul_bd hb.1 g1
  have a02 := mul_bd hb.1 g2
  have a10 := mul_bd hb.2.1 g0
  have a11 := mul_bd hb.2.1 g1
  have a12 := mul_bd hb.2.1 g2
  have a20 := mul_bd hb.2.2 g0
  have a21 := mul_bd hb.2.2 g1
  have a22 := mul_bd hb.2.2 g2
  unfold Bd
  omega
theorem ln_39 : True := by
  (k_with "m:some" => (have plx := plq _ (look_mem hfnd).1); (have lf9 := look_facts hT hw hmem hfnd); (have hq3 := lf9.1); (obtain ⟨hb5, hb6, hb7⟩ := lf9.2.1); (have hc0 := And.intro hb5.1 (show _ < (128 : Int) from Int.lt_trans hb5.2 (by decide))); (have hc1 := And.intro hb6.1 (show _ < (128 : Int) from Int.lt_trans hb6.2 (by decide))); (have hc2 := And.intro hb7.1 (show _ < (128 : Int) from Int.lt_trans hb7.2 (by decide))); (refine ex3 lf9.2.2 ?_); ((first | (k_dflt (refine' (us3 neU neU neU ?z9sl ((?_ : L3 _ _ _ _) () ()) :); (case z9sl => k_extra "m:slot"); intros u8 hu li sh u9; clear u8 u9; k_extra "m:cl")) | (refine (sk3 neU neU neU ((?_ : ∀ (hu : UInt64) (li : UInt64) (sh : UInt64), _) _ _ _) :); intros hu li sh))); (rintro ⟨e11, k11⟩); clear lf9)
  (k_with "call ref" => ((with_reducible show wpAny _ _ (call (Value.ref 294) _ _) _ _ _); k_dflt ((k_here; k_dflt (refine' (times_cE ?z9z1 ?z9z2 ?z9z3 ?z9y1 ?z9y2 ?z9y3) _ _ _ _ _ _ _ _ _ _ _ _ _ _ _ _ _ ?k1 ?k2 ?k3 ?k4 ?k5 ?kK ?kd ?ku ?_; k_extra "m:std"; k_whole)); (case z9z1 => k_mem); (case z9z2 => k_mem); (case z9z3 => exact hBd); (case z9y1 => exact hv1); (case z9y2 => exact hv2); (case z9y3 => exact hv3); ((first | (k_dflt (refine' (us4 neNat neTok neTok neTok ?z9sl ((?_ : L4 _ _ _ _ _) () ()) :); (case z9sl => k_extra "m:slot"); intros u8 x1 t1 t2 t3 u9; clear u8 u9; k_extra "m:cl")) | (refine (sk4 neNat neTok neTok neTok ((?_ : ∀ (x1 : Addr) (t1 : Tok) (t2 : Tok) (t3 : Tok), _) _ _ _ _) :); intros x1 t1 t2 t3))); k_extra "m:got1")))
  (k_with "eval Name" => ((first | (with_reducible show wpAny _ _ (eval (PySem.Expr.Name (Str.ofString "thirds") _) (envOfC _ _ _ _ _)) _ _ _) | (with_reducible show wpAny _ _ (eval (PySem.Expr.Name (Str.ofString "a") _) (envOfC _ _ _ _ _)) _ _ _)); k_here; k_dflt (refine' ldE ?z9k1 ?z9k2 ?z9k3 ?z9k4 ?z9k5 ?_; (case z9k1 => k_asm); (case z9k2 => first | (with_reducible assumption) | ((repeat (refine (if_neg (by decide)).trans ?_)); with_reducible assumption)); (case z9k3 => exact rfl); (case z9k4 => exact rfl); (case z9k5 => decide); k_whole)))
  (k_with "call builtin:str.split" => (k_here; (with_reducible show wpAny _ _ (call (Value.builtin "str.split") [Value.str (txt3 _ _ _) _, _]) _ _ _); k_dflt (refine' split_t ?z9k1 ?z9k2 ?z9x ?z9y ?z9z ?_; (case z9k1 => k_asm); (case z9k2 => k_asm); (case z9x => with_reducible assumption); (case z9y => with_reducible assumption); (case z9z => with_reducible assumption); ((first | (k_dflt (refine' (us6 neNat neTok neTok neTok neHeap neNat ?z9sl ((?_ : L6 _ _ _ _ _ _ _) () ()) :); (case z9sl => k_extra "m:slot"); intros u8 D' t1' t2' t3' h' k' u9; clear u8 u9; k_extra "m:cl")) | (refine (sk6 neNat neTok neTok neTok neHeap neNat ((?_ : ∀ (D' : Addr) (t1' : Tok) (t2' : Tok) (t3' : Tok) (h' : Heap) (k' : Nat), _) _ _ _ _ _ _) :); intros D' t1' t2' t3' h' k'))); intros F' N' l1; (try k_lt l1); (try k_sweep))))
  (k_with "call type:int" => ((with_reducible show wpAny _ _ (call (Value.type "int") [Value.str (dec _) _] _) _ _ _); k_dflt (refine' int_dec ?z9e ?_; (case z9e => with_reducible assumption))))
  trivial
theorem thirds_c {news : Led} {la lb : Addr} {n n' : Nat} {ma mb' mc a' b' c' white : Int} {ta tb tc ta' tb' tc' ts : Tok} {ps : Array Value} (hP : ∀ p ∈ news, p.1 ≠ 310) (hTab : TabSt ps news) (hm : (la, listOf #[.int ma ta, .int mb' tb, .int mc tc] n) ∈ news)
   (hm' : (lb, listOf #[.int a' ta', .int b' tb', .int c' tc'] n') ∈ news) (hb : (0 ≤ ma ∧ ma < 100) ∧ (0 ≤ mb' ∧ mb' < 100) ∧ (0 ≤ mc ∧ mc < 100)) (hb' : Bk a' b' c') (hs : 0 < sizeF a' b' c' ∧ sizeF a' b' c' ≤ 25) (hw : 0 ≤ white ∧ white ≤ 60) (hT : TurnsOk white) (hL : 3 * ((firstsAt a' b' c' (sizeF a' b' c') white 10).length : Int) = sizeF a' b' c' - 1) :
   ClaimT w p loose mean mg mb (.ref 313) 20 [.ref la, .ref lb, .int white ts] ps news (thirdsF (ma, mb', mc) a' b' c' (sizeF a' b' c') white) := by
  (revert w p loose mean mg mb news la lb n n' ma mb' mc a' b' c' white ta tb tc ta' tb' tc' ts ps; apply @And.left _ True; refine ((?_ : KK 329 _ _ _ → KK 328 _ _ _ → KK 327 _ _ _ → KK 326 _ _ _ → KK 325 _ _ _ → KK 324 _ _ _ → KK 323 _ _ _ → KK 322 _ _ _ → KK 321 _ _ _ → KK 320 _ _ _ → KK 319 _ _ _ → KK 318 _ _ _ → KK 317 _ _ _ → KK 316 _ _ _ → KK 315 _ _ _ → KK 314 _ _ _ → KK 313 _ _ _ → KK 312 _ _ _ → KK 311 _ _ _ → KK 310 _ _ _ → KK 309 _ _ _ → KK 308 _ _ _ → KK 307 _ _ _ → KK 306 _ _ _ → KK 305 _ _ _ → KK 304 _ _ _ → KK 303 _ _ _ → KK 302 _ _ _ → KK 301 _ _ _ → KK 300 _ _ _ → KK 299 _ _ _ → KK 298 _ _ _ → KK 297 _ _ _ → KK 296 _ _ _ → KK 295 _ _ _ → KK 294 _ _ _ → KK 293 _ _ _ → KK 292 _ _ _ → KK 291 _ _ _ → KK 290 _ _ _ → KK 289 _ _ _ → KK 288 _ _ _ → KK 287 _ _ _ → KK 286 _ _ _ → KK 285 _ _ _ → KK 284 _ _ _ → KK 283 _ _ _ → KK 282 _ _ _ → KK 281 _ _ _ → KK 280 _ _ _ → KK 279 _ _ _ → KK 278 _ _ _ → KK 277 _ _ _ → KK 276 _ _ _ → KK 275 _ _ _ → KK 274 _ _ _ → KK 273 _ _ _ → KK 272 _ _ _ → KK 271 _ _ _ → KK 270 _ _ _ → KK 269 _ _ _ → KK 268 _ _ _ → KK 267 _ _ _ → KK 266 _ _ _ → KK 265 _ _ _ → KK 264 _ _ _ → KK 263 _ _ _ → KK 262 _ _ _ → KK 261 _ _ _ → KK 260 _ _ _ → KK 259 _ _ _ → KK 258 _ _ _ → KK 257 _ _ _ → KK 256 _ _ _ → KK 255 _ _ _ → KK 254 _ _ _ → KK 253 _ _ _ → KK 252 _ _ _ → KK 251 _ _ _ → KK 250 _ _ _ → KK 249 _ _ _ → KK 248 _ _ _ → KK 247 _ _ _ → KK 246 _ _ _ → KK 245 _ _ _ → KK 244 _ _ _ → KK 243 _ _ _ → KK 242 _ _ _ → KK 241 _ _ _ → KK 240 _ _ _ → KK 239 _ _ _ → KK 238 _ _ _ → KK 237 _ _ _ → KK 236 _ _ _ → KK 235 _ _ _ → KK 234 _ _ _ → KK 233 _ _ _ → KK 232 _ _ _ → KK 231 _ _ _ → KK 230 _ _ _ → KK 229 _ _ _ → KK 228 _ _ _ → KK 227 _ _ _ → KK 226 _ _ _ → KK 225 _ _ _ → KK 224 _ _ _ → KK 223 _ _ _ → KK 222 _ _ _ → KK 221 _ _ _ → KK 220 _ _ _ → KK 219 _ _ _ → KK 218 _ _ _ → KK 217 _ _ _ → KK 216 _ _ _ → KK 215 _ _ _ → KK 214 _ _ _ → KK 213 _ _ _ → KK 212 _ _ _ → KK 211 _ _ _ → KK 210 _ _ _ → KK 209 _ _ _ → KK 208 _ _ _ → KK 207 _ _ _ → KK 206 _ _ _ → KK 205 _ _ _ → KK 204 _ _ _ → KK 203 _ _ _ → KK 202 _ _ _ → KK 201 _ _ _ → KK 200 _ _ _ → KK 199 _ _ _ → KK 198 _ _ _ → KK 197 _ _ _ → KK 196 _ _ _ → KK 195 _ _ _ → KK 194 _ _ _ → KK 193 _ _ _ → KK 192 _ _ _ → KK 191 _ _ _ → KK 190 _ _ _ → KK 189 _ _ _ → KK 188 _ _ _ → KK 187 _ _ _ → KK 186 _ _ _ → KK 185 _ _ _ → KK 184 _ _ _ → KK 183 _ _ _ → KK 182 _ _ _ → KK 181 _ _ _ → KK 180 _ _ _ → KK 179 _ _ _ → KK 178 _ _ _ → KK 177 _ _ _ → KK 176 _ _ _ → KK 175 _ _ _ → KK 174 _ _ _ → KK 173 _ _ _ → KK 172 _ _ _ → KK 171 _ _ _ → KK 170 _ _ _ → KK 169 _ _ _ → KK 168 _ _ _ → KK 167 _ _ _ → KK 166 _ _ _ → KK 165 _ _ _ → KK 164 _ _ _ → KK 163 _ _ _ → KK 162 _ _ _ → KK 161 _ _ _ → KK 160 _ _ _ → KK 159 _ _ _ → KK 158 _ _ _ → KK 157 _ _ _ → KK 156 _ _ _ → KK 155 _ _ _ → KK 154 _ _ _ → KK 153 _ _ _ → KK 152 _ _ _ → KK 151 _ _ _ → KK 150 _ _ _ → KK 149 _ _ _ → KK 148 _ _ _ → KK 147 _ _ _ → KK 146 _ _ _ → KK 145 _ _ _ → KK 144 _ _ _ → KK 143 _ _ _ → KK 142 _ _ _ → KK 141 _ _ _ → KK 140 _ _ _ → KK 139 _ _ _ → KK 138 _ _ _ → KK 137 _ _ _ → KK 136 _ _ _ → KK 135 _ _ _ → KK 134 _ _ _ → KK 133 _ _ _ → KK 132 _ _ _ → KK 131 _ _ _ → KK 130 _ _ _ → KK 129 _ _ _ → KK 128 _ _ _ → KK 127 _ _ _ → KK 126 _ _ _ → KK 125 _ _ _ → KK 124 _ _ _ → KK 123 _ _ _ → KK 122 _ _ _ → KK 121 _ _ _ → KK 120 _ _ _ → KK 119 _ _ _ → KK 118 _ _ _ → KK 117 _ _ _ → KK 116 _ _ _ → KK 115 _ _ _ → KK 114 _ _ _ → KK 113 _ _ _ → KK 112 _ _ _ → KK 111 _ _ _ → KK 110 _ _ _ → KK 109 _ _ _ → KK 108 _ _ _ → KK 107 _ _ _ → KK 106 _ _ _ → KK 105 _ _ _ → KK 104 _ _ _ → KK 103 _ _ _ → KK 102 _ _ _ → KK 101 _ _ _ → KK 100 _ _ _ → KK 99 _ _ _ → KK 98 _ _ _ → KK 97 _ _ _ → KK 96 _ _ _ → KK 95 _ _ _ → KK 94 _ _ _ → KK 93 _ _ _ → KK 92 _ _ _ → KK 91 _ _ _ → KK 90 _ _ _ → KK 89 _ _ _ → KK 88 _ _ _ → KK 87 _ _ _ → KK 86 _ _ _ → KK 85 _ _ _ → KK 84 _ _ _ → KK 83 _ _ _ → KK 82 _ _ _ → KK 81 _ _ _ → KK 80 _ _ _ → KK 79 _ _ _ → KK 78 _ _ _ → KK 77 _ _ _ → KK 76 _ _ _ → KK 75 _ _ _ → KK 74 _ _ _ → KK 73 _ _ _ → KK 72 _ _ _ → KK 71 _ _ _ → KK 70 _ _ _ → KK 69 _ _ _ → KK 68 _ _ _ → KK 67 _ _ _ → KK 66 _ _ _ → KK 65 _ _ _ → KK 64 _ _ _ → KK 63 _ _ _ → KK 62 _ _ _ → KK 61 _ _ _ → KK 60 _ _ _ → KK 59 _ _ _ → KK 58 _ _ _ → KK 57 _ _ _ → KK 56 _ _ _ → KK 55 _ _ _ → KK 54 _ _ _ → KK 53 _ _ _ → KK 52 _ _ _ → KK 51 _ _ _ → KK 50 _ _ _ → KK 49 _ _ _ → KK 48 _ _ _ → KK 47 _ _ _ → KK 46 _ _ _ → KK 45 _ _ _ → KK 44 _ _ _ → KK 43 _ _ _ → KK 42 _ _ _ → KK 41 _ _ _ → KK 40 _ _ _ → KK 39 _ _ _ → KK 38 _ _ _ → KK 37 _ _ _ → KK 36 _ _ _ → KK 35 _ _ _ → KK 34 _ _ _ → KK 33 _ _ _ → KK 32 _ _ _ → KK 31 _ _ _ → KK 30 _ _ _ → KK 29 _ _ _ → KK 28 _ _ _ → KK 27 _ _ _ → KK 26 _ _ _ → KK 25 _ _ _ → KK 24 _ _ _ → KK 23 _ _ _ → KK 22 _ _ _ → KK 21 _ _ _ → KK 20 _ _ _ → KK 19 _ _ _ → KK 18 _ _ _ → KK 17 _ _ _ → KK 16 _ _ _ → KK 15 _ _ _ → KK 14 _ _ _ → KK 13 _ _ _ → KK 12 _ _ _ → KK 11 _ _ _ → KK 10 _ _ _ → KK 9 _ _ _ → KK 8 _ _ _ → KK 7 _ _ _ → KK 6 _ _ _ → KK 5 _ _ _ → KK 4 _ _ _ → KK 3 _ _ _ → KK 2 _ _ _ → KK 1 _ _ _ → KK 0 _ _ _ → _ ∧ True) ?jj329 ?jj328 ?jj327 ?jj326 ?jj325 ?jj324 ?jj323 ?jj322 ?jj321 ?jj320 ?jj319 ?jj318 ?jj317 ?jj316 ?jj315 ?jj314 ?jj313 ?jj312 ?jj311 ?jj310 ?jj309 ?jj308 ?jj307 ?jj306 ?jj305 ?jj304 ?jj303 ?jj302 ?jj301 ?jj300 ?jj299 ?jj298 ?jj297 ?jj296 ?jj295 ?jj294 ?jj293 ?jj292 ?jj291 ?jj290 ?jj289 ?jj288 ?jj287 ?jj286 ?jj285 ?jj284 ?jj283 ?jj282 ?jj281 ?jj280 ?jj279 ?jj278 ?jj277 ?jj276 ?jj275 ?jj274 ?jj273 ?jj272 ?jj271 ?jj270 ?jj269 ?jj268 ?jj267 ?jj266 ?jj265 ?jj264 ?jj263 ?jj262 ?jj261 ?jj260 ?jj259 ?jj258 ?jj257 ?jj256 ?jj255 ?jj254 ?jj253 ?jj252 ?jj251 ?jj250 ?jj249 ?jj248 ?jj247 ?jj246 ?jj245 ?jj244 ?jj243 ?jj242 ?jj241 ?jj240 ?jj239 ?jj238 ?jj237 ?jj236 ?jj235 ?jj234 ?jj233 ?jj232 ?jj231 ?jj230 ?jj229 ?jj228 ?jj227 ?jj226 ?jj225 ?jj224 ?jj223 ?jj222 ?jj221 ?jj220 ?jj219 ?jj218 ?jj217 ?jj216 ?jj215 ?jj214 ?jj213 ?jj212 ?jj211 ?jj210 ?jj209 ?jj208 ?jj207 ?jj206 ?jj205 ?jj204 ?jj203 ?jj202 ?jj201 ?jj200 ?jj199 ?jj198 ?jj197 ?jj196 ?jj195 ?jj194 ?jj193 ?jj192 ?jj191 ?jj190 ?jj189 ?jj188 ?jj187 ?jj186 ?jj185 ?jj184 ?jj183 ?jj182 ?jj181 ?jj180 ?jj179 ?jj178 ?jj177 ?jj176 ?jj175 ?jj174 ?jj173 ?jj172 ?jj171 ?jj170 ?jj169 ?jj168 ?jj167 ?jj166 ?jj165 ?jj164 ?jj163 ?jj162 ?jj161 ?jj160 ?jj159 ?jj158 ?jj157 ?jj156 ?jj155 ?jj154 ?jj153 ?jj152 ?jj151 ?jj150 ?jj149 ?jj148 ?jj147 ?jj146 ?jj145 ?jj144 ?jj143 ?jj142 ?jj141 ?jj140 ?jj139 ?jj138 ?jj137 ?jj136 ?jj135 ?jj134 ?jj133 ?jj132 ?jj131 ?jj130 ?jj129 ?jj128 ?jj127 ?jj126 ?jj125 ?jj124 ?jj123 ?jj122 ?jj121 ?jj120 ?jj119 ?jj118 ?jj117 ?jj116 ?jj115 ?jj114 ?jj113 ?jj112 ?jj111 ?jj110 ?jj109 ?jj108 ?jj107 ?jj106 ?jj105 ?jj104 ?jj103 ?jj102 ?jj101 ?jj100 ?jj99 ?jj98 ?jj97 ?jj96 ?jj95 ?jj94 ?jj93 ?jj92 ?jj91 ?jj90 ?jj89 ?jj88 ?jj87 ?jj86 ?jj85 ?jj84 ?jj83 ?jj82 ?jj81 ?jj80 ?jj79 ?jj78 ?jj77 ?jj76 ?jj75 ?jj74 ?jj73 ?jj72 ?jj71 ?jj70 ?jj69 ?jj68 ?jj67 ?jj66 ?jj65 ?jj64 ?jj63 ?jj62 ?jj61 ?jj60 ?jj59 ?jj58 ?jj57 ?jj56 ?jj55 ?jj54 ?jj53 ?jj52 ?jj51 ?jj50 ?jj49 ?jj48 ?jj47 ?jj46 ?jj45 ?jj44 ?jj43 ?jj42 ?jj41 ?jj40 ?jj39 ?jj38 ?jj37 ?jj36 ?jj35 ?jj34 ?jj33 ?jj32 ?jj31 ?jj30 ?jj29 ?jj28 ?jj27 ?jj26 ?jj25 ?jj24 ?jj23 ?jj22 ?jj21 ?jj20 ?jj19 ?jj18 ?jj17 ?jj16 ?jj15 ?jj14 ?jj13 ?jj12 ?jj11 ?jj10 ?jj9 ?jj8 ?jj7 ?jj6 ?jj5 ?jj4 ?jj3 ?jj2 ?jj1 ?jj0); intros jj329 jj328 jj327 jj326 jj325 jj324 jj323 jj322 jj321 jj320 jj319 jj318 jj317 jj316 jj315 jj314 jj313 jj312 jj311 jj310 jj309 jj308 jj307 jj306 jj305 jj304 jj303 jj302 jj301 jj300 jj299 jj298 jj297 jj296 jj295 jj294 jj293 jj292 jj291 jj290 jj289 jj288 jj287 jj286 jj285 jj284 jj283 jj282 jj281 jj280 jj279 jj278 jj277 jj276 jj275 jj274 jj273 jj272 jj271 jj270 jj269 jj268 jj267 jj266 jj265 jj264 jj263 jj262 jj261 jj260 jj259 jj258 jj257 jj256 jj255 jj254 jj253 jj252 jj251 jj250 jj249 jj248 jj247 jj246 jj245 jj244 jj243 jj242 jj241 jj240 jj239 jj238 jj237 jj236 jj235 jj234 jj233 jj232 jj231 jj230 jj229 jj228 jj227 jj226 jj225 jj224 jj223 jj222 jj221 jj220 jj219 jj218 jj217 jj216 jj215 jj214 jj213 jj212 jj211 jj210 jj209 jj208 jj207 jj206 jj205 jj204 jj203 jj202 jj201 jj200 jj199 jj198 jj197 jj196 jj195 jj194 jj193 jj192 jj191 jj190 jj189 jj188 jj187 jj186 jj185 jj184 jj183 jj182 jj181 jj180 jj179 jj178 jj177 jj176 jj175 jj174 jj173 jj172 jj171 jj170 jj169 jj168 jj167 jj166 jj165 jj164 jj163 jj162 jj161 jj160 jj159 jj158 jj157 jj156 jj155 jj154 jj153 jj152 jj151 jj150 jj149 jj148 jj147 jj146 jj145 jj144 jj143 jj142 jj141 jj140 jj139 jj138 jj137 jj136 jj135 jj134 jj133 jj132 jj131 jj130 jj129 jj128 jj127 jj126 jj125 jj124 jj123 jj122 jj121 jj120 jj119 jj118 jj117 jj116 jj115 jj114 jj113 jj112 jj111 jj110 jj109 jj108 jj107 jj106 jj105 jj104 jj103 jj102 jj101 jj100 jj99 jj98 jj97 jj96 jj95 jj94 jj93 jj92 jj91 jj90 jj89 jj88 jj87 jj86 jj85 jj84 jj83 jj82 jj81 jj80 jj79 jj78 jj77 jj76 jj75 jj74 jj73 jj72 jj71 jj70 jj69 jj68 jj67 jj66 jj65 jj64 jj63 jj62 jj61 jj60 jj59 jj58 jj57 jj56 jj55 jj54 jj53 jj52 jj51 jj50 jj49 jj48 jj47 jj46 jj45 jj44 jj43 jj42 jj41 jj40 jj39 jj38 jj37 jj36 jj35 jj34 jj33 jj32 jj31 jj30 jj29 jj28 jj27 jj26 jj25 jj24 jj23 jj22 jj21 jj20 jj19 jj18 jj17 jj16 jj15 jj14 jj13 jj12 jj11 jj10 jj9 jj8 jj7 jj6 jj5 jj4 jj3 jj2 jj1 jj0; (k_with "q0" => try clear jj0); (k_with "q1" => try (clear jj1; k_extra "q0")); (k_with "q2" => try (clear jj2; k_extra "q1")); (k_with "q3" => try (clear jj3; k_extra "q2")); (k_with "q4" => try (clear jj4; k_extra "q3")); (k_with "q5" => try (clear jj5; k_extra "q4")); (k_with "q6" => try (clear jj6; k_extra "q5")); (k_with "q7" => try (clear jj7; k_extra "q6")); (k_with "q8" => try (clear jj8; k_extra "q7")); (k_with "q9" => try (clear jj9; k_extra "q8")); (k_with "q10" => try (clear jj10; k_extra "q9")); (k_with "q11" => try (clear jj11; k_extra "q10")); (k_with "q12" => try (clear jj12; k_extra "q11")); (k_with "q13" => try (clear jj13; k_extra "q12")); (k_with "q14" => try (clear jj14; k_extra "q13")); (k_with "q15" => try (clear jj15; k_extra "q14")); (k_with "q16" => try (clear jj16; k_extra "q15")); (k_with "q17" => try (clear jj17; k_extra "q16")); (k_with "q18" => try (clear jj18; k_extra "q17")); (k_with "q19" => try (clear jj19; k_extra "q18")); (k_with "q20" => try (clear jj20; k_extra "q19")); (k_with "q21" => try (clear jj21; k_extra "q20")); (k_with "q22" => try (clear jj22; k_extra "q21")); (k_with "q23" => try (clear jj23; k_extra "q22")); (k_with "q24" => try (clear jj24; k_extra "q23")); (k_with "q25" => try (clear jj25; k_extra "q24")); (k_with "q26" => try (clear jj26; k_extra "q25")); (k_with "q27" => try (clear jj27; k_extra "q26")); (k_with "q28" => try (clear jj28; k_extra "q27")); (k_with "q29" => try (clear jj29; k_extra "q28")); (k_with "q30" => try (clear jj30; k_extra "q29")); (k_with "q31" => try (clear jj31; k_extra "q30")); (k_with "q32" => try (clear jj32; k_extra "q31")); (k_with "q33" => try (clear jj33; k_extra "q32")); (k_with "q34" => try (clear jj34; k_extra "q33")); (k_with "q35" => try (clear jj35; k_extra "q34")); (k_with "q36" => try (clear jj36; k_extra "q35")); (k_with "q37" => try (clear jj37; k_extra "q36")); (k_with "q38" => try (clear jj38; k_extra "q37")); (k_with "q39" => try (clear jj39; k_extra "q38")); (k_with "q40" => try (clear jj40; k_extra "q39")); (k_with "q41" => try (clear jj41; k_extra "q40")); (k_with "q42" => try (clear jj42; k_extra "q41")); (k_with "q43" => try (clear jj43; k_extra "q42")); (k_with "q44" => try (clear jj44; k_extra "q43")); (k_with "q45" => try (clear jj45; k_extra "q44")); (k_with "q46" => try (clear jj46; k_extra "q45")); (k_with "q47" => try (clear jj47; k_extra "q46")); (k_with "q48" => try (clear jj48; k_extra "q47")); (k_with "q49" => try (clear jj49; k_extra "q48")); (k_with "q50" => try (clear jj50; k_extra "q49")); (k_with "q51" => try (clear jj51; k_extra "q50")); (k_with "q52" => try (clear jj52; k_extra "q51")); (k_with "q53" => try (clear jj53; k_extra "q52")); (k_with "q54" => try (clear jj54; k_extra "q53")); (k_with "q55" => try (clear jj55; k_extra "q54")); (k_with "q56" => try (clear jj56; k_extra "q55")); (k_with "q57" => try (clear jj57; k_extra "q56")); (k_with "q58" => try (clear jj58; k_extra "q57")); (k_with "q59" => try (clear jj59; k_extra "q58")); (k_with "q60" => try (clear jj60; k_extra "q59")); (k_with "q61" => try (clear jj61; k_extra "q60")); (k_with "q62" => try (clear jj62; k_extra "q61")); (k_with "q63" => try (clear jj63; k_extra "q62")); (k_with "q64" => try (clear jj64; k_extra "q63")); (k_with "q65" => try (clear jj65; k_extra "q64")); (k_with "q66" => try (clear jj66; k_extra "q65")); (k_with "q67" => try (clear jj67; k_extra "q66")); (k_with "q68" => try (clear jj68; k_extra "q67")); (k_with "q69" => try (clear jj69; k_extra "q68")); (k_with "q70" => try (clear jj70; k_extra "q69")); (k_with "q71" => try (clear jj71; k_extra "q70")); (k_with "q72" => try (clear jj72; k_extra "q71")); (k_with "q73" => try (clear jj73; k_extra "q72")); (k_with "q74" => try (clear jj74; k_extra "q73")); (k_with "q75" => try (clear jj75; k_extra "q74")); (k_with "q76" => try (clear jj76; k_extra "q75")); (k_with "q77" => try (clear jj77; k_extra "q76")); (k_with "q78" => try (clear jj78; k_extra "q77")); (k_with "q79" => try (clear jj79; k_extra "q78")); (k_with "q80" => try (clear jj80; k_extra "q79")); (k_with "q81" => try (clear jj81; k_extra "q80")); (k_with "q82" => try (clear jj82; k_extra "q81")); (k_with "q83" => try (clear jj83; k_extra "q82")); (k_with "q84" => try (clear jj84; k_extra "q83")); (k_with "q85" => try (clear jj85; k_extra "q84")); (k_with "q86" => try (clear jj86; k_extra "q85")); (k_with "q87" => try (clear jj87; k_extra "q86")); (k_with "q88" => try (clear jj88; k_extra "q87")); (k_with "q89" => try (clear jj89; k_extra "q88")); (k_with "q90" => try (clear jj90; k_extra "q89")); (k_with "q91" => try (clear jj91; k_extra "q90")); (k_with "q92" => try (clear jj92; k_extra "q91")); (k_with "q93" => try (clear jj93; k_extra "q92")); (k_with "q94" => try (clear jj94; k_extra "q93")); (k_with "q95" => try (clear jj95; k_extra "q94")); (k_with "q96" => try (clear jj96; k_extra "q95")); (k_with "q97" => try (clear jj97; k_extra "q96")); (k_with "q98" => try (clear jj98; k_extra "q97")); (k_with "q99" => try (clear jj99; k_extra "q98")); (k_with "q100" => try (clear jj100; k_extra "q99")); (k_with "q101" => try (clear jj101; k_extra "q100")); (k_with "q102" => try (clear jj102; k_extra "q101")); (k_with "q103" => try (clear jj103; k_extra "q102")); (k_with "q104" => try (clear jj104; k_extra "q103")); (k_with "q105" => try (clear jj105; k_extra "q104")); (k_with "q106" => try (clear jj106; k_extra "q105")); (k_with "q107" => try (clear jj107; k_extra "q106")); (k_with "q108" => try (clear jj108; k_extra "q107")); (k_with "q109" => try (clear jj109; k_extra "q108")); (k_with "q110" => try (clear jj110; k_extra "q109")); (k_with "q111" => try (clear jj111; k_extra "q110")); (k_with "q112" => try (clear jj112; k_extra "q111")); (k_with "q113" => try (clear jj113; k_extra "q112")); (k_with "q114" => try (clear jj114; k_extra "q113")); (k_with "q115" => try (clear jj115; k_extra "q114")); (k_with "q116" => try (clear jj116; k_extra "q115")); (k_with "q117" => try (clear jj117; k_extra "q116")); (k_with "q118" => try (clear jj118; k_extra "q117")); (k_with "q119" => try (clear jj119; k_extra "q118")); (k_with "q120" => try (clear jj120; k_extra "q119")); (k_with "q121" => try (clear jj121; k_extra "q120")); (k_with "q122" => try (clear jj122; k_extra "q121")); (k_with "q123" => try (clear jj123; k_extra "q122")); (k_with "q124" => try (clear jj124; k_extra "q123")); (k_with "q125" => try (clear jj125; k_extra "q124")); (k_with "q126" => try (clear jj126; k_extra "q125")); (k_with "q127" => try (clear jj127; k_extra "q126")); (k_with "q128" => try (clear jj128; k_extra "q127")); (k_with "q129" => try (clear jj129; k_extra "q128")); (k_with "q130" => try (clear jj130; k_extra "q129")); (k_with "q131" => try (clear jj131; k_extra "q130")); (k_with "q132" => try (clear jj132; k_extra "q131")); (k_with "q133" => try (clear jj133; k_extra "q132")); (k_with "q134" => try (clear jj134; k_extra "q133")); (k_with "q135" => try (clear jj135; k_extra "q134")); (k_with "q136" => try (clear jj136; k_extra "q135")); (k_with "q137" => try (clear jj137; k_extra "q136")); (k_with "q138" => try (clear jj138; k_extra "q137")); (k_with "q139" => try (clear jj139; k_extra "q138")); (k_with "q140" => try (clear jj140; k_extra "q139")); (k_with "q141" => try (clear jj141; k_extra "q140")); (k_with "q142" => try (clear jj142; k_extra "q141")); (k_with "q143" => try (clear jj143; k_extra "q142")); (k_with "q144" => try (clear jj144; k_extra "q143")); (k_with "q145" => try (clear jj145; k_extra "q144")); (k_with "q146" => try (clear jj146; k_extra "q145")); (k_with "q147" => try (clear jj147; k_extra "q146")); (k_with "q148" => try (clear jj148; k_extra "q147")); (k_with "q149" => try (clear jj149; k_extra "q148")); (k_with "q150" => try (clear jj150; k_extra "q149")); (k_with "q151" => try (clear jj151; k_extra "q150")); (k_with "q152" => try (clear jj152; k_extra "q151")); (k_with "q153" => try (clear jj153; k_extra "q152")); (k_with "q154" => try (clear jj154; k_extra "q153")); (k_with "q155" => try (clear jj155; k_extra "q154")); (k_with "q156" => try (clear jj156; k_extra "q155")); (k_with "q157" => try (clear jj157; k_extra "q156")); (k_with "q158" => try (clear jj158; k_extra "q157")); (k_with "q159" => try (clear jj159; k_extra "q158")); (k_with "q160" => try (clear jj160; k_extra "q159")); (k_with "q161" => try (clear jj161; k_extra "q160")); (k_with "q162" => try (clear jj162; k_extra "q161")); (k_with "q163" => try (clear jj163; k_extra "q162")); (k_with "q164" => try (clear jj164; k_extra "q163")); (k_with "q165" => try (clear jj165; k_extra "q164")); (k_with "q166" => try (clear jj166; k_extra "q165")); (k_with "q167" => try (clear jj167; k_extra "q166")); (k_with "q168" => try (clear jj168; k_extra "q167")); (k_with "q169" => try (clear jj169; k_extra "q168")); (k_with "q170" => try (clear jj170; k_extra "q169")); (k_with "q171" => try (clear jj171; k_extra "q170")); (k_with "q172" => try (clear jj172; k_extra "q171")); (k_with "q173" => try (clear jj173; k_extra "q172")); (k_with "q174" => try (clear jj174; k_extra "q173")); (k_with "q175" => try (clear jj175; k_extra "q174")); (k_with "q176" => try (clear jj176; k_extra "q175")); (k_with "q177" => try (clear jj177; k_extra "q176")); (k_with "q178" => try (clear jj178; k_extra "q177")); (k_with "q179" => try (clear jj179; k_extra "q178")); (k_with "q180" => try (clear jj180; k_extra "q179")); (k_with "q181" => try (clear jj181; k_extra "q180")); (k_with "q182" => try (clear jj182; k_extra "q181")); (k_with "q183" => try (clear jj183; k_extra "q182")); (k_with "q184" => try (clear jj184; k_extra "q183")); (k_with "q185" => try (clear jj185; k_extra "q184")); (k_with "q186" => try (clear jj186; k_extra "q185")); (k_with "q187" => try (clear jj187; k_extra "q186")); (k_with "q188" => try (clear jj188; k_extra "q187")); (k_with "q189" => try (clear jj189; k_extra "q188")); (k_with "q190" => try (clear jj190; k_extra "q189")); (k_with "q191" => try (clear jj191; k_extra "q190")); (k_with "q192" => try (clear jj192; k_extra "q191")); (k_with "q193" => try (clear jj193; k_extra "q192")); (k_with "q194" => try (clear jj194; k_extra "q193")); (k_with "q195" => try (clear jj195; k_extra "q194")); (k_with "q196" => try (clear jj196; k_extra "q195")); (k_with "q197" => try (clear jj197; k_extra "q196")); (k_with "q198" => try (clear jj198; k_extra "q197")); (k_with "q199" => try (clear jj199; k_extra "q198")); (k_with "q200" => try (clear jj200; k_extra "q199")); (k_with "q201" => try (clear jj201; k_extra "q200")); (k_with "q202" => try (clear jj202; k_extra "q201")); (k_with "q203" => try (clear jj203; k_extra "q202")); (k_with "q204" => try (clear jj204; k_extra "q203")); (k_with "q205" => try (clear jj205; k_extra "q204")); (k_with "q206" => try (clear jj206; k_extra "q205")); (k_with "q207" => try (clear jj207; k_extra "q206")); (k_with "q208" => try (clear jj208; k_extra "q207")); (k_with "q209" => try (clear jj209; k_extra "q208")); (k_with "q210" => try (clear jj210; k_extra "q209")); (k_with "q211" => try (clear jj211; k_extra "q210")); (k_with "q212" => try (clear jj212; k_extra "q211")); (k_with "q213" => try (clear jj213; k_extra "q212")); (k_with "q214" => try (clear jj214; k_extra "q213")); (k_with "q215" => try (clear jj215; k_extra "q214")); (k_with "q216" => try (clear jj216; k_extra "q215")); (k_with "q217" => try (clear jj217; k_extra "q216")); (k_with "q218" => try (clear jj218; k_extra "q217")); (k_with "q219" => try (clear jj219; k_extra "q218")); (k_with "q220" => try (clear jj220; k_extra "q219")); (k_with "q221" => try (clear jj221; k_extra "q220")); (k_with "q222" => try (clear jj222; k_extra "q221")); (k_with "q223" => try (clear jj223; k_extra "q222")); (k_with "q224" => try (clear jj224; k_extra "q223")); (k_with "q225" => try (clear jj225; k_extra "q224")); (k_with "q226" => try (clear jj226; k_extra "q225")); (k_with "q227" => try (clear jj227; k_extra "q226")); (k_with "q228" => try (clear jj228; k_extra "q227")); (k_with "q229" => try (clear jj229; k_extra "q228")); (k_with "q230" => try (clear jj230; k_extra "q229")); (k_with "q231" => try (clear jj231; k_extra "q230")); (k_with "q232" => try (clear jj232; k_extra "q231")); (k_with "q233" => try (clear jj233; k_extra "q232")); (k_with "q234" => try (clear jj234; k_extra "q233")); (k_with "q235" => try (clear jj235; k_extra "q234")); (k_with "q236" => try (clear jj236; k_extra "q235")); (k_with "q237" => try (clear jj237; k_extra "q236")); (k_with "q238" => try (clear jj238; k_extra "q237")); (k_with "q239" => try (clear jj239; k_extra "q238")); (k_with "q240" => try (clear jj240; k_extra "q239")); (k_with "q241" => try (clear jj241; k_extra "q240")); (k_with "q242" => try (clear jj242; k_extra "q241")); (k_with "q243" => try (clear jj243; k_extra "q242")); (k_with "q244" => try (clear jj244; k_extra "q243")); (k_with "q245" => try (clear jj245; k_extra "q244")); (k_with "q246" => try (clear jj246; k_extra "q245")); (k_with "q247" => try (clear jj247; k_extra "q246")); (k_with "q248" => try (clear jj248; k_extra "q247")); (k_with "q249" => try (clear jj249; k_extra "q248")); (k_with "q250" => try (clear jj250; k_extra "q249")); (k_with "q251" => try (clear jj251; k_extra "q250")); (k_with "q252" => try (clear jj252; k_extra "q251")); (k_with "q253" => try (clear jj253; k_extra "q252")); (k_with "q254" => try (clear jj254; k_extra "q253")); (k_with "q255" => try (clear jj255; k_extra "q254")); (k_with "q256" => try (clear jj256; k_extra "q255")); (k_with "q257" => try (clear jj257; k_extra "q256")); (k_with "q258" => try (clear jj258; k_extra "q257")); (k_with "q259" => try (clear jj259; k_extra "q258")); (k_with "q260" => try (clear jj260; k_extra "q259")); (k_with "q261" => try (clear jj261; k_extra "q260")); (k_with "q262" => try (clear jj262; k_extra "q261")); (k_with "q263" => try (clear jj263; k_extra "q262")); (k_with "q264" => try (clear jj264; k_extra "q263")); (k_with "q265" => try (clear jj265; k_extra "q264")); (k_with "q266" => try (clear jj266; k_extra "q265")); (k_with "q267" => try (clear jj267; k_extra "q266")); (k_with "q268" => try (clear jj268; k_extra "q267")); (k_with "q269" => try (clear jj269; k_extra "q268")); (k_with "q270" => try (clear jj270; k_extra "q269")); (k_with "q271" => try (clear jj271; k_extra "q270")); (k_with "q272" => try (clear jj272; k_extra "q271")); (k_with "q273" => try (clear jj273; k_extra "q272")); (k_with "q274" => try (clear jj274; k_extra "q273")); (k_with "q275" => try (clear jj275; k_extra "q274")); (k_with "q276" => try (clear jj276; k_extra "q275")); (k_with "q277" => try (clear jj277; k_extra "q276")); (k_with "q278" => try (clear jj278; k_extra "q277")); (k_with "q279" => try (clear jj279; k_extra "q278")); (k_with "q280" => try (clear jj280; k_extra "q279")); (k_with "q281" => try (clear jj281; k_extra "q280")); (k_with "q282" => try (clear jj282; k_extra "q281")); (k_with "q283" => try (clear jj283; k_extra "q282")); (k_with "q284" => try (clear jj284; k_extra "q283")); (k_with "q285" => try (clear jj285; k_extra "q284")); (k_with "q286" => try (clear jj286; k_extra "q285")); (k_with "q287" => try (clear jj287; k_extra "q286")); (k_with "q288" => try (clear jj288; k_extra "q287")); (k_with "q289" => try (clear jj289; k_extra "q288")); (k_with "q290" => try (clear jj290; k_extra "q289")); (k_with "q291" => try (clear jj291; k_extra "q290")); (k_with "q292" => try (clear jj292; k_extra "q291")); (k_with "q293" => try (clear jj293; k_extra "q292")); (k_with "q294" => try (clear jj294; k_extra "q293")); (k_with "q295" => try (clear jj295; k_extra "q294")); (k_with "q296" => try (clear jj296; k_extra "q295")); (k_with "q297" => try (clear jj297; k_extra "q296")); (k_with "q298" => try (clear jj298; k_extra "q297")); (k_with "q299" => try (clear jj299; k_extra "q298")); (k_with "q300" => try (clear jj300; k_extra "q299")); (k_with "q301" => try (clear jj301; k_extra "q300")); (k_with "q302" => try (clear jj302; k_extra "q301")); (k_with "q303" => try (clear jj303; k_extra "q302")); (k_with "q304" => try (clear jj304; k_extra "q303")); (k_with "q305" => try (clear jj305; k_extra "q304")); (k_with "q306" => try (clear jj306; k_extra "q305")); (k_with "q307" => try (clear jj307; k_extra "q306")); (k_with "q308" => try (clear jj308; k_extra "q307")); (k_with "q309" => try (clear jj309; k_extra "q308")); (k_with "q310" => try (clear jj310; k_extra "q309")); (k_with "q311" => try (clear jj311; k_extra "q310")); (k_with "q312" => try (clear jj312; k_extra "q311")); (k_with "q313" => try (clear jj313; k_extra "q312")); (k_with "q314" => try (clear jj314; k_extra "q313")); (k_with "q315" => try (clear jj315; k_extra "q314")); (k_with "q316" => try (clear jj316; k_extra "q315")); (k_with "q317" => try (clear jj317; k_extra "q316")); (k_with "q318" => try (clear jj318; k_extra "q317")); (k_with "q319" => try (clear jj319; k_extra "q318")); (k_with "q320" => try (clear jj320; k_extra "q319")); (k_with "q321" => try (clear jj321; k_extra "q320")); (k_with "q322" => try (clear jj322; k_extra "q321")); (k_with "q323" => try (clear jj323; k_extra "q322")); (k_with "q324" => try (clear jj324; k_extra "q323")); (k_with "q325" => try (clear jj325; k_extra "q324")); (k_with "q326" => try (clear jj326; k_extra "q325")); (k_with "q327" => try (clear jj327; k_extra "q326")); (k_with "q328" => try (clear jj328; k_extra "q327")); (k_with "q329" => try (clear jj329; k_extra "q328")); (k_with "r0" => ((refine kv ?jj0 ?_))); (k_with "r1" => ((refine kv ?jj1 ?_); k_extra "r0")); (k_with "r2" => ((refine kv ?jj2 ?_); k_extra "r1")); (k_with "r3" => ((refine kv ?jj3 ?_); k_extra "r2")); (k_with "r4" => ((refine kv ?jj4 ?_); k_extra "r3")); (k_with "r5" => ((refine kv ?jj5 ?_); k_extra "r4")); (k_with "r6" => ((refine kv ?jj6 ?_); k_extra "r5")); (k_with "r7" => ((refine kv ?jj7 ?_); k_extra "r6")); (k_with "r8" => ((refine kv ?jj8 ?_); k_extra "r7")); (k_with "r9" => ((refine kv ?jj9 ?_); k_extra "r8")); (k_with "r10" => ((refine kv ?jj10 ?_); k_extra "r9")); (k_with "r11" => ((refine kv ?jj11 ?_); k_extra "r10")); (k_with "r12" => ((refine kv ?jj12 ?_); k_extra "r11")); (k_with "r13" => ((refine kv ?jj13 ?_); k_extra "r12")); (k_with "r14" => ((refine kv ?jj14 ?_); k_extra "r13")); (k_with "r15" => ((refine kv ?jj15 ?_); k_extra "r14")); (k_with "r16" => ((refine kv ?jj16 ?_); k_extra "r15")); (k_with "r17" => ((refine kv ?jj17 ?_); k_extra "r16")); (k_with "r18" => ((refine kv ?jj18 ?_); k_extra "r17")); (k_with "r19" => ((refine kv ?jj19 ?_); k_extra "r18")); (k_with "r20" => ((refine kv ?jj20 ?_); k_extra "r19")); (k_with "r21" => ((refine kv ?jj21 ?_); k_extra "r20")); (k_with "r22" => ((refine kv ?jj22 ?_); k_extra "r21")); (k_with "r23" => ((refine kv ?jj23 ?_); k_extra "r22")); (k_with "r24" => ((refine kv ?jj24 ?_); k_extra "r23")); (k_with "r25" => ((refine kv ?jj25 ?_); k_extra "r24")); (k_with "r26" => ((refine kv ?jj26 ?_); k_extra "r25")); (k_with "r27" => ((refine kv ?jj27 ?_); k_extra "r26")); (k_with "r28" => ((refine kv ?jj28 ?_); k_extra "r27")); (k_with "r29" => ((refine kv ?jj29 ?_); k_extra "r28")); (k_with "r30" => ((refine kv ?jj30 ?_); k_extra "r29")); (k_with "r31" => ((refine kv ?jj31 ?_); k_extra "r30")); (k_with "r32" => ((refine kv ?jj32 ?_); k_extra "r31")); (k_with "r33" => ((refine kv ?jj33 ?_); k_extra "r32")); (k_with "r34" => ((refine kv ?jj34 ?_); k_extra "r33")); (k_with "r35" => ((refine kv ?jj35 ?_); k_extra "r34")); (k_with "r36" => ((refine kv ?jj36 ?_); k_extra "r35")); (k_with "r37" => ((refine kv ?jj37 ?_); k_extra "r36")); (k_with "r38" => ((refine kv ?jj38 ?_); k_extra "r37")); (k_with "r39" => ((refine kv ?jj39 ?_); k_extra "r38")); (k_with "r40" => ((refine kv ?jj40 ?_); k_extra "r39")); (k_with "r41" => ((refine kv ?jj41 ?_); k_extra "r40")); (k_with "r42" => ((refine kv ?jj42 ?_); k_extra "r41")); (k_with "r43" => ((refine kv ?jj43 ?_); k_extra "r42")); (k_with "r44" => ((refine kv ?jj44 ?_); k_extra "r43")); (k_with "r45" => ((refine kv ?jj45 ?_); k_extra "r44")); (k_with "r46" => ((refine kv ?jj46 ?_); k_extra "r45")); (k_with "r47" => ((refine kv ?jj47 ?_); k_extra "r46")); (k_with "r48" => ((refine kv ?jj48 ?_); k_extra "r47")); (k_with "r49" => ((refine kv ?jj49 ?_); k_extra "r48")); (k_with "r50" => ((refine kv ?jj50 ?_); k_extra "r49")); (k_with "r51" => ((refine kv ?jj51 ?_); k_extra "r50")); (k_with "r52" => ((refine kv ?jj52 ?_); k_extra "r51")); (k_with "r53" => ((refine kv ?jj53 ?_); k_extra "r52")); (k_with "r54" => ((refine kv ?jj54 ?_); k_extra "r53")); (k_with "r55" => ((refine kv ?jj55 ?_); k_extra "r54")); (k_with "r56" => ((refine kv ?jj56 ?_); k_extra "r55")); (k_with "r57" => ((refine kv ?jj57 ?_); k_extra "r56")); (k_with "r58" => ((refine kv ?jj58 ?_); k_extra "r57")); (k_with "r59" => ((refine kv ?jj59 ?_); k_extra "r58")); (k_with "r60" => ((refine kv ?jj60 ?_); k_extra "r59")); (k_with "r61" => ((refine kv ?jj61 ?_); k_extra "r60")); (k_with "r62" => ((refine kv ?jj62 ?_); k_extra "r61")); (k_with "r63" => ((refine kv ?jj63 ?_); k_extra "r62")); (k_with "r64" => ((refine kv ?jj64 ?_); k_extra "r63")); (k_with "r65" => ((refine kv ?jj65 ?_); k_extra "r64")); (k_with "r66" => ((refine kv ?jj66 ?_); k_extra "r65")); (k_with "r67" => ((refine kv ?jj67 ?_); k_extra "r66")); (k_with "r68" => ((refine kv ?jj68 ?_); k_extra "r67")); (k_with "r69" => ((refine kv ?jj69 ?_); k_extra "r68")); (k_with "r70" => ((refine kv ?jj70 ?_); k_extra "r69")); (k_with "r71" => ((refine kv ?jj71 ?_); k_extra "r70")); (k_with "r72" => ((refine kv ?jj72 ?_); k_extra "r71")); (k_with "r73" => ((refine kv ?jj73 ?_); k_extra "r72")); (k_with "r74" => ((refine kv ?jj74 ?_); k_extra "r73")); (k_with "r75" => ((refine kv ?jj75 ?_); k_extra "r74")); (k_with "r76" => ((refine kv ?jj76 ?_); k_extra "r75")); (k_with "r77" => ((refine kv ?jj77 ?_); k_extra "r76")); (k_with "r78" => ((refine kv ?jj78 ?_); k_extra "r77")); (k_with "r79" => ((refine kv ?jj79 ?_); k_extra "r78")); (k_with "r80" => ((refine kv ?jj80 ?_); k_extra "r79")); (k_with "r81" => ((refine kv ?jj81 ?_); k_extra "r80")); (k_with "r82" => ((refine kv ?jj82 ?_); k_extra "r81")); (k_with "r83" => ((refine kv ?jj83 ?_); k_extra "r82")); (k_with "r84" => ((refine kv ?jj84 ?_); k_extra "r83")); (k_with "r85" => ((refine kv ?jj85 ?_); k_extra "r84")); (k_with "r86" => ((refine kv ?jj86 ?_); k_extra "r85")); (k_with "r87" => ((refine kv ?jj87 ?_); k_extra "r86")); (k_with "r88" => ((refine kv ?jj88 ?_); k_extra "r87")); (k_with "r89" => ((refine kv ?jj89 ?_); k_extra "r88")); (k_with "r90" => ((refine kv ?jj90 ?_); k_extra "r89")); (k_with "r91" => ((refine kv ?jj91 ?_); k_extra "r90")); (k_with "r92" => ((refine kv ?jj92 ?_); k_extra "r91")); (k_with "r93" => ((refine kv ?jj93 ?_); k_extra "r92")); (k_with "r94" => ((refine kv ?jj94 ?_); k_extra "r93")); (k_with "r95" => ((refine kv ?jj95 ?_); k_extra "r94")); (k_with "r96" => ((refine kv ?jj96 ?_); k_extra "r95")); (k_with "r97" => ((refine kv ?jj97 ?_); k_extra "r96")); (k_with "r98" => ((refine kv ?jj98 ?_); k_extra "r97")); (k_with "r99" => ((refine kv ?jj99 ?_); k_extra "r98")); (k_with "r100" => ((refine kv ?jj100 ?_); k_extra "r99")); (k_with "r101" => ((refine kv ?jj101 ?_); k_extra "r100")); (k_with "r102" => ((refine kv ?jj102 ?_); k_extra "r101")); (k_with "r103" => ((refine kv ?jj103 ?_); k_extra "r102")); (k_with "r104" => ((refine kv ?jj104 ?_); k_extra "r103")); (k_with "r105" => ((refine kv ?jj105 ?_); k_extra "r104")); (k_with "r106" => ((refine kv ?jj106 ?_); k_extra "r105")); (k_with "r107" => ((refine kv ?jj107 ?_); k_extra "r106")); (k_with "r108" => ((refine kv ?jj108 ?_); k_extra "r107")); (k_with "r109" => ((refine kv ?jj109 ?_); k_extra "r108")); (k_with "r110" => ((refine kv ?jj110 ?_); k_extra "r109")); (k_with "r111" => ((refine kv ?jj111 ?_); k_extra "r110")); (k_with "r112" => ((refine kv ?jj112 ?_); k_extra "r111")); (k_with "r113" => ((refine kv ?jj113 ?_); k_extra "r112")); (k_with "r114" => ((refine kv ?jj114 ?_); k_extra "r113")); (k_with "r115" => ((refine kv ?jj115 ?_); k_extra "r114")); (k_with "r116" => ((refine kv ?jj116 ?_); k_extra "r115")); (k_with "r117" => ((refine kv ?jj117 ?_); k_extra "r116")); (k_with "r118" => ((refine kv ?jj118 ?_); k_extra "r117")); (k_with "r119" => ((refine kv ?jj119 ?_); k_extra "r118")); (k_with "r120" => ((refine kv ?jj120 ?_); k_extra "r119")); (k_with "r121" => ((refine kv ?jj121 ?_); k_extra "r120")); (k_with "r122" => ((refine kv ?jj122 ?_); k_extra "r121")); (k_with "r123" => ((refine kv ?jj123 ?_); k_extra "r122")); (k_with "r124" => ((refine kv ?jj124 ?_); k_extra "r123")); (k_with "r125" => ((refine kv ?jj125 ?_); k_extra "r124")); (k_with "r126" => ((refine kv ?jj126 ?_); k_extra "r125")); (k_with "r127" => ((refine kv ?jj127 ?_); k_extra "r126")); (k_with "r128" => ((refine kv ?jj128 ?_); k_extra "r127")); (k_with "r129" => ((refine kv ?jj129 ?_); k_extra "r128")); (k_with "r130" => ((refine kv ?jj130 ?_); k_extra "r129")); (k_with "r131" => ((refine kv ?jj131 ?_); k_extra "r130")); (k_with "r132" => ((refine kv ?jj132 ?_); k_extra "r131")); (k_with "r133" => ((refine kv ?jj133 ?_); k_extra "r132")); (k_with "r134" => ((refine kv ?jj134 ?_); k_extra "r133")); (k_with "r135" => ((refine kv ?jj135 ?_); k_extra "r134")); (k_with "r136" => ((refine kv ?jj136 ?_); k_extra "r135")); (k_with "r137" => ((refine kv ?jj137 ?_); k_extra "r136")); (k_with "r138" => ((refine kv ?jj138 ?_); k_extra "r137")); (k_with "r139" => ((refine kv ?jj139 ?_); k_extra "r138")); (k_with "r140" => ((refine kv ?jj140 ?_); k_extra "r139")); (k_with "r141" => ((refine kv ?jj141 ?_); k_extra "r140")); (k_with "r142" => ((refine kv ?jj142 ?_); k_extra "r141")); (k_with "r143" => ((refine kv ?jj143 ?_); k_extra "r142")); (k_with "r144" => ((refine kv ?jj144 ?_); k_extra "r143")); (k_with "r145" => ((refine kv ?jj145 ?_); k_extra "r144")); (k_with "r146" => ((refine kv ?jj146 ?_); k_extra "r145")); (k_with "r147" => ((refine kv ?jj147 ?_); k_extra "r146")); (k_with "r148" => ((refine kv ?jj148 ?_); k_extra "r147")); (k_with "r149" => ((refine kv ?jj149 ?_); k_extra "r148")); (k_with "r150" => ((refine kv ?jj150 ?_); k_extra "r149")); (k_with "r151" => ((refine kv ?jj151 ?_); k_extra "r150")); (k_with "r152" => ((refine kv ?jj152 ?_); k_extra "r151")); (k_with "r153" => ((refine kv ?jj153 ?_); k_extra "r152")); (k_with "r154" => ((refine kv ?jj154 ?_); k_extra "r153")); (k_with "r155" => ((refine kv ?jj155 ?_); k_extra "r154")); (k_with "r156" => ((refine kv ?jj156 ?_); k_extra "r155")); (k_with "r157" => ((refine kv ?jj157 ?_); k_extra "r156")); (k_with "r158" => ((refine kv ?jj158 ?_); k_extra "r157")); (k_with "r159" => ((refine kv ?jj159 ?_); k_extra "r158")); (k_with "r160" => ((refine kv ?jj160 ?_); k_extra "r159")); (k_with "r161" => ((refine kv ?jj161 ?_); k_extra "r160")); (k_with "r162" => ((refine kv ?jj162 ?_); k_extra "r161")); (k_with "r163" => ((refine kv ?jj163 ?_); k_extra "r162")); (k_with "r164" => ((refine kv ?jj164 ?_); k_extra "r163")); (k_with "r165" => ((refine kv ?jj165 ?_); k_extra "r164")); (k_with "r166" => ((refine kv ?jj166 ?_); k_extra "r165")); (k_with "r167" => ((refine kv ?jj167 ?_); k_extra "r166")); (k_with "r168" => ((refine kv ?jj168 ?_); k_extra "r167")); (k_with "r169" => ((refine kv ?jj169 ?_); k_extra "r168")); (k_with "r170" => ((refine kv ?jj170 ?_); k_extra "r169")); (k_with "r171" => ((refine kv ?jj171 ?_); k_extra "r170")); (k_with "r172" => ((refine kv ?jj172 ?_); k_extra "r171")); (k_with "r173" => ((refine kv ?jj173 ?_); k_extra "r172")); (k_with "r174" => ((refine kv ?jj174 ?_); k_extra "r173")); (k_with "r175" => ((refine kv ?jj175 ?_); k_extra "r174")); (k_with "r176" => ((refine kv ?jj176 ?_); k_extra "r175")); (k_with "r177" => ((refine kv ?jj177 ?_); k_extra "r176")); (k_with "r178" => ((refine kv ?jj178 ?_); k_extra "r177")); (k_with "r179" => ((refine kv ?jj179 ?_); k_extra "r178")); (k_with "r180" => ((refine kv ?jj180 ?_); k_extra "r179")); (k_with "r181" => ((refine kv ?jj181 ?_); k_extra "r180")); (k_with "r182" => ((refine kv ?jj182 ?_); k_extra "r181")); (k_with "r183" => ((refine kv ?jj183 ?_); k_extra "r182")); (k_with "r184" => ((refine kv ?jj184 ?_); k_extra "r183")); (k_with "r185" => ((refine kv ?jj185 ?_); k_extra "r184")); (k_with "r186" => ((refine kv ?jj186 ?_); k_extra "r185")); (k_with "r187" => ((refine kv ?jj187 ?_); k_extra "r186")); (k_with "r188" => ((refine kv ?jj188 ?_); k_extra "r187")); (k_with "r189" => ((refine kv ?jj189 ?_); k_extra "r188")); (k_with "r190" => ((refine kv ?jj190 ?_); k_extra "r189")); (k_with "r191" => ((refine kv ?jj191 ?_); k_extra "r190")); (k_with "r192" => ((refine kv ?jj192 ?_); k_extra "r191")); (k_with "r193" => ((refine kv ?jj193 ?_); k_extra "r192")); (k_with "r194" => ((refine kv ?jj194 ?_); k_extra "r193")); (k_with "r195" => ((refine kv ?jj195 ?_); k_extra "r194")); (k_with "r196" => ((refine kv ?jj196 ?_); k_extra "r195")); (k_with "r197" => ((refine kv ?jj197 ?_); k_extra "r196")); (k_with "r198" => ((refine kv ?jj198 ?_); k_extra "r197")); (k_with "r199" => ((refine kv ?jj199 ?_); k_extra "r198")); (k_with "r200" => ((refine kv ?jj200 ?_); k_extra "r199")); (k_with "r201" => ((refine kv ?jj201 ?_); k_extra "r200")); (k_with "r202" => ((refine kv ?jj202 ?_); k_extra "r201")); (k_with "r203" => ((refine kv ?jj203 ?_); k_extra "r202")); (k_with "r204" => ((refine kv ?jj204 ?_); k_extra "r203")); (k_with "r205" => ((refine kv ?jj205 ?_); k_extra "r204")); (k_with "r206" => ((refine kv ?jj206 ?_); k_extra "r205")); (k_with "r207" => ((refine kv ?jj207 ?_); k_extra "r206")); (k_with "r208" => ((refine kv ?jj208 ?_); k_extra "r207")); (k_with "r209" => ((refine kv ?jj209 ?_); k_extra "r208")); (k_with "r210" => ((refine kv ?jj210 ?_); k_extra "r209")); (k_with "r211" => ((refine kv ?jj211 ?_); k_extra "r210")); (k_with "r212" => ((refine kv ?jj212 ?_); k_extra "r211")); (k_with "r213" => ((refine kv ?jj213 ?_); k_extra "r212")); (k_with "r214" => ((refine kv ?jj214 ?_); k_extra "r213")); (k_with "r215" => ((refine kv ?jj215 ?_); k_extra "r214")); (k_with "r216" => ((refine kv ?jj216 ?_); k_extra "r215")); (k_with "r217" => ((refine kv ?jj217 ?_); k_extra "r216")); (k_with "r218" => ((refine kv ?jj218 ?_); k_extra "r217")); (k_with "r219" => ((refine kv ?jj219 ?_); k_extra "r218")); (k_with "r220" => ((refine kv ?jj220 ?_); k_extra "r219")); (k_with "r221" => ((refine kv ?jj221 ?_); k_extra "r220")); (k_with "r222" => ((refine kv ?jj222 ?_); k_extra "r221")); (k_with "r223" => ((refine kv ?jj223 ?_); k_extra "r222")); (k_with "r224" => ((refine kv ?jj224 ?_); k_extra "r223")); (k_with "r225" => ((refine kv ?jj225 ?_); k_extra "r224")); (k_with "r226" => ((refine kv ?jj226 ?_); k_extra "r225")); (k_with "r227" => ((refine kv ?jj227 ?_); k_extra "r226")); (k_with "r228" => ((refine kv ?jj228 ?_); k_extra "r227")); (k_with "r229" => ((refine kv ?jj229 ?_); k_extra "r228")); (k_with "r230" => ((refine kv ?jj230 ?_); k_extra "r229")); (k_with "r231" => ((refine kv ?jj231 ?_); k_extra "r230")); (k_with "r232" => ((refine kv ?jj232 ?_); k_extra "r231")); (k_with "r233" => ((refine kv ?jj233 ?_); k_extra "r232")); (k_with "r234" => ((refine kv ?jj234 ?_); k_extra "r233")); (k_with "r235" => ((refine kv ?jj235 ?_); k_extra "r234")); (k_with "r236" => ((refine kv ?jj236 ?_); k_extra "r235")); (k_with "r237" => ((refine kv ?jj237 ?_); k_extra "r236")); (k_with "r238" => ((refine kv ?jj238 ?_); k_extra "r237")); (k_with "r239" => ((refine kv ?jj239 ?_); k_extra "r238")); (k_with "r240" => ((refine kv ?jj240 ?_); k_extra "r239")); (k_with "r241" => ((refine kv ?jj241 ?_); k_extra "r240")); (k_with "r242" => ((refine kv ?jj242 ?_); k_extra "r241")); (k_with "r243" => ((refine kv ?jj243 ?_); k_extra "r242")); (k_with "r244" => ((refine kv ?jj244 ?_); k_extra "r243")); (k_with "r245" => ((refine kv ?jj245 ?_); k_extra "r244")); (k_with "r246" => ((refine kv ?jj246 ?_); k_extra "r245")); (k_with "r247" => ((refine kv ?jj247 ?_); k_extra "r246")); (k_with "r248" => ((refine kv ?jj248 ?_); k_extra "r247")); (k_with "r249" => ((refine kv ?jj249 ?_); k_extra "r248")); (k_with "r250" => ((refine kv ?jj250 ?_); k_extra "r249")); (k_with "r251" => ((refine kv ?jj251 ?_); k_extra "r250")); (k_with "r252" => ((refine kv ?jj252 ?_); k_extra "r251")); (k_with "r253" => ((refine kv ?jj253 ?_); k_extra "r252")); (k_with "r254" => ((refine kv ?jj254 ?_); k_extra "r253")); (k_with "r255" => ((refine kv ?jj255 ?_); k_extra "r254")); (k_with "r256" => ((refine kv ?jj256 ?_); k_extra "r255")); (k_with "r257" => ((refine kv ?jj257 ?_); k_extra "r256")); (k_with "r258" => ((refine kv ?jj258 ?_); k_extra "r257")); (k_with "r259" => ((refine kv ?jj259 ?_); k_extra "r258")); (k_with "r260" => ((refine kv ?jj260 ?_); k_extra "r259")); (k_with "r261" => ((refine kv ?jj261 ?_); k_extra "r260")); (k_with "r262" => ((refine kv ?jj262 ?_); k_extra "r261")); (k_with "r263" => ((refine kv ?jj263 ?_); k_extra "r262")); (k_with "r264" => ((refine kv ?jj264 ?_); k_extra "r263")); (k_with "r265" => ((refine kv ?jj265 ?_); k_extra "r264")); (k_with "r266" => ((refine kv ?jj266 ?_); k_extra "r265")); (k_with "r267" => ((refine kv ?jj267 ?_); k_extra "r266")); (k_with "r268" => ((refine kv ?jj268 ?_); k_extra "r267")); (k_with "r269" => ((refine kv ?jj269 ?_); k_extra "r268")); (k_with "r270" => ((refine kv ?jj270 ?_); k_extra "r269")); (k_with "r271" => ((refine kv ?jj271 ?_); k_extra "r270")); (k_with "r272" => ((refine kv ?jj272 ?_); k_extra "r271")); (k_with "r273" => ((refine kv ?jj273 ?_); k_extra "r272")); (k_with "r274" => ((refine kv ?jj274 ?_); k_extra "r273")); (k_with "r275" => ((refine kv ?jj275 ?_); k_extra "r274")); (k_with "r276" => ((refine kv ?jj276 ?_); k_extra "r275")); (k_with "r277" => ((refine kv ?jj277 ?_); k_extra "r276")); (k_with "r278" => ((refine kv ?jj278 ?_); k_extra "r277")); (k_with "r279" => ((refine kv ?jj279 ?_); k_extra "r278")); (k_with "r280" => ((refine kv ?jj280 ?_); k_extra "r279")); (k_with "r281" => ((refine kv ?jj281 ?_); k_extra "r280")); (k_with "r282" => ((refine kv ?jj282 ?_); k_extra "r281")); (k_with "r283" => ((refine kv ?jj283 ?_); k_extra "r282")); (k_with "r284" => ((refine kv ?jj284 ?_); k_extra "r283")); (k_with "r285" => ((refine kv ?jj285 ?_); k_extra "r284")); (k_with "r286" => ((refine kv ?jj286 ?_); k_extra "r285")); (k_with "r287" => ((refine kv ?jj287 ?_); k_extra "r286")); (k_with "r288" => ((refine kv ?jj288 ?_); k_extra "r287")); (k_with "r289" => ((refine kv ?jj289 ?_); k_extra "r288")); (k_with "r290" => ((refine kv ?jj290 ?_); k_extra "r289")); (k_with "r291" => ((refine kv ?jj291 ?_); k_extra "r290")); (k_with "r292" => ((refine kv ?jj292 ?_); k_extra "r291")); (k_with "r293" => ((refine kv ?jj293 ?_); k_extra "r292")); (k_with "r294" => ((refine kv ?jj294 ?_); k_extra "r293")); (k_with "r295" => ((refine kv ?jj295 ?_); k_extra "r294")); (k_with "r296" => ((refine kv ?jj296 ?_); k_extra "r295")); (k_with "r297" => ((refine kv ?jj297 ?_); k_extra "r296")); (k_with "r298" => ((refine kv ?jj298 ?_); k_extra "r297")); (k_with "r299" => ((refine kv ?jj299 ?_); k_extra "r298")); (k_with "r300" => ((refine kv ?jj300 ?_); k_extra "r299")); (k_with "r301" => ((refine kv ?jj301 ?_); k_extra "r300")); (k_with "r302" => ((refine kv ?jj302 ?_); k_extra "r301")); (k_with "r303" => ((refine kv ?jj303 ?_); k_extra "r302")); (k_with "r304" => ((refine kv ?jj304 ?_); k_extra "r303")); (k_with "r305" => ((refine kv ?jj305 ?_); k_extra "r304")); (k_with "r306" => ((refine kv ?jj306 ?_); k_extra "r305")); (k_with "r307" => ((refine kv ?jj307 ?_); k_extra "r306")); (k_with "r308" => ((refine kv ?jj308 ?_); k_extra "r307")); (k_with "r309" => ((refine kv ?jj309 ?_); k_extra "r308")); (k_with "r310" => ((refine kv ?jj310 ?_); k_extra "r309")); (k_with "r311" => ((refine kv ?jj311 ?_); k_extra "r310")); (k_with "r312" => ((refine kv ?jj312 ?_); k_extra "r311")); (k_with "r313" => ((refine kv ?jj313 ?_); k_extra "r312")); (k_with "r314" => ((refine kv ?jj314 ?_); k_extra "r313")); (k_with "r315" => ((refine kv ?jj315 ?_); k_extra "r314")); (k_with "r316" => ((refine kv ?jj316 ?_); k_extra "r315")); (k_with "r317" => ((refine kv ?jj317 ?_); k_extra "r316")); (k_with "r318" => ((refine kv ?jj318 ?_); k_extra "r317")); (k_with "r319" => ((refine kv ?jj319 ?_); k_extra "r318")); (k_with "r320" => ((refine kv ?jj320 ?_); k_extra "r319")); (k_with "r321" => ((refine kv ?jj321 ?_); k_extra "r320")); (k_with "r322" => ((refine kv ?jj322 ?_); k_extra "r321")); (k_with "r323" => ((refine kv ?jj323 ?_); k_extra "r322")); (k_with "r324" => ((refine kv ?jj324 ?_); k_extra "r323")); (k_with "r325" => ((refine kv ?jj325 ?_); k_extra "r324")); (k_with "r326" => ((refine kv ?jj326 ?_); k_extra "r325")); (k_with "r327" => ((refine kv ?jj327 ?_); k_extra "r326")); (k_with "r328" => ((refine kv ?jj328 ?_); k_extra "r327")); (k_with "r329" => ((refine kv ?jj329 ?_); k_extra "r328")); (k_with "m:slot" => (exact jj0; (k_with "m:cl" => k_extra "q0"); (k_with "m:ck" => k_extra "r0"); (k_with "m:slot" => (exact jj1; (k_with "m:cl" => k_extra "q1"); (k_with "m:ck" => k_extra "r1"); (k_with "m:slot" => (exact jj2; (k_with "m:cl" => k_extra "q2"); (k_with "m:ck" => k_extra "r2"); (k_with "m:slot" => (exact jj3; (k_with "m:cl" => k_extra "q3"); (k_with "m:ck" => k_extra "r3"); (k_with "m:slot" => (exact jj4; (k_with "m:cl" => k_extra "q4"); (k_with "m:ck" => k_extra "r4"); (k_with "m:slot" => (exact jj5; (k_with "m:cl" => k_extra "q5"); (k_with "m:ck" => k_extra "r5"); (k_with "m:slot" => (exact jj6; (k_with "m:cl" => k_extra "q6"); (k_with "m:ck" => k_extra "r6"); (k_with "m:slot" => (exact jj7; (k_with "m:cl" => k_extra "q7"); (k_with "m:ck" => k_extra "r7"); (k_with "m:slot" => (exact jj8; (k_with "m:cl" => k_extra "q8"); (k_with "m:ck" => k_extra "r8"); (k_with "m:slot" => (exact jj9; (k_with "m:cl" => k_extra "q9"); (k_with "m:ck" => k_extra "r9"); (k_with "m:slot" => (exact jj10; (k_with "m:cl" => k_extra "q10"); (k_with "m:ck" => k_extra "r10"); (k_with "m:slot" => (exact jj11; (k_with "m:cl" => k_extra "q11"); (k_with "m:ck" => k_extra "r11"); (k_with "m:slot" => (exact jj12; (k_with "m:cl" => k_extra "q12"); (k_with "m:ck" => k_extra "r12"); (k_with "m:slot" => (exact jj13; (k_with "m:cl" => k_extra "q13"); (k_with "m:ck" => k_extra "r13"); (k_with "m:slot" => (exact jj14; (k_with "m:cl" => k_extra "q14"); (k_with "m:ck" => k_extra "r14"); (k_with "m:slot" => (exact jj15; (k_with "m:cl" => k_extra "q15"); (k_with "m:ck" => k_extra "r15"); (k_with "m:slot" => (exact jj16; (k_with "m:cl" => k_extra "q16"); (k_with "m:ck" => k_extra "r16"); (k_with "m:slot" => (exact jj17; (k_with "m:cl" => k_extra "q17"); (k_with "m:ck" => k_extra "r17"); (k_with "m:slot" => (exact jj18; (k_with "m:cl" => k_extra "q18"); (k_with "m:ck" => k_extra "r18"); (k_with "m:slot" => (exact jj19; (k_with "m:cl" => k_extra "q19"); (k_with "m:ck" => k_extra "r19"); (k_with "m:slot" => (exact jj20; (k_with "m:cl" => k_extra "q20"); (k_with "m:ck" => k_extra "r20"); (k_with "m:slot" => (exact jj21; (k_with "m:cl" => k_extra "q21"); (k_with "m:ck" => k_extra "r21"); (k_with "m:slot" => (exact jj22; (k_with "m:cl" => k_extra "q22"); (k_with "m:ck" => k_extra "r22"); (k_with "m:slot" => (exact jj23; (k_with "m:cl" => k_extra "q23"); (k_with "m:ck" => k_extra "r23"); (k_with "m:slot" => (exact jj24; (k_with "m:cl" => k_extra "q24"); (k_with "m:ck" => k_extra "r24"); (k_with "m:slot" => (exact jj25; (k_with "m:cl" => k_extra "q25"); (k_with "m:ck" => k_extra "r25"); (k_with "m:slot" => (exact jj26; (k_with "m:cl" => k_extra "q26"); (k_with "m:ck" => k_extra "r26"); (k_with "m:slot" => (exact jj27; (k_with "m:cl" => k_extra "q27"); (k_with "m:ck" => k_extra "r27"); (k_with "m:slot" => (exact jj28; (k_with "m:cl" => k_extra "q28"); (k_with "m:ck" => k_extra "r28"); (k_with "m:slot" => (exact jj29; (k_with "m:cl" => k_extra "q29"); (k_with "m:ck" => k_extra "r29"); (k_with "m:slot" => (exact jj30; (k_with "m:cl" => k_extra "q30"); (k_with "m:ck" => k_extra "r30"); (k_with "m:slot" => (exact jj31; (k_with "m:cl" => k_extra "q31"); (k_with "m:ck" => k_extra "r31"); (k_with "m:slot" => (exact jj32; (k_with "m:cl" => k_extra "q32"); (k_with "m:ck" => k_extra "r32"); (k_with "m:slot" => (exact jj33; (k_with "m:cl" => k_extra "q33"); (k_with "m:ck" => k_extra "r33"); (k_with "m:slot" => (exact jj34; (k_with "m:cl" => k_extra "q34"); (k_with "m:ck" => k_extra "r34"); (k_with "m:slot" => (exact jj35; (k_with "m:cl" => k_extra "q35"); (k_with "m:ck" => k_extra "r35"); (k_with "m:slot" => (exact jj36; (k_with "m:cl" => k_extra "q36"); (k_with "m:ck" => k_extra "r36"); (k_with "m:slot" => (exact jj37; (k_with "m:cl" => k_extra "q37"); (k_with "m:ck" => k_extra "r37"); (k_with "m:slot" => (exact jj38; (k_with "m:cl" => k_extra "q38"); (k_with "m:ck" => k_extra "r38"); (k_with "m:slot" => (exact jj39; (k_with "m:cl" => k_extra "q39"); (k_with "m:ck" => k_extra "r39"); (k_with "m:slot" => (exact jj40; (k_with "m:cl" => k_extra "q40"); (k_with "m:ck" => k_extra "r40"); (k_with "m:slot" => (exact jj41; (k_with "m:cl" => k_extra "q41"); (k_with "m:ck" => k_extra "r41"); (k_with "m:slot" => (exact jj42; (k_with "m:cl" => k_extra "q42"); (k_with "m:ck" => k_extra "r42"); (k_with "m:slot" => (exact jj43; (k_with "m:cl" => k_extra "q43"); (k_with "m:ck" => k_extra "r43"); (k_with "m:slot" => (exact jj44; (k_with "m:cl" => k_extra "q44"); (k_with "m:ck" => k_extra "r44"); (k_with "m:slot" => (exact jj45; (k_with "m:cl" => k_extra "q45"); (k_with "m:ck" => k_extra "r45"); (k_with "m:slot" => (exact jj46; (k_with "m:cl" => k_extra "q46"); (k_with "m:ck" => k_extra "r46"); (k_with "m:slot" => (exact jj47; (k_with "m:cl" => k_extra "q47"); (k_with "m:ck" => k_extra "r47"); (k_with "m:slot" => (exact jj48; (k_with "m:cl" => k_extra "q48"); (k_with "m:ck" => k_extra "r48"); (k_with "m:slot" => (exact jj49; (k_with "m:cl" => k_extra "q49"); (k_with "m:ck" => k_extra "r49"); (k_with "m:slot" => (exact jj50; (k_with "m:cl" => k_extra "q50"); (k_with "m:ck" => k_extra "r50"); (k_with "m:slot" => (exact jj51; (k_with "m:cl" => k_extra "q51"); (k_with "m:ck" => k_extra "r51"); (k_with "m:slot" => (exact jj52; (k_with "m:cl" => k_extra "q52"); (k_with "m:ck" => k_extra "r52"); (k_with "m:slot" => (exact jj53; (k_with "m:cl" => k_extra "q53"); (k_with "m:ck" => k_extra "r53"); (k_with "m:slot" => (exact jj54; (k_with "m:cl" => k_extra "q54"); (k_with "m:ck" => k_extra "r54"); (k_with "m:slot" => (exact jj55; (k_with "m:cl" => k_extra "q55"); (k_with "m:ck" => k_extra "r55"); (k_with "m:slot" => (exact jj56; (k_with "m:cl" => k_extra "q56"); (k_with "m:ck" => k_extra "r56"); (k_with "m:slot" => (exact jj57; (k_with "m:cl" => k_extra "q57"); (k_with "m:ck" => k_extra "r57"); (k_with "m:slot" => (exact jj58; (k_with "m:cl" => k_extra "q58"); (k_with "m:ck" => k_extra "r58"); (k_with "m:slot" => (exact jj59; (k_with "m:cl" => k_extra "q59"); (k_with "m:ck" => k_extra "r59"); (k_with "m:slot" => (exact jj60; (k_with "m:cl" => k_extra "q60"); (k_with "m:ck" => k_extra "r60"); (k_with "m:slot" => (exact jj61; (k_with "m:cl" => k_extra "q61"); (k_with "m:ck" => k_extra "r61"); (k_with "m:slot" => (exact jj62; (k_with "m:cl" => k_extra "q62"); (k_with "m:ck" => k_extra "r62"); (k_with "m:slot" => (exact jj63; (k_with "m:cl" => k_extra "q63"); (k_with "m:ck" => k_extra "r63"); (k_with "m:slot" => (exact jj64; (k_with "m:cl" => k_extra "q64"); (k_with "m:ck" => k_extra "r64"); (k_with "m:slot" => (exact jj65; (k_with "m:cl" => k_extra "q65"); (k_with "m:ck" => k_extra "r65"); (k_with "m:slot" => (exact jj66; (k_with "m:cl" => k_extra "q66"); (k_with "m:ck" => k_extra "r66"); (k_with "m:slot" => (exact jj67; (k_with "m:cl" => k_extra "q67"); (k_with "m:ck" => k_extra "r67"); (k_with "m:slot" => (exact jj68; (k_with "m:cl" => k_extra "q68"); (k_with "m:ck" => k_extra "r68"); (k_with "m:slot" => (exact jj69; (k_with "m:cl" => k_extra "q69"); (k_with "m:ck" => k_extra "r69"); (k_with "m:slot" => (exact jj70; (k_with "m:cl" => k_extra "q70"); (k_with "m:ck" => k_extra "r70"); (k_with "m:slot" => (exact jj71; (k_with "m:cl" => k_extra "q71"); (k_with "m:ck" => k_extra "r71"); (k_with "m:slot" => (exact jj72; (k_with "m:cl" => k_extra "q72"); (k_with "m:ck" => k_extra "r72"); (k_with "m:slot" => (exact jj73; (k_with "m:cl" => k_extra "q73"); (k_with "m:ck" => k_extra "r73"); (k_with "m:slot" => (exact jj74; (k_with "m:cl" => k_extra "q74"); (k_with "m:ck" => k_extra "r74"); (k_with "m:slot" => (exact jj75; (k_with "m:cl" => k_extra "q75"); (k_with "m:ck" => k_extra "r75"); (k_with "m:slot" => (exact jj76; (k_with "m:cl" => k_extra "q76"); (k_with "m:ck" => k_extra "r76"); (k_with "m:slot" => (exact jj77; (k_with "m:cl" => k_extra "q77"); (k_with "m:ck" => k_extra "r77"); (k_with "m:slot" => (exact jj78; (k_with "m:cl" => k_extra "q78"); (k_with "m:ck" => k_extra "r78"); (k_with "m:slot" => (exact jj79; (k_with "m:cl" => k_extra "q79"); (k_with "m:ck" => k_extra "r79"); (k_with "m:slot" => (exact jj80; (k_with "m:cl" => k_extra "q80"); (k_with "m:ck" => k_extra "r80"); (k_with "m:slot" => (exact jj81; (k_with "m:cl" => k_extra "q81"); (k_with "m:ck" => k_extra "r81"); (k_with "m:slot" => (exact jj82; (k_with "m:cl" => k_extra "q82"); (k_with "m:ck" => k_extra "r82"); (k_with "m:slot" => (exact jj83; (k_with "m:cl" => k_extra "q83"); (k_with "m:ck" => k_extra "r83"); (k_with "m:slot" => (exact jj84; (k_with "m:cl" => k_extra "q84"); (k_with "m:ck" => k_extra "r84"); (k_with "m:slot" => (exact jj85; (k_with "m:cl" => k_extra "q85"); (k_with "m:ck" => k_extra "r85"); (k_with "m:slot" => (exact jj86; (k_with "m:cl" => k_extra "q86"); (k_with "m:ck" => k_extra "r86"); (k_with "m:slot" => (exact jj87; (k_with "m:cl" => k_extra "q87"); (k_with "m:ck" => k_extra "r87"); (k_with "m:slot" => (exact jj88; (k_with "m:cl" => k_extra "q88"); (k_with "m:ck" => k_extra "r88"); (k_with "m:slot" => (exact jj89; (k_with "m:cl" => k_extra "q89"); (k_with "m:ck" => k_extra "r89"); (k_with "m:slot" => (exact jj90; (k_with "m:cl" => k_extra "q90"); (k_with "m:ck" => k_extra "r90"); (k_with "m:slot" => (exact jj91; (k_with "m:cl" => k_extra "q91"); (k_with "m:ck" => k_extra "r91"); (k_with "m:slot" => (exact jj92; (k_with "m:cl" => k_extra "q92"); (k_with "m:ck" => k_extra "r92"); (k_with "m:slot" => (exact jj93; (k_with "m:cl" => k_extra "q93"); (k_with "m:ck" => k_extra "r93"); (k_with "m:slot" => (exact jj94; (k_with "m:cl" => k_extra "q94"); (k_with "m:ck" => k_extra "r94"); (k_with "m:slot" => (exact jj95; (k_with "m:cl" => k_extra "q95"); (k_with "m:ck" => k_extra "r95"); (k_with "m:slot" => (exact jj96; (k_with "m:cl" => k_extra "q96"); (k_with "m:ck" => k_extra "r96"); (k_with "m:slot" => (exact jj97; (k_with "m:cl" => k_extra "q97"); (k_with "m:ck" => k_extra "r97"); (k_with "m:slot" => (exact jj98; (k_with "m:cl" => k_extra "q98"); (k_with "m:ck" => k_extra "r98"); (k_with "m:slot" => (exact jj99; (k_with "m:cl" => k_extra "q99"); (k_with "m:ck" => k_extra "r99"); (k_with "m:slot" => (exact jj100; (k_with "m:cl" => k_extra "q100"); (k_with "m:ck" => k_extra "r100"); (k_with "m:slot" => (exact jj101; (k_with "m:cl" => k_extra "q101"); (k_with "m:ck" => k_extra "r101"); (k_with "m:slot" => (exact jj102; (k_with "m:cl" => k_extra "q102"); (k_with "m:ck" => k_extra "r102"); (k_with "m:slot" => (exact jj103; (k_with "m:cl" => k_extra "q103"); (k_with "m:ck" => k_extra "r103"); (k_with "m:slot" => (exact jj104; (k_with "m:cl" => k_extra "q104"); (k_with "m:ck" => k_extra "r104"); (k_with "m:slot" => (exact jj105; (k_with "m:cl" => k_extra "q105"); (k_with "m:ck" => k_extra "r105"); (k_with "m:slot" => (exact jj106; (k_with "m:cl" => k_extra "q106"); (k_with "m:ck" => k_extra "r106"); (k_with "m:slot" => (exact jj107; (k_with "m:cl" => k_extra "q107"); (k_with "m:ck" => k_extra "r107"); (k_with "m:slot" => (exact jj108; (k_with "m:cl" => k_extra "q108"); (k_with "m:ck" => k_extra "r108"); (k_with "m:slot" => (exact jj109; (k_with "m:cl" => k_extra "q109"); (k_with "m:ck" => k_extra "r109"); (k_with "m:slot" => (exact jj110; (k_with "m:cl" => k_extra "q110"); (k_with "m:ck" => k_extra "r110"); (k_with "m:slot" => (exact jj111; (k_with "m:cl" => k_extra "q111"); (k_with "m:ck" => k_extra "r111"); (k_with "m:slot" => (exact jj112; (k_with "m:cl" => k_extra "q112"); (k_with "m:ck" => k_extra "r112"); (k_with "m:slot" => (exact jj113; (k_with "m:cl" => k_extra "q113"); (k_with "m:ck" => k_extra "r113"); (k_with "m:slot" => (exact jj114; (k_with "m:cl" => k_extra "q114"); (k_with "m:ck" => k_extra "r114"); (k_with "m:slot" => (exact jj115; (k_with "m:cl" => k_extra "q115"); (k_with "m:ck" => k_extra "r115"); (k_with "m:slot" => (exact jj116; (k_with "m:cl" => k_extra "q116"); (k_with "m:ck" => k_extra "r116"); (k_with "m:slot" => (exact jj117; (k_with "m:cl" => k_extra "q117"); (k_with "m:ck" => k_extra "r117"); (k_with "m:slot" => (exact jj118; (k_with "m:cl" => k_extra "q118"); (k_with "m:ck" => k_extra "r118"); (k_with "m:slot" => (exact jj119; (k_with "m:cl" => k_extra "q119"); (k_with "m:ck" => k_extra "r119"); (k_with "m:slot" => (exact jj120; (k_with "m:cl" => k_extra "q120"); (k_with "m:ck" => k_extra "r120"); (k_with "m:slot" => (exact jj121; (k_with "m:cl" => k_extra "q121"); (k_with "m:ck" => k_extra "r121"); (k_with "m:slot" => (exact jj122; (k_with "m:cl" => k_extra "q122"); (k_with "m:ck" => k_extra "r122"); (k_with "m:slot" => (exact jj123; (k_with "m:cl" => k_extra "q123"); (k_with "m:ck" => k_extra "r123"); (k_with "m:slot" => (exact jj124; (k_with "m:cl" => k_extra "q124"); (k_with "m:ck" => k_extra "r124"); (k_with "m:slot" => (exact jj125; (k_with "m:cl" => k_extra "q125"); (k_with "m:ck" => k_extra "r125"); (k_with "m:slot" => (exact jj126; (k_with "m:cl" => k_extra "q126"); (k_with "m:ck" => k_extra "r126"); (k_with "m:slot" => (exact jj127; (k_with "m:cl" => k_extra "q127"); (k_with "m:ck" => k_extra "r127"); (k_with "m:slot" => (exact jj128; (k_with "m:cl" => k_extra "q128"); (k_with "m:ck" => k_extra "r128"); (k_with "m:slot" => (exact jj129; (k_with "m:cl" => k_extra "q129"); (k_with "m:ck" => k_extra "r129"); (k_with "m:slot" => (exact jj130; (k_with "m:cl" => k_extra "q130"); (k_with "m:ck" => k_extra "r130"); (k_with "m:slot" => (exact jj131; (k_with "m:cl" => k_extra "q131"); (k_with "m:ck" => k_extra "r131"); (k_with "m:slot" => (exact jj132; (k_with "m:cl" => k_extra "q132"); (k_with "m:ck" => k_extra "r132"); (k_with "m:slot" => (exact jj133; (k_with "m:cl" => k_extra "q133"); (k_with "m:ck" => k_extra "r133"); (k_with "m:slot" => (exact jj134; (k_with "m:cl" => k_extra "q134"); (k_with "m:ck" => k_extra "r134"); (k_with "m:slot" => (exact jj135; (k_with "m:cl" => k_extra "q135"); (k_with "m:ck" => k_extra "r135"); (k_with "m:slot" => (exact jj136; (k_with "m:cl" => k_extra "q136"); (k_with "m:ck" => k_extra "r136"); (k_with "m:slot" => (exact jj137; (k_with "m:cl" => k_extra "q137"); (k_with "m:ck" => k_extra "r137"); (k_with "m:slot" => (exact jj138; (k_with "m:cl" => k_extra "q138"); (k_with "m:ck" => k_extra "r138"); (k_with "m:slot" => (exact jj139; (k_with "m:cl" => k_extra "q139"); (k_with "m:ck" => k_extra "r139"); (k_with "m:slot" => (exact jj140; (k_with "m:cl" => k_extra "q140"); (k_with "m:ck" => k_extra "r140"); (k_with "m:slot" => (exact jj141; (k_with "m:cl" => k_extra "q141"); (k_with "m:ck" => k_extra "r141"); (k_with "m:slot" => (exact jj142; (k_with "m:cl" => k_extra "q142"); (k_with "m:ck" => k_extra "r142"); (k_with "m:slot" => (exact jj143; (k_with "m:cl" => k_extra "q143"); (k_with "m:ck" => k_extra "r143"); (k_with "m:slot" => (exact jj144; (k_with "m:cl" => k_extra "q144"); (k_with "m:ck" => k_extra "r144"); (k_with "m:slot" => (exact jj145; (k_with "m:cl" => k_extra "q145"); (k_with "m:ck" => k_extra "r145"); (k_with "m:slot" => (exact jj146; (k_with "m:cl" => k_extra "q146"); (k_with "m:ck" => k_extra "r146"); (k_with "m:slot" => (exact jj147; (k_with "m:cl" => k_extra "q147"); (k_with "m:ck" => k_extra "r147"); (k_with "m:slot" => (exact jj148; (k_with "m:cl" => k_extra "q148"); (k_with "m:ck" => k_extra "r148"); (k_with "m:slot" => (exact jj149; (k_with "m:cl" => k_extra "q149"); (k_with "m:ck" => k_extra "r149"); (k_with "m:slot" => (exact jj150; (k_with "m:cl" => k_extra "q150"); (k_with "m:ck" => k_extra "r150"); (k_with "m:slot" => (exact jj151; (k_with "m:cl" => k_extra "q151"); (k_with "m:ck" => k_extra "r151"); (k_with "m:slot" => (exact jj152; (k_with "m:cl" => k_extra "q152"); (k_with "m:ck" => k_extra "r152"); (k_with "m:slot" => (exact jj153; (k_with "m:cl" => k_extra "q153"); (k_with "m:ck" => k_extra "r153"); (k_with "m:slot" => (exact jj154; (k_with "m:cl" => k_extra "q154"); (k_with "m:ck" => k_extra "r154"); (k_with "m:slot" => (exact jj155; (k_with "m:cl" => k_extra "q155"); (k_with "m:ck" => k_extra "r155"); (k_with "m:slot" => (exact jj156; (k_with "m:cl" => k_extra "q156"); (k_with "m:ck" => k_extra "r156"); (k_with "m:slot" => (exact jj157; (k_with "m:cl" => k_extra "q157"); (k_with "m:ck" => k_extra "r157"); (k_with "m:slot" => (exact jj158; (k_with "m:cl" => k_extra "q158"); (k_with "m:ck" => k_extra "r158"); (k_with "m:slot" => (exact jj159; (k_with "m:cl" => k_extra "q159"); (k_with "m:ck" => k_extra "r159"); (k_with "m:slot" => (exact jj160; (k_with "m:cl" => k_extra "q160"); (k_with "m:ck" => k_extra "r160"); (k_with "m:slot" => (exact jj161; (k_with "m:cl" => k_extra "q161"); (k_with "m:ck" => k_extra "r161"); (k_with "m:slot" => (exact jj162; (k_with "m:cl" => k_extra "q162"); (k_with "m:ck" => k_extra "r162"); (k_with "m:slot" => (exact jj163; (k_with "m:cl" => k_extra "q163"); (k_with "m:ck" => k_extra "r163"); (k_with "m:slot" => (exact jj164; (k_with "m:cl" => k_extra "q164"); (k_with "m:ck" => k_extra "r164"); (k_with "m:slot" => (exact jj165; (k_with "m:cl" => k_extra "q165"); (k_with "m:ck" => k_extra "r165"); (k_with "m:slot" => (exact jj166; (k_with "m:cl" => k_extra "q166"); (k_with "m:ck" => k_extra "r166"); (k_with "m:slot" => (exact jj167; (k_with "m:cl" => k_extra "q167"); (k_with "m:ck" => k_extra "r167"); (k_with "m:slot" => (exact jj168; (k_with "m:cl" => k_extra "q168"); (k_with "m:ck" => k_extra "r168"); (k_with "m:slot" => (exact jj169; (k_with "m:cl" => k_extra "q169"); (k_with "m:ck" => k_extra "r169"); (k_with "m:slot" => (exact jj170; (k_with "m:cl" => k_extra "q170"); (k_with "m:ck" => k_extra "r170"); (k_with "m:slot" => (exact jj171; (k_with "m:cl" => k_extra "q171"); (k_with "m:ck" => k_extra "r171"); (k_with "m:slot" => (exact jj172; (k_with "m:cl" => k_extra "q172"); (k_with "m:ck" => k_extra "r172"); (k_with "m:slot" => (exact jj173; (k_with "m:cl" => k_extra "q173"); (k_with "m:ck" => k_extra "r173"); (k_with "m:slot" => (exact jj174; (k_with "m:cl" => k_extra "q174"); (k_with "m:ck" => k_extra "r174"); (k_with "m:slot" => (exact jj175; (k_with "m:cl" => k_extra "q175"); (k_with "m:ck" => k_extra "r175"); (k_with "m:slot" => (exact jj176; (k_with "m:cl" => k_extra "q176"); (k_with "m:ck" => k_extra "r176"); (k_with "m:slot" => (exact jj177; (k_with "m:cl" => k_extra "q177"); (k_with "m:ck" => k_extra "r177"); (k_with "m:slot" => (exact jj178; (k_with "m:cl" => k_extra "q178"); (k_with "m:ck" => k_extra "r178"); (k_with "m:slot" => (exact jj179; (k_with "m:cl" => k_extra "q179"); (k_with "m:ck" => k_extra "r179"); (k_with "m:slot" => (exact jj180; (k_with "m:cl" => k_extra "q180"); (k_with "m:ck" => k_extra "r180"); (k_with "m:slot" => (exact jj181; (k_with "m:cl" => k_extra "q181"); (k_with "m:ck" => k_extra "r181"); (k_with "m:slot" => (exact jj182; (k_with "m:cl" => k_extra "q182"); (k_with "m:ck" => k_extra "r182"); (k_with "m:slot" => (exact jj183; (k_with "m:cl" => k_extra "q183"); (k_with "m:ck" => k_extra "r183"); (k_with "m:slot" => (exact jj184; (k_with "m:cl" => k_extra "q184"); (k_with "m:ck" => k_extra "r184"); (k_with "m:slot" => (exact jj185; (k_with "m:cl" => k_extra "q185"); (k_with "m:ck" => k_extra "r185"); (k_with "m:slot" => (exact jj186; (k_with "m:cl" => k_extra "q186"); (k_with "m:ck" => k_extra "r186"); (k_with "m:slot" => (exact jj187; (k_with "m:cl" => k_extra "q187"); (k_with "m:ck" => k_extra "r187"); (k_with "m:slot" => (exact jj188; (k_with "m:cl" => k_extra "q188"); (k_with "m:ck" => k_extra "r188"); (k_with "m:slot" => (exact jj189; (k_with "m:cl" => k_extra "q189"); (k_with "m:ck" => k_extra "r189"); (k_with "m:slot" => (exact jj190; (k_with "m:cl" => k_extra "q190"); (k_with "m:ck" => k_extra "r190"); (k_with "m:slot" => (exact jj191; (k_with "m:cl" => k_extra "q191"); (k_with "m:ck" => k_extra "r191"); (k_with "m:slot" => (exact jj192; (k_with "m:cl" => k_extra "q192"); (k_with "m:ck" => k_extra "r192"); (k_with "m:slot" => (exact jj193; (k_with "m:cl" => k_extra "q193"); (k_with "m:ck" => k_extra "r193"); (k_with "m:slot" => (exact jj194; (k_with "m:cl" => k_extra "q194"); (k_with "m:ck" => k_extra "r194"); (k_with "m:slot" => (exact jj195; (k_with "m:cl" => k_extra "q195"); (k_with "m:ck" => k_extra "r195"); (k_with "m:slot" => (exact jj196; (k_with "m:cl" => k_extra "q196"); (k_with "m:ck" => k_extra "r196"); (k_with "m:slot" => (exact jj197; (k_with "m:cl" => k_extra "q197"); (k_with "m:ck" => k_extra "r197"); (k_with "m:slot" => (exact jj198; (k_with "m:cl" => k_extra "q198"); (k_with "m:ck" => k_extra "r198"); (k_with "m:slot" => (exact jj199; (k_with "m:cl" => k_extra "q199"); (k_with "m:ck" => k_extra "r199"); (k_with "m:slot" => (exact jj200; (k_with "m:cl" => k_extra "q200"); (k_with "m:ck" => k_extra "r200"); (k_with "m:slot" => (exact jj201; (k_with "m:cl" => k_extra "q201"); (k_with "m:ck" => k_extra "r201"); (k_with "m:slot" => (exact jj202; (k_with "m:cl" => k_extra "q202"); (k_with "m:ck" => k_extra "r202"); (k_with "m:slot" => (exact jj203; (k_with "m:cl" => k_extra "q203"); (k_with "m:ck" => k_extra "r203"); (k_with "m:slot" => (exact jj204; (k_with "m:cl" => k_extra "q204"); (k_with "m:ck" => k_extra "r204"); (k_with "m:slot" => (exact jj205; (k_with "m:cl" => k_extra "q205"); (k_with "m:ck" => k_extra "r205"); (k_with "m:slot" => (exact jj206; (k_with "m:cl" => k_extra "q206"); (k_with "m:ck" => k_extra "r206"); (k_with "m:slot" => (exact jj207; (k_with "m:cl" => k_extra "q207"); (k_with "m:ck" => k_extra "r207"); (k_with "m:slot" => (exact jj208; (k_with "m:cl" => k_extra "q208"); (k_with "m:ck" => k_extra "r208"); (k_with "m:slot" => (exact jj209; (k_with "m:cl" => k_extra "q209"); (k_with "m:ck" => k_extra "r209"); (k_with "m:slot" => (exact jj210; (k_with "m:cl" => k_extra "q210"); (k_with "m:ck" => k_extra "r210"); (k_with "m:slot" => (exact jj211; (k_with "m:cl" => k_extra "q211"); (k_with "m:ck" => k_extra "r211"); (k_with "m:slot" => (exact jj212; (k_with "m:cl" => k_extra "q212"); (k_with "m:ck" => k_extra "r212"); (k_with "m:slot" => (exact jj213; (k_with "m:cl" => k_extra "q213"); (k_with "m:ck" => k_extra "r213"); (k_with "m:slot" => (exact jj214; (k_with "m:cl" => k_extra "q214"); (k_with "m:ck" => k_extra "r214"); (k_with "m:slot" => (exact jj215; (k_with "m:cl" => k_extra "q215"); (k_with "m:ck" => k_extra "r215"); (k_with "m:slot" => (exact jj216; (k_with "m:cl" => k_extra "q216"); (k_with "m:ck" => k_extra "r216"); (k_with "m:slot" => (exact jj217; (k_with "m:cl" => k_extra "q217"); (k_with "m:ck" => k_extra "r217"); (k_with "m:slot" => (exact jj218; (k_with "m:cl" => k_extra "q218"); (k_with "m:ck" => k_extra "r218"); (k_with "m:slot" => (exact jj219; (k_with "m:cl" => k_extra "q219"); (k_with "m:ck" => k_extra "r219"); (k_with "m:slot" => (exact jj220; (k_with "m:cl" => k_extra "q220"); (k_with "m:ck" => k_extra "r220"); (k_with "m:slot" => (exact jj221; (k_with "m:cl" => k_extra "q221"); (k_with "m:ck" => k_extra "r221"); (k_with "m:slot" => (exact jj222; (k_with "m:cl" => k_extra "q222"); (k_with "m:ck" => k_extra "r222"); (k_with "m:slot" => (exact jj223; (k_with "m:cl" => k_extra "q223"); (k_with "m:ck" => k_extra "r223"); (k_with "m:slot" => (exact jj224; (k_with "m:cl" => k_extra "q224"); (k_with "m:ck" => k_extra "r224"); (k_with "m:slot" => (exact jj225; (k_with "m:cl" => k_extra "q225"); (k_with "m:ck" => k_extra "r225"); (k_with "m:slot" => (exact jj226; (k_with "m:cl" => k_extra "q226"); (k_with "m:ck" => k_extra "r226"); (k_with "m:slot" => (exact jj227; (k_with "m:cl" => k_extra "q227"); (k_with "m:ck" => k_extra "r227"); (k_with "m:slot" => (exact jj228; (k_with "m:cl" => k_extra "q228"); (k_with "m:ck" => k_extra "r228"); (k_with "m:slot" => (exact jj229; (k_with "m:cl" => k_extra "q229"); (k_with "m:ck" => k_extra "r229"); (k_with "m:slot" => (exact jj230; (k_with "m:cl" => k_extra "q230"); (k_with "m:ck" => k_extra "r230"); (k_with "m:slot" => (exact jj231; (k_with "m:cl" => k_extra "q231"); (k_with "m:ck" => k_extra "r231"); (k_with "m:slot" => (exact jj232; (k_with "m:cl" => k_extra "q232"); (k_with "m:ck" => k_extra "r232"); (k_with "m:slot" => (exact jj233; (k_with "m:cl" => k_extra "q233"); (k_with "m:ck" => k_extra "r233"); (k_with "m:slot" => (exact jj234; (k_with "m:cl" => k_extra "q234"); (k_with "m:ck" => k_extra "r234"); (k_with "m:slot" => (exact jj235; (k_with "m:cl" => k_extra "q235"); (k_with "m:ck" => k_extra "r235"); (k_with "m:slot" => (exact jj236; (k_with "m:cl" => k_extra "q236"); (k_with "m:ck" => k_extra "r236"); (k_with "m:slot" => (exact jj237; (k_with "m:cl" => k_extra "q237"); (k_with "m:ck" => k_extra "r237"); (k_with "m:slot" => (exact jj238; (k_with "m:cl" => k_extra "q238"); (k_with "m:ck" => k_extra "r238"); (k_with "m:slot" => (exact jj239; (k_with "m:cl" => k_extra "q239"); (k_with "m:ck" => k_extra "r239"); (k_with "m:slot" => (exact jj240; (k_with "m:cl" => k_extra "q240"); (k_with "m:ck" => k_extra "r240"); (k_with "m:slot" => (exact jj241; (k_with "m:cl" => k_extra "q241"); (k_with "m:ck" => k_extra "r241"); (k_with "m:slot" => (exact jj242; (k_with "m:cl" => k_extra "q242"); (k_with "m:ck" => k_extra "r242"); (k_with "m:slot" => (exact jj243; (k_with "m:cl" => k_extra "q243"); (k_with "m:ck" => k_extra "r243"); (k_with "m:slot" => (exact jj244; (k_with "m:cl" => k_extra "q244"); (k_with "m:ck" => k_extra "r244"); (k_with "m:slot" => (exact jj245; (k_with "m:cl" => k_extra "q245"); (k_with "m:ck" => k_extra "r245"); (k_with "m:slot" => (exact jj246; (k_with "m:cl" => k_extra "q246"); (k_with "m:ck" => k_extra "r246"); (k_with "m:slot" => (exact jj247; (k_with "m:cl" => k_extra "q247"); (k_with "m:ck" => k_extra "r247"); (k_with "m:slot" => (exact jj248; (k_with "m:cl" => k_extra "q248"); (k_with "m:ck" => k_extra "r248"); (k_with "m:slot" => (exact jj249; (k_with "m:cl" => k_extra "q249"); (k_with "m:ck" => k_extra "r249"); (k_with "m:slot" => (exact jj250; (k_with "m:cl" => k_extra "q250"); (k_with "m:ck" => k_extra "r250"); (k_with "m:slot" => (exact jj251; (k_with "m:cl" => k_extra "q251"); (k_with "m:ck" => k_extra "r251"); (k_with "m:slot" => (exact jj252; (k_with "m:cl" => k_extra "q252"); (k_with "m:ck" => k_extra "r252"); (k_with "m:slot" => (exact jj253; (k_with "m:cl" => k_extra "q253"); (k_with "m:ck" => k_extra "r253"); (k_with "m:slot" => (exact jj254; (k_with "m:cl" => k_extra "q254"); (k_with "m:ck" => k_extra "r254"); (k_with "m:slot" => (exact jj255; (k_with "m:cl" => k_extra "q255"); (k_with "m:ck" => k_extra "r255"); (k_with "m:slot" => (exact jj256; (k_with "m:cl" => k_extra "q256"); (k_with "m:ck" => k_extra "r256"); (k_with "m:slot" => (exact jj257; (k_with "m:cl" => k_extra "q257"); (k_with "m:ck" => k_extra "r257"); (k_with "m:slot" => (exact jj258; (k_with "m:cl" => k_extra "q258"); (k_with "m:ck" => k_extra "r258"); (k_with "m:slot" => (exact jj259; (k_with "m:cl" => k_extra "q259"); (k_with "m:ck" => k_extra "r259"); (k_with "m:slot" => (exact jj260; (k_with "m:cl" => k_extra "q260"); (k_with "m:ck" => k_extra "r260"); (k_with "m:slot" => (exact jj261; (k_with "m:cl" => k_extra "q261"); (k_with "m:ck" => k_extra "r261"); (k_with "m:slot" => (exact jj262; (k_with "m:cl" => k_extra "q262"); (k_with "m:ck" => k_extra "r262"); (k_with "m:slot" => (exact jj263; (k_with "m:cl" => k_extra "q263"); (k_with "m:ck" => k_extra "r263"); (k_with "m:slot" => (exact jj264; (k_with "m:cl" => k_extra "q264"); (k_with "m:ck" => k_extra "r264"); (k_with "m:slot" => (exact jj265; (k_with "m:cl" => k_extra "q265"); (k_with "m:ck" => k_extra "r265"); (k_with "m:slot" => (exact jj266; (k_with "m:cl" => k_extra "q266"); (k_with "m:ck" => k_extra "r266"); (k_with "m:slot" => (exact jj267; (k_with "m:cl" => k_extra "q267"); (k_with "m:ck" => k_extra "r267"); (k_with "m:slot" => (exact jj268; (k_with "m:cl" => k_extra "q268"); (k_with "m:ck" => k_extra "r268"); (k_with "m:slot" => (exact jj269; (k_with "m:cl" => k_extra "q269"); (k_with "m:ck" => k_extra "r269"); (k_with "m:slot" => (exact jj270; (k_with "m:cl" => k_extra "q270"); (k_with "m:ck" => k_extra "r270"); (k_with "m:slot" => (exact jj271; (k_with "m:cl" => k_extra "q271"); (k_with "m:ck" => k_extra "r271"); (k_with "m:slot" => (exact jj272; (k_with "m:cl" => k_extra "q272"); (k_with "m:ck" => k_extra "r272"); (k_with "m:slot" => (exact jj273; (k_with "m:cl" => k_extra "q273"); (k_with "m:ck" => k_extra "r273"); (k_with "m:slot" => (exact jj274; (k_with "m:cl" => k_extra "q274"); (k_with "m:ck" => k_extra "r274"); (k_with "m:slot" => (exact jj275; (k_with "m:cl" => k_extra "q275"); (k_with "m:ck" => k_extra "r275"); (k_with "m:slot" => (exact jj276; (k_with "m:cl" => k_extra "q276"); (k_with "m:ck" => k_extra "r276"); (k_with "m:slot" => (exact jj277; (k_with "m:cl" => k_extra "q277"); (k_with "m:ck" => k_extra "r277"); (k_with "m:slot" => (exact jj278; (k_with "m:cl" => k_extra "q278"); (k_with "m:ck" => k_extra "r278"); (k_with "m:slot" => (exact jj279; (k_with "m:cl" => k_extra "q279"); (k_with "m:ck" => k_extra "r279"); (k_with "m:slot" => (exact jj280; (k_with "m:cl" => k_extra "q280"); (k_with "m:ck" => k_extra "r280"); (k_with "m:slot" => (exact jj281; (k_with "m:cl" => k_extra "q281"); (k_with "m:ck" => k_extra "r281"); (k_with "m:slot" => (exact jj282; (k_with "m:cl" => k_extra "q282"); (k_with "m:ck" => k_extra "r282"); (k_with "m:slot" => (exact jj283; (k_with "m:cl" => k_extra "q283"); (k_with "m:ck" => k_extra "r283"); (k_with "m:slot" => (exact jj284; (k_with "m:cl" => k_extra "q284"); (k_with "m:ck" => k_extra "r284"); (k_with "m:slot" => (exact jj285; (k_with "m:cl" => k_extra "q285"); (k_with "m:ck" => k_extra "r285"); (k_with "m:slot" => (exact jj286; (k_with "m:cl" => k_extra "q286"); (k_with "m:ck" => k_extra "r286"); (k_with "m:slot" => (exact jj287; (k_with "m:cl" => k_extra "q287"); (k_with "m:ck" => k_extra "r287"); (k_with "m:slot" => (exact jj288; (k_with "m:cl" => k_extra "q288"); (k_with "m:ck" => k_extra "r288"); (k_with "m:slot" => (exact jj289; (k_with "m:cl" => k_extra "q289"); (k_with "m:ck" => k_extra "r289"); (k_with "m:slot" => (exact jj290; (k_with "m:cl" => k_extra "q290"); (k_with "m:ck" => k_extra "r290"); (k_with "m:slot" => (exact jj291; (k_with "m:cl" => k_extra "q291"); (k_with "m:ck" => k_extra "r291"); (k_with "m:slot" => (exact jj292; (k_with "m:cl" => k_extra "q292"); (k_with "m:ck" => k_extra "r292"); (k_with "m:slot" => (exact jj293; (k_with "m:cl" => k_extra "q293"); (k_with "m:ck" => k_extra "r293"); (k_with "m:slot" => (exact jj294; (k_with "m:cl" => k_extra "q294"); (k_with "m:ck" => k_extra "r294"); (k_with "m:slot" => (exact jj295; (k_with "m:cl" => k_extra "q295"); (k_with "m:ck" => k_extra "r295"); (k_with "m:slot" => (exact jj296; (k_with "m:cl" => k_extra "q296"); (k_with "m:ck" => k_extra "r296"); (k_with "m:slot" => (exact jj297; (k_with "m:cl" => k_extra "q297"); (k_with "m:ck" => k_extra "r297"); (k_with "m:slot" => (exact jj298; (k_with "m:cl" => k_extra "q298"); (k_with "m:ck" => k_extra "r298"); (k_with "m:slot" => (exact jj299; (k_with "m:cl" => k_extra "q299"); (k_with "m:ck" => k_extra "r299"); (k_with "m:slot" => (exact jj300; (k_with "m:cl" => k_extra "q300"); (k_with "m:ck" => k_extra "r300"); (k_with "m:slot" => (exact jj301; (k_with "m:cl" => k_extra "q301"); (k_with "m:ck" => k_extra "r301"); (k_with "m:slot" => (exact jj302; (k_with "m:cl" => k_extra "q302"); (k_with "m:ck" => k_extra "r302"); (k_with "m:slot" => (exact jj303; (k_with "m:cl" => k_extra "q303"); (k_with "m:ck" => k_extra "r303"); (k_with "m:slot" => (exact jj304; (k_with "m:cl" => k_extra "q304"); (k_with "m:ck" => k_extra "r304"); (k_with "m:slot" => (exact jj305; (k_with "m:cl" => k_extra "q305"); (k_with "m:ck" => k_extra "r305"); (k_with "m:slot" => (exact jj306; (k_with "m:cl" => k_extra "q306"); (k_with "m:ck" => k_extra "r306"); (k_with "m:slot" => (exact jj307; (k_with "m:cl" => k_extra "q307"); (k_with "m:ck" => k_extra "r307"); (k_with "m:slot" => (exact jj308; (k_with "m:cl" => k_extra "q308"); (k_with "m:ck" => k_extra "r308"); (k_with "m:slot" => (exact jj309; (k_with "m:cl" => k_extra "q309"); (k_with "m:ck" => k_extra "r309"); (k_with "m:slot" => (exact jj310; (k_with "m:cl" => k_extra "q310"); (k_with "m:ck" => k_extra "r310"); (k_with "m:slot" => (exact jj311; (k_with "m:cl" => k_extra "q311"); (k_with "m:ck" => k_extra "r311"); (k_with "m:slot" => (exact jj312; (k_with "m:cl" => k_extra "q312"); (k_with "m:ck" => k_extra "r312"); (k_with "m:slot" => (exact jj313; (k_with "m:cl" => k_extra "q313"); (k_with "m:ck" => k_extra "r313"); (k_with "m:slot" => (exact jj314; (k_with "m:cl" => k_extra "q314"); (k_with "m:ck" => k_extra "r314"); (k_with "m:slot" => (exact jj315; (k_with "m:cl" => k_extra "q315"); (k_with "m:ck" => k_extra "r315"); (k_with "m:slot" => (exact jj316; (k_with "m:cl" => k_extra "q316"); (k_with "m:ck" => k_extra "r316"); (k_with "m:slot" => (exact jj317; (k_with "m:cl" => k_extra "q317"); (k_with "m:ck" => k_extra "r317"); (k_with "m:slot" => (exact jj318; (k_with "m:cl" => k_extra "q318"); (k_with "m:ck" => k_extra "r318"); (k_with "m:slot" => (exact jj319; (k_with "m:cl" => k_extra "q319"); (k_with "m:ck" => k_extra "r319"); (k_with "m:slot" => (exact jj320; (k_with "m:cl" => k_extra "q320"); (k_with "m:ck" => k_extra "r320"); (k_with "m:slot" => (exact jj321; (k_with "m:cl" => k_extra "q321"); (k_with "m:ck" => k_extra "r321"); (k_with "m:slot" => (exact jj322; (k_with "m:cl" => k_extra "q322"); (k_with "m:ck" => k_extra "r322"); (k_with "m:slot" => (exact jj323; (k_with "m:cl" => k_extra "q323"); (k_with "m:ck" => k_extra "r323"); (k_with "m:slot" => (exact jj324; (k_with "m:cl" => k_extra "q324"); (k_with "m:ck" => k_extra "r324"); (k_with "m:slot" => (exact jj325; (k_with "m:cl" => k_extra "q325"); (k_with "m:ck" => k_extra "r325"); (k_with "m:slot" => (exact jj326; (k_with "m:cl" => k_extra "q326"); (k_with "m:ck" => k_extra "r326"); (k_with "m:slot" => (exact jj327; (k_with "m:cl" => k_extra "q327"); (k_with "m:ck" => k_extra "r327"); (k_with "m:slot" => (exact jj328; (k_with "m:cl" => k_extra "q328"); (k_with "m:ck" => k_extra "r328"); (k_with "m:slot" => (exact jj329; (k_with "m:cl" => k_extra "q329"); (k_with "m:ck" => k_extra "r329"); (k_with "m:slot" => fail "no slot"))))))))))))))))))))))))))))))))))))))))))))))))))))))))))))))))))))))))))))))))))))))))))))))))))))))))))))))))))))))))))))))))))))))))))))))))))))))))))))))))))))))))))))))))))))))))))))))))))))))))))))))))))))))))))))))))))))))))))))))))))))))))))))))))))))))))))))))))))))))))))))))))))))))))))))))))))))))))))))))))))))))))))))))))))))))))))))))))))))))))))))))))))))))))))))))))))))))))))))))))))))))))))))))))))))))))))))))))))))))))))))))))))))))))))))))))))))))))))))))))))))))))))))))))))))))))))))))))))))))))))))))))))))))))))))))))))))))))))))))))))))))))))))))))))))))))))))))))))))))))))))))))))))))))))))))))))))))))))))))))))))))))))))))))))))); (k_with "m:clr" => skip); refine ⟨?main, trivial⟩; (first | (k_dflt (refine' (us8 neW neProg neLs neMean neFr neFr neLed neNat ?z9sl ((?_ : L8 _ _ _ _ _ _ _ _ _) () ()) :); (case z9sl => k_extra "m:slot"); intros u8 w p loose mean mg mb news la u9; clear u8 u9; k_extra "m:cl")) | (refine (sk8 neW neProg neLs neMean neFr neFr neLed neNat ((?_ : ∀ (w : World) (p : Program) (loose : List Str) (mean : ExcName → Option Value) (mg : Str → Option Value) (mb : Str → Option Value) (news : Led) (la : Addr), _) _ _ _ _ _ _ _ _) :); intros w p loose mean mg mb news la)); (first | (k_dflt (refine' (us8 neNat neNat neNat neInt neInt neInt neInt neInt ?z9sl ((?_ : L8 _ _ _ _ _ _ _ _ _) () ()) :); (case z9sl => k_extra "m:slot"); intros u8 lb n n' ma mb' mc a' b' u9; clear u8 u9; k_extra "m:cl")) | (refine (sk8 neNat neNat neNat neInt neInt neInt neInt neInt ((?_ : ∀ (lb : Addr) (n : Nat) (n' : Nat) (ma : Int) (mb' : Int) (mc : Int) (a' : Int) (b' : Int), _) _ _ _ _ _ _ _ _) :); intros lb n n' ma mb' mc a' b')); (first | (k_dflt (refine' (us8 neInt neInt neTok neTok neTok neTok neTok neTok ?z9sl ((?_ : L8 _ _ _ _ _ _ _ _ _) () ()) :); (case z9sl => k_extra "m:slot"); intros u8 c' white ta tb tc ta' tb' tc' u9; clear u8 u9; k_extra "m:cl")) | (refine (sk8 neInt neInt neTok neTok neTok neTok neTok neTok ((?_ : ∀ (c' : Int) (white : Int) (ta : Tok) (tb : Tok) (tc : Tok) (ta' : Tok) (tb' : Tok) (tc' : Tok), _) _ _ _ _ _ _ _ _) :); intros c' white ta tb tc ta' tb' tc')); (first | (k_dflt (refine' (us2 neTok neArr ?z9sl ((?_ : L2 _ _ _) () ()) :); (case z9sl => k_extra "m:slot"); intros u8 ts ps u9; clear u8 u9; k_extra "m:cl")) | (refine (sk2 neTok neArr ((?_ : ∀ (ts : Tok) (ps : Array Value), _) _ _) :); intros ts ps)); intros hP hTab hm hm' hb hb' hs hw hT hL)
  case main =>
    k_extra "m:enterT"
    obtain ⟨l310, lall⟩ := l1
    have lall : ∀ p ∈ news, p.1 < L' := fun p hp => ktn_ltOf lall p hp
    k_steps
    refine ⟨?_⟩
    refine first_loop tOwn (rowsAt txt3 a' b' c' (sizeF a' b' c') white) rfl rfl (by k_asm) (by k_asm) ?o1 ?o2 (by k_ne) (first_bs ⟨_, _, _, rfl⟩ ⟨_, _, _, rfl⟩ ⟨_, _, _, rfl⟩ ⟨_, _, _, rfl⟩ ⟨_, _, _, rfl⟩ ⟨_, _, _, rfl⟩ ⟨_, _, _, rfl⟩ ⟨_, _, _, rfl⟩ ⟨_, _, _, rfl⟩ ⟨_, _, _, rfl⟩ rfl) ?go ?turn ?done
    case go =>
      intro I i v s Q E hv hit hq
      exact wpAny_of_eq rfl hq
    case o1 =>
      simp only [List.forall_mem_cons]
      refine ⟨?_, ?_, ?_, ?_, ?_, ?_, ?_, ?_, ?_, ?_, ?_, ?_, ?_, ?_, ?_, ?_, ?_, ?_⟩
      all_goals first | k_ne | k_all
    case o2 =>
      simp only [List.forall_mem_cons]
      refine ⟨?_, ?_, ?_, ?_, ?_, ?_, ?_, ?_, ?_, ?_, ?_, ?_, ?_, ?_, ?_, ?_, ?_, ?_⟩
      all_goals first | k_ne | k_all
    case turn =>
      ((first | (k_dflt (refine' (us1 neLed ?z9sl ((?_ : L1 _ _) () ()) :); (case z9sl => k_extra "m:slot"); intros u8 base u9; clear u8 u9; k_extra "m:cl")) | (refine (sk1 neLed ((?_ : ∀ (base : Led), _) _) :); intros base)))
      intro hbs
      ((first | (k_dflt (refine' (us8 neNat neObj neNat neVal neFr neLed neArr neArr ?z9sl ((?_ : L8 _ _ _ _ _ _ _ _ _) () ()) :); (case z9sl => k_extra "m:slot"); intros u8 I o i v m₁ tl rvs hvs u9; clear u8 u9; k_extra "m:cl")) | (refine (sk8 neNat neObj neNat neVal neFr neLed neArr neArr ((?_ : ∀ (I : Addr) (o : Obj) (i : Nat) (v : Value) (m₁ : Str → Option Value) (tl : Led) (rvs : Array Value) (hvs : Array Value), _) _ _ _ _ _ _ _ _) :); intros I o i v m₁ tl rvs hvs)); (first | (k_dflt (refine' (us4 neNat neNat neHeap neNat ?z9sl ((?_ : L4 _ _ _ _ _) () ()) :); (case z9sl => k_extra "m:slot"); intros u8 nr nh h7 tk7 u9; clear u8 u9; k_extra "m:cl")) | (refine (sk4 neNat neNat neHeap neNat ((?_ : ∀ (nr : Nat) (nh : Nat) (h7 : Heap) (tk7 : Nat), _) _ _ _ _) :); intros nr nh h7 tk7)))
      intros hv same sub r1 r2 q1 q2 q3 q4 q5 q6 F9 N9
      obtain ⟨hf, ⟨b13, b14, b15, b16, b17⟩, bn⟩ := hbs
      have hi : i < 10 := (Array.getElem?_eq_some_iff.mp hv).1
      refine ex4 (hf i v hv hi) ?_
      ((first | (k_dflt (refine' (us4 neNat neTok neTok neTok ?z9sl ((?_ : L4 _ _ _ _ _) () ()) :); (case z9sl => k_extra "m:slot"); intros u8 D u0 u1 u2 u9; clear u8 u9; k_extra "m:cl")) | (refine (sk4 neNat neTok neTok neTok ((?_ : ∀ (D : Addr) (u0 : Tok) (u1 : Tok) (u2 : Tok), _) _ _ _ _) :); intros D u0 u1 u2)))
      rintro ⟨ev9, hD⟩
      rw [ev9]
      clear hv hf ev9
      replace b13 := sub _ b13
      replace b14 := sub _ b14
      replace b15 := sub _ b15
      replace b16 := sub _ b16
      replace b17 := sub _ b17
      replace bn := fun x hx => sub x (bn x hx)
      replace hD := sub _ hD
      have hfb := F10_bd i
      have e1 : m₁ (Str.ofString "m") = some _ := (same _ (by decide)).trans rfl
      have e2 : m₁ (Str.ofString "rows") = some _ := (same _ (by decide)).trans rfl
      have e3 : m₁ (Str.ofString "size") = some _ := (same _ (by decide)).trans rfl
      have hm2 := bn _ hm'
      clear F N
      have hTi := fun j hj => hT i j hi hj
      unfold col at hTi
      refine ex3 (show ∃ f0 f1 f2 : Int, (F10' i).1 = f0 ∧ (F10' i).2.1 = f1 ∧ (F10' i).2.2 = f2 from ⟨_, _, _, rfl, rfl, rfl⟩) ?_
      ((first | (k_dflt (refine' (us3 neInt neInt neInt ?z9sl ((?_ : L3 _ _ _ _) () ()) :); (case z9sl => k_extra "m:slot"); intros u8 f0 f1 f2 u9; clear u8 u9; k_extra "m:cl")) | (refine (sk3 neInt neInt neInt ((?_ : ∀ (f0 : Int) (f1 : Int) (f2 : Int), _) _ _ _) :); intros f0 f1 f2)))
      rintro ⟨E0, E1, E2⟩
      simp only [E0, E1, E2] at hTi hD hfb
      have n0 := @name_lo (f0 + white) (f1 + white) (f2 + white) a' b' c' (sizeF a' b' c') hs
      have n1 := @ixA_lt (f0 + white) (f1 + white) (f2 + white) a' b' c' (sizeF a' b' c') hs
      have n2 := @ixB_lt (f0 + white) (f1 + white) (f2 + white) a' b' c' (sizeF a' b' c') hs
      have n3 := lo_lo n1 n2
      have rb := rowsAt_bd (txt := txt3) (a' := a') (b' := b') (c' := c') (white := white) hs i
      have g0 : 0 ≤ f0 + white ∧ f0 + white < 100 := by clear same r1 r2; omega
      have g1 : 0 ≤ f1 + white ∧ f1 + white < 100 := by clear same r1 r2; omega
      have g2 : 0 ≤ f2 + white ∧ f2 + white < 100 := by clear same r1 r2; omega
      refine gen_T ?_
      ((first | (k_dflt (refine' (us1 neFl ?z9sl ((?_ : L1 _ _) () ()) :); (case z9sl => k_extra "m:slot"); intros u8 T9 u9; clear u8 u9; k_extra "m:cl")) | (refine (sk1 neFl ((?_ : ∀ (T9 : Flow → Shared → Prop), _) _) :); intros T9)))
      intro hT9
      try dsimp only
      k_steps
      · refine hT9 _ _ ?_
        dsimp only [TurnK]
        refine turn_end (tl := tl) (rvs := rvs) (hvs := hvs) (by k_asm) (by k_asm) (by lcg_sub) ?_ sub ?_ ?_ q1 q2 q3 q4 q5
        · repeat (refine Same.set ?_ (by decide))
          exact same
        · rw [rows_keep1 hs.1 E0 E1 E2 (by with_reducible assumption)]; exact r1
        · rw [rows_keep1 hs.1 E0 E1 E2 (by with_reducible assumption)]; exact r2
      · refine hT9 _ _ ?_
        dsimp only [TurnK]
        refine turn_end (tl := tl) (rvs := rvs) (hvs := hvs) (by k_asm) (by k_asm) (by lcg_sub) ?_ sub ?_ ?_ q1 q2 q3 q4 q5
        · repeat (refine Same.set ?_ (by decide))
          exact same
        · rw [rows_keep2 E0 E1 E2 (by with_reducible assumption)]; exact r1
        · rw [rows_keep2 E0 E1 E2 (by with_reducible assumption)]; exact r2
      · refine ⟨?_⟩
        refine third_loop tOwn (rowOf txt3 a' b' c' (sizeF a' b' c')) rfl (by assumption) (by assumption) (by assumption) (((same.set (x := Str.ofString "first") (by decide)).set (x := Str.ofString "colour") (by decide)).set (x := Str.ofString "name") (by decide)) r1 r2 q1 q2 q3 q4 q5 q6 (by assumption) (by rfl) (by rfl) ?turn2 ?done2
        case turn2 =>
          ((first | (k_dflt (refine' (us8 neNat neObj neNat neTok neFr neLed neArr neArr ?z9sl ((?_ : L8 _ _ _ _ _ _ _ _ _) () ()) :); (case z9sl => k_extra "m:slot"); intros u8 I2 o2 j tok2 m₂ tl' rvs' hvs' u9; clear u8 u9; k_extra "m:cl")) | (refine (sk8 neNat neObj neNat neTok neFr neLed neArr neArr ((?_ : ∀ (I2 : Addr) (o2 : Obj) (j : Nat) (tok2 : Tok) (m₂ : Str → Option Value) (tl' : Led) (rvs' : Array Value) (hvs' : Array Value), _) _ _ _ _ _ _ _ _) :); intros I2 o2 j tok2 m₂ tl' rvs' hvs')); (first | (k_dflt (refine' (us8 neNat neNat neNat neNat neTok neTok neTok neHeap ?z9sl ((?_ : L8 _ _ _ _ _ _ _ _ _) () ()) :); (case z9sl => k_extra "m:slot"); intros u8 nr' nh' C nC v0 v1 v2 h2 u9; clear u8 u9; k_extra "m:cl")) | (refine (sk8 neNat neNat neNat neNat neTok neTok neTok neHeap ((?_ : ∀ (nr' : Nat) (nh' : Nat) (C : Addr) (nC : Nat) (v0 : Tok) (v1 : Tok) (v2 : Tok) (h2 : Heap), _) _ _ _ _ _ _ _ _) :); intros nr' nh' C nC v0 v1 v2 h2)); (first | (k_dflt (refine' (us1 neNat ?z9sl ((?_ : L1 _ _) () ()) :); (case z9sl => k_extra "m:slot"); intros u8 tk2 u9; clear u8 u9; k_extra "m:cl")) | (refine (sk1 neNat ((?_ : ∀ (tk2 : Nat), _) _) :); intros tk2)))
          intros hj same' sub' s1 s2 p1 p2 p3 p4 p5 p6 p7 c1 c2 c3 F8 N8
          replace b13 := sub' _ b13
          replace b14 := sub' _ b14
          replace b15 := sub' _ b15
          replace b16 := sub' _ b16
          replace hm2 := sub' _ hm2
          replace hD := sub' _ hD
          have hT := hTi j hj
          have hb3 := rt_bd g0 g1 g2 j
          have hb4 := rt_bd g0 g1 g2 (j + 1)
          clear hTi
          have e1 : m₂ (Str.ofString "m") = some _ := (same' _ (by decide)).trans rfl
          have e2 : m₂ (Str.ofString "rows") = some _ := (same' _ (by decide)).trans rfl
          have e3 : m₂ (Str.ofString "size") = some _ := (same' _ (by decide)).trans rfl
          refine ex6 (show ∃ y0 y1 y2 y3 y4 y5 : Int, (rt (f0 + white) (f1 + white) (f2 + white) j).1 = y0 ∧ (rt (f0 + white) (f1 + white) (f2 + white) j).2.1 = y1 ∧ (rt (f0 + white) (f1 + white) (f2 + white) j).2.2 = y2 ∧ (rt (f0 + white) (f1 + white) (f2 + white) (j + 1)).1 = y3 ∧ (rt (f0 + white) (f1 + white) (f2 + white) (j + 1)).2.1 = y4 ∧ (rt (f0 + white) (f1 + white) (f2 + white) (j + 1)).2.2 = y5 from ⟨_, _, _, _, _, _, rfl, rfl, rfl, rfl, rfl, rfl⟩) ?_
          ((first | (k_dflt (refine' (us6 neInt neInt neInt neInt neInt neInt ?z9sl ((?_ : L6 _ _ _ _ _ _ _) () ()) :); (case z9sl => k_extra "m:slot"); intros u8 y0 y1 y2 y3 y4 y5 u9; clear u8 u9; k_extra "m:cl")) | (refine (sk6 neInt neInt neInt neInt neInt neInt ((?_ : ∀ (y0 : Int) (y1 : Int) (y2 : Int) (y3 : Int) (y4 : Int) (y5 : Int), _) _ _ _ _ _ _) :); intros y0 y1 y2 y3 y4 y5)))
          rintro ⟨E0, E1, E2, E3, E4, E5⟩
          simp only [E0, E1, E2, E3, E4, E5] at hT hb3 hb4 c2
          obtain ⟨hb5, hb6, hb7⟩ := hb3
          have hc0 : 0 ≤ y0 ∧ y0 < 128 := lt128 hb5
          have hc1 : 0 ≤ y1 ∧ y1 < 128 := lt128 hb6
          have hc2 : 0 ≤ y2 ∧ y2 < 128 := lt128 hb7
          refine ex6 (thirdB_out hT) ?_
          ((first | (k_dflt (refine' (us6 neU neU neU neU neU neU ?z9sl ((?_ : L6 _ _ _ _ _ _ _) () ()) :); (case z9sl => k_extra "m:slot"); intros u8 hu li sh x y z u9; clear u8 u9; k_extra "m:cl")) | (refine (sk6 neU neU neU neU neU neU ((?_ : ∀ (hu : UInt64) (li : UInt64) (sh : UInt64) (x : UInt64) (y : UInt64) (z : UInt64), _) _ _ _ _ _ _) :); intros hu li sh x y z)))
          rintro ⟨e11, k11, e12, r11, r12, r13⟩
          clear hT
          have pl1 : Plain (nameF y0 y1 y2 a' b' c' (sizeF a' b' c')).cps := by rw [nameF_eq hs.1]; exact plain_nm (ixA_lt hs) (ixB_lt hs)
          have pl2 : Plain (txt3 y0 y1 y2).cps := plain_txt hb5 hb6 hb7
          have z1 : SzOk rvs' := ⟨by rw [s1.1, rowsT_len]; exact rows_sz hi hj⟩
          have z2 : SzOk hvs' := ⟨by rw [s2.1, rowsT_len]; exact rows_sz hi hj⟩
          refine gen_T ?_
          ((first | (k_dflt (refine' (us1 neFl ?z9sl ((?_ : L1 _ _) () ()) :); (case z9sl => k_extra "m:slot"); intros u8 T8 u9; clear u8 u9; k_extra "m:cl")) | (refine (sk1 neFl ((?_ : ∀ (T8 : Flow → Shared → Prop), _) _) :); intros T8)))
          intro hT8
          try dsimp only
          k_steps
          · first | exact (‹(j : Int) ≠ 0 + (j : Int)› (Int.zero_add _).symm).elim | (exfalso; clear same' s1 s2; omega)
          · refine hT8 _ _ ?_
            dsimp only [TurnK]
            have er : rowsT (rowOf txt3 a' b' c' (sizeF a' b' c')) (rowsAt txt3 a' b' c' (sizeF a' b' c') white i) (f0 + white) (f1 + white) (f2 + white) (j + 1) = rowsT (rowOf txt3 a' b' c' (sizeF a' b' c')) (rowsAt txt3 a' b' c' (sizeF a' b' c') white i) (f0 + white) (f1 + white) (f2 + white) j ++ [rowOf txt3 a' b' c' (sizeF a' b' c') y0 y1 y2] := by
              rw [rowsT, E0, E1, E2]
            have ec : rt (f0 + white) (f1 + white) (f2 + white) (j + 1) = (y3, y4, y5) := by rw [← E3, ← E4, ← E5]
            rw [er, ec]
            refine' third_end (row := rowOf txt3 a' b' c' (sizeF a' b' c') y0 y1 y2) (c := (y3, y4, y5)) (nameF_eq hs.1) ?F ?N ?sub ?sm sub' s1 s2 p1 p2 p3 p4 p5 p6 p7 ?qC ?qX ?qY ?e1 ?e2
            case F => k_asm
            case N => k_asm
            case sub => lcg_sub
            case sm =>
              repeat (refine Same.set ?_ (by decide))
              exact same'
            case qC => exact ⟨by k_ne, by k_ne, by k_ne, by k_ne⟩
            case qX => exact ⟨by k_ne, by k_ne, by k_ne, by k_ne⟩
            case qY => exact ⟨by k_ne, by k_ne, by k_ne, by k_ne⟩
            case e1 => rfl
            case e2 =>
              (repeat (refine (if_neg (by decide)).trans ?_))
              exact c3
        case done2 =>
          ((first | (k_dflt (refine' (us8 neFr neLed neArr neArr neNat neNat neNat neNat ?z9sl ((?_ : L8 _ _ _ _ _ _ _ _ _) () ()) :); (case z9sl => k_extra "m:slot"); intros u8 m₂ tl' rvs' hvs' nr' nh' C nC u9; clear u8 u9; k_extra "m:cl")) | (refine (sk8 neFr neLed neArr neArr neNat neNat neNat neNat ((?_ : ∀ (m₂ : Str → Option Value) (tl' : Led) (rvs' : Array Value) (hvs' : Array Value) (nr' : Nat) (nh' : Nat) (C : Addr) (nC : Nat), _) _ _ _ _ _ _ _ _) :); intros m₂ tl' rvs' hvs' nr' nh' C nC)); (first | (k_dflt (refine' (us5 neTok neTok neTok neHeap neNat ?z9sl ((?_ : L5 _ _ _ _ _ _) () ()) :); (case z9sl => k_extra "m:slot"); intros u8 v0 v1 v2 h2 tk2 u9; clear u8 u9; k_extra "m:cl")) | (refine (sk5 neTok neTok neTok neHeap neNat ((?_ : ∀ (v0 : Tok) (v1 : Tok) (v2 : Tok) (h2 : Heap) (tk2 : Nat), _) _ _ _ _ _) :); intros v0 v1 v2 h2 tk2)))
          intros same' sub' s1 s2 p1 p2 p3 c1 c2 c3 F8 N8
          have d13 := sub' _ b13
          have d14 := sub' _ b14
          have d15 := sub' _ b15
          have d16 := sub' _ b16
          have dD := sub' _ hD
          k_steps
          · refine hT9 _ _ ?_
            dsimp only [TurnK]
            refine turn_end (tl := tl') (rvs := rvs') (hvs := hvs') (by k_asm) (by k_asm) (by lcg_sub) same' (fun x hx => sub' x (sub x hx)) ?_ ?_ p1 p2 p3 q4 q5
            · rw [rows_add hs.1 E0 E1 E2 (by with_reducible assumption) (by with_reducible assumption)]; exact s1
            · rw [rows_add hs.1 E0 E1 E2 (by with_reducible assumption) (by with_reducible assumption)]; exact s2
    case done =>
      k_extra "m:ck"; (have z9 : True := by trivial); clear z9
      ((first | (k_dflt (refine' (us1 neLed ?z9sl ((?_ : L1 _ _) () ()) :); (case z9sl => k_extra "m:slot"); intros u8 base u9; clear u8 u9; k_extra "m:cl")) | (refine (sk1 neLed ((?_ : ∀ (base : Led), _) _) :); intros base)))
      intro hbs
      ((first | (k_dflt (refine' (us8 neFr neLed neArr neArr neNat neNat neHeap neNat ?z9sl ((?_ : L8 _ _ _ _ _ _ _ _ _) () ()) :); (case z9sl => k_extra "m:slot"); intros u8 m₂ tl rvs hvs nr nh h2 tk2 u9; clear u8 u9; k_extra "m:cl")) | (refine (sk8 neFr neLed neArr neArr neNat neNat neHeap neNat ((?_ : ∀ (m₂ : Str → Option Value) (tl : Led) (rvs : Array Value) (hvs : Array Value) (nr : Nat) (nh : Nat) (h2 : Heap) (tk2 : Nat), _) _ _ _ _ _ _ _ _) :); intros m₂ tl rvs hvs nr nh h2 tk2)))
      intros same sub r1 r2 q1 q2 q3 F8 N8
      obtain ⟨-, ⟨b13, b14, b15, b16, b17⟩, bn⟩ := hbs
      replace b13 := sub _ b13
      replace b14 := sub _ b14
      replace b15 := sub _ b15
      replace b16 := sub _ b16
      replace b17 := sub _ b17
      replace bn := fun x hx => sub x (bn x hx)
      clear sub
      have ne : ∀ {a : Addr} {o : Obj}, (a, o) ∈ tl → o ≠ tabObj ps → a ≠ 310 := fun hm hne => off_tab N8 (.tail _ (.tail _ b17)) (.tail _ (.tail _ hm)) hne
      replace b13 := offP_mem b13 (ne b13 (fun e => nomatch congrArg Obj.data e))
      replace b14 := offP_mem b14 (ne b14 (fun e => nomatch congrArg Obj.data e))
      replace b15 := offP_mem b15 (Nat.ne_of_gt (Nat.lt_succ_of_lt (Nat.lt_succ_of_lt l310)))
      replace b16 := offP_mem b16 (Nat.ne_of_gt (Nat.lt_succ_of_lt l310))
      replace bn : ∀ x ∈ news, x ∈ offP tl := fun x hx => offP_mem (bn x hx) (hP x hx)
      have hrl := off_tab N8 (.tail _ (.tail _ b17)) (.head _) (fun e => nomatch congrArg Obj.data e)
      have hhl := off_tab N8 (.tail _ (.tail _ b17)) (.tail _ (.head _)) (fun e => nomatch congrArg Obj.data e)
      have N7 : News _ _ _ (_ :: _ :: (310, tabObj ps) :: offP tl) := fun p hp => N8 p (by
        rcases List.mem_cons.mp hp with rfl | hp
        · exact .head _
        rcases List.mem_cons.mp hp with rfl | hp
        · exact .tail _ (.head _)
        rcases List.mem_cons.mp hp with rfl | hp
        · exact .tail _ (.tail _ b17)
        · exact .tail _ (.tail _ (offP_sub p hp)))
      have rmono : ∀ {hvs rows}, RowsIn tl hvs rows → RowsIn (offP tl) hvs rows := fun hR => ⟨hR.1, fun i r e => by
        obtain ⟨D, ta, tb, e1, e2⟩ := hR.2 i r e
        exact ⟨D, ta, tb, e1, offP_mem e2 (ne e2 (fun e => nomatch congrArg Obj.data e))⟩⟩
      replace r1 := rmono r1
      replace r2 := rmono r2
      replace q1 : ∀ p ∈ offP tl, p.1 ≠ _ := fun p hp => q1 p (offP_sub p hp)
      replace q2 : ∀ p ∈ offP tl, p.1 ≠ _ := fun p hp => q2 p (offP_sub p hp)
      have q4 := offP_ne (led := tl)
      clear N8 rmono ne b17
      refine ex1 (show ∃ t : Led, offP tl = t from ⟨_, rfl⟩) ?_
      ((first | (k_dflt (refine' (us1 neLed ?z9sl ((?_ : L1 _ _) () ()) :); (case z9sl => k_extra "m:slot"); intros u8 tl u9; clear u8 u9; k_extra "m:cl")) | (refine (sk1 neLed ((?_ : ∀ (tl : Led), _) _) :); intros tl)))
      intro e9
      simp only [e9] at b13 b14 b15 b16 bn r1 r2 q1 q2 q4 N7
      clear e9
      have e1 : m₂ (Str.ofString "m") = some _ := (same _ (by decide)).trans rfl
      have e2 : m₂ (Str.ofString "rows") = some _ := (same _ (by decide)).trans rfl
      have e3 : m₂ (Str.ofString "size") = some _ := (same _ (by decide)).trans rfl
      have e4 : m₂ (Str.ofString "a") = some _ := (same _ (by decide)).trans rfl
      have hm1 := bn _ hm
      have hm2 := bn _ hm'
      clear F N
      have r1 : RowsIn tl rvs (rowsAt txt3 a' b' c' (sizeF a' b' c') white 10) := r1
      have r2 : RowsIn tl hvs (rowsAt txt3 a' b' c' (sizeF a' b' c') white 10) := r2
      have hmem := fun c hc => firsts_mem (a' := a') (b' := b') (c' := c') (size := sizeF a' b' c') (white := white) 10 c (Nat.le_refl _) hc
      have hfl := firsts_len (a' := a') (b' := b') (c' := c') (size := sizeF a' b' c') (white := white) 10
      unfold thirdsF at hret
      rw [rowsAt_firsts] at r1 r2
      refine ex1 (show ∃ t : List Col3, firstsAt a' b' c' (sizeF a' b' c') white 10 = t from ⟨_, rfl⟩) ?_
      ((first | (k_dflt (refine' (us1 neList ?z9sl ((?_ : L1 _ _) () ()) :); (case z9sl => k_extra "m:slot"); intros u8 fs u9; clear u8 u9; k_extra "m:cl")) | (refine (sk1 neList ((?_ : ∀ (fs : List Col3), _) _) :); intros fs)))
      intro e9
      rw [e9] at hL
      simp only [e9] at r1 r2 hmem hfl hret
      clear e9
      have hLen : (rvs.size : Int) = sizeF a' b' c' - 1 := by rw [r1.1, three_len]; omega
      have z1 : rvs.size ≤ sizeLine := by rw [r1.1, three_len]; refine sz_30 ?_; omega
      have z2 : hvs.size ≤ sizeLine := by rw [r2.1, three_len]; refine sz_30 ?_; omega
      have hpl : ∀ r ∈ fs.flatMap (three a' b' c' (sizeF a' b' c')), ∀ b, Plain (cell b r).cps := by
        intro r hr b
        obtain ⟨c, hc, hr⟩ := List.mem_flatMap.mp hr
        obtain ⟨k, hk, rfl⟩ := hmem c hc
        have hx := F10_bd k
        have hq : ∀ j, (0 ≤ (rtc (col white k 0) j).1 ∧ (rtc (col white k 0) j).1 < 100) ∧ (0 ≤ (rtc (col white k 0) j).2.1 ∧ (rtc (col white k 0) j).2.1 < 100) ∧ (0 ≤ (rtc (col white k 0) j).2.2 ∧ (rtc (col white k 0) j).2.2 < 100) := by
          intro j
          clear r1 r2 same
          refine rt_bd ?_ ?_ ?_ j
          · show 0 ≤ (F10' k).1 + white ∧ (F10' k).1 + white < 100; omega
          · show 0 ≤ (F10' k).2.1 + white ∧ (F10' k).2.1 + white < 100; omega
          · show 0 ≤ (F10' k).2.2 + white ∧ (F10' k).2.2 + white < 100; omega
        have hr3 : ∃ j, r = rowC a' b' c' (sizeF a' b' c') (rtc (col white k 0) j) := by
          unfold three at hr
          simp only [List.mem_cons, List.not_mem_nil, or_false] at hr
          rcases hr with rfl | rfl | rfl
          · exact ⟨0, rfl⟩
          · exact ⟨1, rfl⟩
          · exact ⟨2, rfl⟩
        obtain ⟨j, rfl⟩ := hr3
        cases b with
        | true => exact plain_nm (ixA_lt hs) (ixB_lt hs)
        | false => exact plain_txt (hq j).1 (hq j).2.1 (hq j).2.2
      k_steps
      · exfalso
        clear same r1 r2
        omega
      · refine ⟨?_⟩
        refine' text_loop (ps := ps) (news := (_, listOf _ 0) :: (_, listOf hvs nh) :: tl) txOwn (lookA (ma, mb', mc) a' b' c' (sizeF a' b' c') fs) rfl ?F ?N ?sub ?hP ?hT (List.Mem.head _) ?hz ?e0 ?turn ?done
        case hz => assumption
        case F => k_asm
        case N => k_asm
        case sub => lcg_sub
        case hP =>
          simp only [List.forall_mem_cons]
          refine ⟨by k_ne, by k_ne, q4⟩
        case hT => exact (hTab.mono bn).mono (fun p hp => .tail _ (.tail _ hp))
        case e0 => rfl
        case turn =>
          ((first | (k_dflt (refine' (us8 neNat neObj neNat (inferInstance : Nonempty (Col3)) neTok neFr neInt neTok ?z9sl ((?_ : L8 _ _ _ _ _ _ _ _ _) () ()) :); (case z9sl => k_extra "m:slot"); intros u8 I o i c t9 m₃ acc t u9; clear u8 u9; k_extra "m:cl")) | (refine (sk8 neNat neObj neNat (inferInstance : Nonempty (Col3)) neTok neFr neInt neTok ((?_ : ∀ (I : Addr) (o : Obj) (i : Nat) (c : Col3) (t9 : Tok) (m₃ : Str → Option Value) (acc : Int) (t : Tok), _) _ _ _ _ _ _ _ _) :); intros I o i c t9 m₃ acc t)); (first | (k_dflt (refine' (us4 neHeap neNat neArr neLed ?z9sl ((?_ : L4 _ _ _ _ _) () ()) :); (case z9sl => k_extra "m:slot"); intros u8 h3 tk3 ps9 rest9 u9; clear u8 u9; k_extra "m:cl")) | (refine (sk4 neHeap neNat neArr neLed ((?_ : ∀ (h3 : Heap) (tk3 : Nat) (ps9 : Array Value) (rest9 : Led), _) _ _ _ _) :); intros h3 tk3 ps9 rest9)))
          intros hi hc same3 e5 hacc hab sb9 hP9 hT9 off off2 F9 N9
          simp only [List.forall_mem_cons] at sb9
          obtain ⟨sb1, sb2, sb3⟩ := sb9
          replace b13 := sb3 _ b13
          replace b14 := sb3 _ b14
          replace b15 := sb3 _ b15
          replace b16 := sb3 _ b16
          replace hm1 := sb3 _ hm1
          replace hm2 := sb3 _ hm2
          replace r2 := r2.mono sb3
          have f1 : m₃ (Str.ofString "m") = some (.ref lb) := (same3 _ (by decide)).trans e1
          have f3 : m₃ (Str.ofString "size") = some _ := (same3 _ (by decide)).trans e3
          have f4 : m₃ (Str.ofString "a") = some (.ref la) := (same3 _ (by decide)).trans e4
          obtain ⟨kc, hkc, hcc⟩ := hmem _ (List.mem_of_getElem? hc)
          refine ex3 (show ∃ k0 k1 k2 : Int, c = (k0, k1, k2) from ⟨_, _, _, rfl⟩) ?_
          ((first | (k_dflt (refine' (us3 neInt neInt neInt ?z9sl ((?_ : L3 _ _ _ _) () ()) :); (case z9sl => k_extra "m:slot"); intros u8 k0 k1 k2 u9; clear u8 u9; k_extra "m:cl")) | (refine (sk3 neInt neInt neInt ((?_ : ∀ (k0 : Int) (k1 : Int) (k2 : Int), _) _ _ _) :); intros k0 k1 k2)))
          intro ec9
          rw [ec9] at hcc hacc hc ⊢
          clear ec9
          obtain ⟨g0, g1, g2⟩ := col_bd hw hcc
          clear hkc hcc kc
          dsimp only
          have hBd : Bd k0 k1 k2 := ⟨bd_100 g0, bd_100 g1, bd_100 g2⟩
          refine ex3 (show ∃ p1 p2 p3 : Int, ma * k0 + mb' * k2 + mc * k1 = p1 ∧ ma * k1 + mb' * k0 + mc * k2 = p2 ∧ ma * k2 + mb' * k1 + mc * k0 = p3 from ⟨_, _, _, rfl, rfl, rfl⟩) ?_
          ((first | (k_dflt (refine' (us3 neInt neInt neInt ?z9sl ((?_ : L3 _ _ _ _) () ()) :); (case z9sl => k_extra "m:slot"); intros u8 p1 p2 p3 u9; clear u8 u9; k_extra "m:cl")) | (refine (sk3 neInt neInt neInt ((?_ : ∀ (p1 : Int) (p2 : Int) (p3 : Int), _) _ _ _) :); intros p1 p2 p3)))
          rintro ⟨hv1, hv2, hv3⟩
          have hP : Bd p1 p2 p3 := prod_bd hb g0 g1 g2 hv1 hv2 hv3
          have n1 := @ixA_lt p1 p2 p3 a' b' c' (sizeF a' b' c') hs
          have n2 := @ixB_lt p1 p2 p3 a' b' c' (sizeF a' b' c') hs
          have nu := nm_up n1 n2
          rw [← nameF_eq hs.1] at nu
          have nl := up_lo n1 n2
          have nll := lo_lo n1 n2
          have plq : ∀ q : Nat × Col3, q.2 ∈ fs → Plain (txt3 (rtc q.2 q.1).1 (rtc q.2 q.1).2.1 (rtc q.2 q.1).2.2).cps := by
            intro q hq
            obtain ⟨k, hk, e⟩ := hmem _ hq
            rw [e]
            have hx := F10_bd k
            have hb9 : (0 ≤ (rtc (col white k 0) q.1).1 ∧ (rtc (col white k 0) q.1).1 < 100) ∧ (0 ≤ (rtc (col white k 0) q.1).2.1 ∧ (rtc (col white k 0) q.1).2.1 < 100) ∧ (0 ≤ (rtc (col white k 0) q.1).2.2 ∧ (rtc (col white k 0) q.1).2.2 < 100) := by
              clear r1 r2 same same3
              refine rt_bd ?_ ?_ ?_ q.1
              · show 0 ≤ (F10' k).1 + white ∧ (F10' k).1 + white < 100; omega
              · show 0 ≤ (F10' k).2.1 + white ∧ (F10' k).2.1 + white < 100; omega
              · show 0 ≤ (F10' k).2.2 + white ∧ (F10' k).2.2 + white < 100; omega
            exact plain_txt hb9.1 hb9.2.1 hb9.2.2
          have pln := plain_none
          refine gen_T ?_
          ((first | (k_dflt (refine' (us1 neFl ?z9sl ((?_ : L1 _ _) () ()) :); (case z9sl => k_extra "m:slot"); intros u8 T7 u9; clear u8 u9; k_extra "m:cl")) | (refine (sk1 neFl ((?_ : ∀ (T7 : Flow → Shared → Prop), _) _) :); intros T7)))
          intro hT7
          try dsimp only
          k_steps
          · first
            | contradiction
            | (exfalso; rename_i hz9; simp at hz9; done)
            | (k_extra "m:clr"; exfalso; simp at *; done)
          · refine hT7 _ _ ?_
            dsimp only [TurnK]
            refine text_end' (by assumption) (by assumption) (by assumption) (by assumption) (by lcg_sub) (fun p hp => ?_) hP9 ?_ off off2 (by k_ne) (by rfl) (look_of hv1 hv2 hv3 (by assumption)) hq3 hacc hab
            · simp only [List.mem_cons] at hp
              rcases hp with rfl | rfl | hp
              · exact sb1
              · exact sb2
              · exact sb3 _ hp
            · repeat (refine Same.set ?_ (by decide))
              exact same3
          · refine hT7 _ _ ?_
            dsimp only [TurnK]
            k_steps
            have e : lookA (ma, mb', mc) a' b' _ _ fs (k0, k1, k2) = none := look_of hv1 hv2 hv3 hfnd
            have hval := hacc.symm.trans (show _ = (-1 : Int) by rw [goT, e])
            rw [hval] at hret
            exact thirds_ret hret (by assumption) (by assumption) (by assumption) (by assumption) (by lcg_sub) (fun p hp => sb3 p (bn p hp)) hP9
        case done =>
          k_extra "m:ck"; (have z9 : True := by trivial); clear z9
          ((first | (k_dflt (refine' (us7 neFr neInt neTok neHeap neNat neArr neLed ?z9sl ((?_ : L7 _ _ _ _ _ _ _ _) () ()) :); (case z9sl => k_extra "m:slot"); intros u8 m₃ acc t h3 tk3 ps9 rest9 u9; clear u8 u9; k_extra "m:cl")) | (refine (sk7 neFr neInt neTok neHeap neNat neArr neLed ((?_ : ∀ (m₃ : Str → Option Value) (acc : Int) (t : Tok) (h3 : Heap) (tk3 : Nat) (ps9 : Array Value) (rest9 : Led), _) _ _ _ _ _ _ _) :); intros m₃ acc t h3 tk3 ps9 rest9)))
          intros same3 e5 hacc hab sb9 hP9 hT9 F9 N9
          k_steps
          rw [hacc]
          exact hret _ h3 _ ps9 rest9 (by assumption) (by assumption) (fun p hp => sb9 p (.tail _ (.tail _ (bn p hp)))) hP9 hT9
  (all_goals k_extra "m:pour"); (k_with "m:slot" => fail "no slot")
end
end PThd
section PLaw
open PySem.Spec PySem.Calls
theorem sum_pick {prog : Program} {w : World} {A : Around} {E : Value → Shared → Prop} {s : Shared} {h₀ : Heap} {L : Addr} {m : Str → Option Value} {news : Led} {l : Addr} {vs : List Value} {ns : List Int} {lo hi st : Option Int} {Q : Value → Shared → Prop} (hh : A.handled = none) (F : Fr h₀ L s.heap m) (N : News h₀ L s.heap news) (hm : (l, ({ cls := .type "list", data := .seq (slicePick vs.toArray lo hi st) } : Obj)) ∈ news) (hv : IntsAre vs ns)
    (h : ∀ h' tk t', Fr h₀ L h' m → News h₀ L h' news → Q (.int (pickNums ns lo hi st).sum t') { s with heap := h', toks := tk }) :
    wpAny (model prog w) A (call (.builtin "sum") [.ref l]) Q E s :=
  LSm.sum_ints F N hh (News.isList N hm) (hv.pick lo hi st) h
theorem slice3_D {prog : Program} {w : World} {A : Around} {E : Value → Shared → Prop} {s : Shared} {h₀ : Heap} {L : Addr} {m : Str → Option Value} {news : Led} {value slice : PySem.Expr} {l : Addr} {items : Array Value} {vl vu vk : Value} {lo hi st : Option Int} {ops : List Value} {Q : Value → Shared → Prop}
    (F : Fr h₀ L s.heap m) (N : News h₀ L s.heap news) (hl : s.heap.IsList l items) (pl : IsPart vl lo) (pu : IsPart vu hi) (pk : IsPart vk st) (h0 : st ≠ some 0)
    (h : ∀ D h', Fr h₀ L h' m → News h₀ L h' ((D, { cls := .type "list", data := .seq (slicePick items lo hi st) }) :: news) → (∀ p ∈ news, p.1 < D) → Q (.ref D) { s with heap := h' })
    (hs : subscripted slice false (.ref l) (.ref s.heap.objs.size) = operate ops (getItem (.ref l) (.ref s.heap.objs.size))) (ht : ∀ r, letTemporaryGo value (.ref l) r = pure ()) (hsz : items.size ≤ sizeLine) :
    wpAny (model prog w) A (subscriptTail value slice (.ref l) (.ref s.heap.objs.size)) Q E { s with heap := s.heap.push { cls := .type "slice", data := .fields #[vl, vu, vk] } } :=
  slice_list3 F N hl pl pu pk h0 (fun h' F' N' => h _ h' F' N' fun p hp => Nat.lt_succ_of_lt (Heap.lt_size (N p hp).1)) hs ht hsz
theorem ln_40 : True := by
  (k_with "subscriptTail Name Slice ref ref" => ((with_reducible show wpAny _ _ (subscriptTail _ (PySem.Expr.Slice _ _ (some _) _) _ _) _ _ _); k_here; k_dflt (refine slice3_D (by k_asm) (by k_asm) (by is_list) (by first | exact .none | exact .int _ _) (by first | exact .none | exact .int _ _) (by first | exact .none | exact .int _ _) (by first | decide | (intro hz; injection hz with hz; omega)) ?_ (by with_unfolding_all rfl) (by intro _; with_unfolding_all rfl) (by size_fits)); ((first | (k_dflt (refine' (us2 neNat neHeap ?z9sl ((?_ : L2 _ _ _) () ()) :); (case z9sl => k_extra "m:slot"); intros u8 D' h' u9; clear u8 u9; k_extra "m:cl")) | (refine (sk2 neNat neHeap ((?_ : ∀ (D' : Addr) (h' : Heap), _) _ _) :); intros D' h'))); intros F' N' l1; (try k_lt l1); (try k_sweep)))
  (k_with "call builtin:sum" => (k_here; (with_reducible show wpAny _ _ (call (Value.builtin "sum") [Value.ref _]) _ _ _); k_dflt (refine' sum_pick ?hh ?F ?N ?m ?hi ?_; (case hh => exact rfl); (case F => k_asm); (case N => k_asm); (case m => k_mem); (case hi => assumption); k_whole); ((first | (k_dflt (refine' (us3 neHeap neNat neTok ?z9sl ((?_ : L3 _ _ _ _) () ()) :); (case z9sl => k_extra "m:slot"); intros u8 h' tk' t9 u9; clear u8 u9; k_extra "m:cl")) | (refine (sk3 neHeap neNat neTok ((?_ : ∀ (h' : Heap) (tk' : Nat) (t9 : Tok), _) _ _ _) :); intros h' tk' t9))); intros F' N'; (try k_sweep)))
  trivial
theorem fmod_in {a : Int} : 0 ≤ Int.fmod a 12744 ∧ Int.fmod a 12744 < 12744 := ⟨Int.fmod_nonneg_of_pos _ (by decide), Int.fmod_lt_of_pos _ (by decide)⟩
theorem ln_41 : True := by
  (k_with "call ref" => ((with_reducible show wpAny _ _ (call (Value.ref 272) _ _) _ _ _); k_here; k_dflt (refine' drawn_c ?hn _ _ _ _ _ _ _ _ _ _ _ _ _ _ _ _ _ ?k1 ?k2 ?k3 ?k4 ?k5 ?kK ?kd ?ku ?_; (case hn => exact fmod_in); k_extra "m:std"; k_whole); ((first | (k_dflt (refine' (us4 neNat neTok neTok neTok ?z9sl ((?_ : L4 _ _ _ _ _) () ()) :); (case z9sl => k_extra "m:slot"); intros u8 D' t1 t2 t3 u9; clear u8 u9; k_extra "m:cl")) | (refine (sk4 neNat neTok neTok neTok ((?_ : ∀ (D' : Addr) (t1 : Tok) (t2 : Tok) (t3 : Tok), _) _ _ _ _) :); intros D' t1 t2 t3))); (try dsimp only); ((first | (k_dflt (refine' (us2 neHeap neNat ?z9sl ((?_ : L2 _ _ _) () ()) :); (case z9sl => k_extra "m:slot"); intros u8 h' tk' u9; clear u8 u9; k_extra "m:cl")) | (refine (sk2 neHeap neNat ((?_ : ∀ (h' : Heap) (tk' : Nat), _) _ _) :); intros h' tk'))); intros F' N' ap; (try simp only [Apart, List.forall_mem_cons, List.cons_append, List.nil_append, List.forall_mem_nil, and_true] at ap N'); (try dsimp only); (try k_sweep)))
  (k_with "eval ListComp" => ((with_reducible show wpAny _ _ (eval (PySem.Expr.ListComp (PySem.Expr.Name _ _) [_, _] _ _) _) _ _ _); k_here; k_dflt (refine comp2 (by k_asm) (by rfl) (by decide) (by rfl) (by decide) (by rfl) (by rfl) (by decide) ?_)))
  trivial
theorem ln_42 : True := by
  (k_with "call ref" => ((with_reducible show wpAny _ _ (call (Value.ref 277) _ _) _ _ _); k_here; k_dflt (refine' oct_c ?hm ?hb _ _ _ _ _ _ _ _ _ _ _ _ _ _ _ _ _ ?k1 ?k2 ?k3 ?k4 ?k5 ?kK ?kd ?ku ?_; k_extra "m:std1"; (case hm => k_mem); (case hb => exact drawn_in fmod_in); k_extra "m:std2"; k_whole); ((first | (k_dflt (refine' (us2 neNat neLv ?z9sl ((?_ : L2 _ _ _) () ()) :); (case z9sl => k_extra "m:slot"); intros u8 D' ys' u9; clear u8 u9; k_extra "m:cl")) | (refine (sk2 neNat neLv ((?_ : ∀ (D' : Addr) (ys' : List Value), _) _ _) :); intros D' ys'))); intro hI9; (try dsimp only); ((first | (k_dflt (refine' (us2 neHeap neNat ?z9sl ((?_ : L2 _ _ _) () ()) :); (case z9sl => k_extra "m:slot"); intros u8 h' tk' u9; clear u8 u9; k_extra "m:cl")) | (refine (sk2 neHeap neNat ((?_ : ∀ (h' : Heap) (tk' : Nat), _) _ _) :); intros h' tk'))); intros F' N' ap; (try simp only [Apart, List.forall_mem_cons, List.cons_append, List.nil_append, and_true] at ap N'); (try dsimp only); (try k_sweep)))
  trivial
theorem fmod61 {a : Int} : 0 ≤ Int.fmod a 61 ∧ Int.fmod a 61 < 256 := ⟨Int.fmod_nonneg_of_pos _ (by decide), Int.lt_trans (Int.fmod_lt_of_pos _ (by decide)) (by decide)⟩
theorem ln_43 : True := by
  (k_with "call ref" => ((with_reducible show wpAny _ _ (call (Value.ref 282) _ _) _ _ _); k_here; k_dflt (refine' read_c ?hm ?h1 ?h2 ?hw ?hi _ _ _ _ _ _ _ _ _ _ _ _ _ _ _ _ _ ?k1 ?k2 ?k3 ?k4 ?k5 ?kK ?kd ?ku ?_; k_extra "m:std1"; (case hi => with_reducible assumption); (case hm => k_mem); (case h1 => exact drawn_in fmod_in); (case h2 => exact drawn_in fmod_in); (case hw => exact fmod61); k_extra "m:std2"; k_whole); ((first | (k_dflt (refine' (us8 neNat neNat neNat neNat neNat neNat neTok neTok ?z9sl ((?_ : L8 _ _ _ _ _ _ _ _ _) () ()) :); (case z9sl => k_extra "m:slot"); intros u8 T' D' B' A1 A2 cc u9 u1 u9; clear u8 u9; k_extra "m:cl")) | (refine (sk8 neNat neNat neNat neNat neNat neNat neTok neTok ((?_ : ∀ (T' : Addr) (D' : Addr) (B' : Addr) (A1 : Addr) (A2 : Addr) (cc : Nat) (u9 : Tok) (u1 : Tok), _) _ _ _ _ _ _ _ _) :); intros T' D' B' A1 A2 cc u9 u1)); (first | (k_dflt (refine' (us5 neTok neTok neTok neTok neTok ?z9sl ((?_ : L5 _ _ _ _ _ _) () ()) :); (case z9sl => k_extra "m:slot"); intros u8 u2 u3 u4 u5 u6 u9; clear u8 u9; k_extra "m:cl")) | (refine (sk5 neTok neTok neTok neTok neTok ((?_ : ∀ (u2 : Tok) (u3 : Tok) (u4 : Tok) (u5 : Tok) (u6 : Tok), _) _ _ _ _ _) :); intros u2 u3 u4 u5 u6))); (try dsimp only); ((first | (k_dflt (refine' (us2 neHeap neNat ?z9sl ((?_ : L2 _ _ _) () ()) :); (case z9sl => k_extra "m:slot"); intros u8 h' tk' u9; clear u8 u9; k_extra "m:cl")) | (refine (sk2 neHeap neNat ((?_ : ∀ (h' : Heap) (tk' : Nat), _) _ _) :); intros h' tk'))); intros F' N' ap; (try simp only [readTl, Apart, List.forall_mem_cons, List.cons_append, List.nil_append, and_true] at ap N'); (try dsimp only); (try k_sweep)))
  (k_with "call ref" => ((with_reducible show wpAny _ _ (call (Value.ref 287) _ _) _ _ _); k_here; k_dflt (refine' upright_v ?hm ?hb ?hT _ _ _ _ _ _ _ _ _ _ _ _ _ _ _ _ _ ?k1 ?k2 ?k3 ?k4 ?k5 ?kK ?kd ?ku ?_; k_extra "m:std1"; (case hm => k_mem); (case hb => exact drawn_in fmod_in); (case hT => exact drawn_up fmod_in); k_extra "m:std2"; k_whole); ((first | (k_dflt (refine' (us5 neNat neNat neTok neTok neTok ?z9sl ((?_ : L5 _ _ _ _ _ _) () ()) :); (case z9sl => k_extra "m:slot"); intros u8 l' k9 t0 t1 t2 u9; clear u8 u9; k_extra "m:cl")) | (refine (sk5 neNat neNat neTok neTok neTok ((?_ : ∀ (l' : Addr) (k9 : Nat) (t0 : Tok) (t1 : Tok) (t2 : Tok), _) _ _ _ _ _) :); intros l' k9 t0 t1 t2))); (try dsimp only); ((first | (k_dflt (refine' (us2 neHeap neNat ?z9sl ((?_ : L2 _ _ _) () ()) :); (case z9sl => k_extra "m:slot"); intros u8 h' tk' u9; clear u8 u9; k_extra "m:cl")) | (refine (sk2 neHeap neNat ((?_ : ∀ (h' : Heap) (tk' : Nat), _) _ _) :); intros h' tk'))); intros F' N'; (try simp only [List.cons_append, List.nil_append] at N'); (try dsimp only); (try k_sweep)))
  trivial
theorem UOk.bdd {x : Col3} (h : UOk x) : Bd x.1 x.2.1 x.2.2 := by have b := h.bd; unfold Bd; omega
theorem list_ne_tab {xs : Array Value} {n : Nat} {ps : Array Value} : listOf xs n ≠ tabObj ps := fun e => nomatch congrArg Obj.cls e
theorem off310 {h₀ h : Heap} {L l : Addr} {led : Led} {xs ps : Array Value} {n : Nat} (N : News h₀ L h led) (hP : (310, tabObj ps) ∈ led) (hm : (l, listOf xs n) ∈ led) : (l, listOf xs n) ∈ offP led := offP_mem hm (off_tab N hP hm list_ne_tab)
section
variable {w : World} {p : Program} {loose : List Str} {mean : ExcName → Option Value} {mg mb : Str → Option Value}
theorem thirds_l {led : Led} {l l' : Addr} {n n' : Nat} {x y : Col3} {white : Int} {ta tb tc ta' tb' tc' ts : Tok} {ps : Array Value} (hTab : TabSt ps (offP led)) (h310 : (310, tabObj ps) ∈ led) (hm : (l, listOf #[.int x.1 ta, .int x.2.1 tb, .int x.2.2 tc] n) ∈ led)
   (hm' : (l', listOf #[.int y.1 ta', .int y.2.1 tb', .int y.2.2 tc'] n') ∈ led) (hx : UOk x) (hy : UOk y) (hw : 0 ≤ white ∧ white ≤ 60)
   {dp un : Nat} {gd : Option (List Code)} {cn : Str} {cs : Scope} {a : Addr} {ccd : Value} {cl : List (Str × Addr)} {outer : List Env} {A₀ : Around} {base h₀ : Heap} {L : Addr} {m : Str → Option Value} {s : Shared} {Q E : Value → Shared → Prop}
   (hB : Below A₀ base outer h₀) (F : Fr h₀ L s.heap m) (hX : (heapK w.params).In h₀) (N : News h₀ L s.heap led) (hT : Top p loose mean mg mb h₀) (hcs : cs.kind = .function) (hd9 : dp + 20 < recursionLimit) (hu9 : un + 8 * 20 < cLine) (hc : CodeHd base 312 310)
   (hret : ∀ (t : Tok) (h' : Heap) (tk' : Nat) (ps' : Array Value) (news' : Led), Fr h₀ L h' m → News h₀ L h' ((310, tabObj ps') :: news') → (l, listOf #[.int x.1 ta, .int x.2.1 tb, .int x.2.2 tc] n) ∈ news' → (l', listOf #[.int y.1 ta', .int y.2.1 tb', .int y.2.2 tc'] n') ∈ news' → (∀ p ∈ news', p.1 ≠ 310) → TabSt ps' news' → Q (.int (thrC x y white) t) { s with heap := h', toks := tk' }) :
   wpAny (model PySem.Challenge.rw_kl0382_01.row.toRowW.prog w) (ktrTop dp un gd cn cs L a ccd cl outer) (call (.ref 313) [.ref l, .ref l', .int white ts]) Q E s := by
  have m1 := off310 N h310 hm
  have m2 := off310 N h310 hm'
  have bx := hx.bd
  have by' := hy.bd
  refine thirds_c (ps := ps) (news := offP led) offP_ne hTab m1 m2 (by omega) (by unfold Bk; omega) hy.size hw (turns_ok hw) (hy.firsts white) dp un gd cn cs a ccd cl outer A₀ base h₀ L m s Q E hB F hX (fun p hp => ?_) hT hcs hd9 hu9 hc (fun t h' tk' ps' news' F' N' sub off hT' => hret t h' tk' ps' news' F' N' (sub _ m1) (sub _ m2) off hT')
  rcases List.mem_cons.mp hp with rfl | hp
  · exact N _ h310
  · exact N _ (offP_sub p hp)
end
theorem thirds_1 {led : Led} {l l' : Addr} {n n' : Nat} {x y : Col3} {white : Int} {ta tb tc ta' tb' tc' ts : Tok} {ps : Array Value} (hTab : TabSt ps (offP led)) (h310 : (310, tabObj ps) ∈ led) (hm : (l, listOf #[.int x.1 ta, .int x.2.1 tb, .int x.2.2 tc] n) ∈ led)
   (hm' : (l', listOf #[.int y.1 ta', .int y.2.1 tb', .int y.2.2 tc'] n') ∈ led) (hx : UOk x) (hy : UOk y) (hP : POk x y white) (hw : 0 ≤ white ∧ white ≤ 60)
   {dp un : Nat} {gd : Option (List Code)} {cn : Str} {cs : Scope} {a : Addr} {ccd : Value} {cl : List (Str × Addr)} {outer : List Env} {A₀ : Around} {base h₀ : Heap} {L : Addr} {m : Str → Option Value} {s : Shared} {Q E : Value → Shared → Prop}
   (hB : Below A₀ base outer h₀) (F : Fr h₀ L s.heap m) (hX : (heapK w.params).In h₀) (N : News h₀ L s.heap led) (hT : Top p loose mean mg mb h₀) (hcs : cs.kind = .function) (hd9 : dp + 20 < recursionLimit) (hu9 : un + 8 * 20 < cLine) (hc : CodeHd base 312 310)
   (hret : ∀ (th : Int) (t : Tok) (h' : Heap) (tk' : Nat) (ps' : Array Value) (news' : Led), -1 ≤ th → th < 3 → (sizeF y.1 y.2.1 y.2.2 ≠ 16 → eulerF x.1 x.2.1 x.2.2 y.1 y.2.1 y.2.2 th = true) → thrC y x white = th → Fr h₀ L h' m → News h₀ L h' ((310, tabObj ps') :: news') → (l, listOf #[.int x.1 ta, .int x.2.1 tb, .int x.2.2 tc] n) ∈ news' → (l', listOf #[.int y.1 ta', .int y.2.1 tb', .int y.2.2 tc'] n') ∈ news' → TabSt ps' (offP ((310, tabObj ps') :: news')) → Q (.int th t) { s with heap := h', toks := tk' }) :
   wpAny (model PySem.Challenge.rw_kl0382_01.row.toRowW.prog w) (ktrTop dp un gd cn cs L a ccd cl outer) (call (.ref 313) [.ref l, .ref l', .int white ts]) Q E s :=
  thirds_l hTab h310 hm hm' hx hy hw hB F hX N hT hcs hd9 hu9 hc fun t h' tk' ps' news' F' N' m1 m2 off hT' =>
    hret _ t h' tk' ps' news' (thrC_bd x y white).1 (thrC_bd x y white).2 hP.euler hP.sym F' N' m1 m2 (hT'.mono fun p hp => offP_mem (.tail _ hp) (off p hp))
theorem thirds_2 {led : Led} {l l' : Addr} {n n' : Nat} {x y : Col3} {white th : Int} {ta tb tc ta' tb' tc' ts : Tok} {ps : Array Value} (hTab : TabSt ps (offP led)) (h310 : (310, tabObj ps) ∈ led) (hm : (l, listOf #[.int x.1 ta, .int x.2.1 tb, .int x.2.2 tc] n) ∈ led)
   (hm' : (l', listOf #[.int y.1 ta', .int y.2.1 tb', .int y.2.2 tc'] n') ∈ led) (hx : UOk x) (hy : UOk y) (hth : thrC x y white = th) (hw : 0 ≤ white ∧ white ≤ 60)
   {dp un : Nat} {gd : Option (List Code)} {cn : Str} {cs : Scope} {a : Addr} {ccd : Value} {cl : List (Str × Addr)} {outer : List Env} {A₀ : Around} {base h₀ : Heap} {L : Addr} {m : Str → Option Value} {s : Shared} {Q E : Value → Shared → Prop}
   (hB : Below A₀ base outer h₀) (F : Fr h₀ L s.heap m) (hX : (heapK w.params).In h₀) (N : News h₀ L s.heap led) (hT : Top p loose mean mg mb h₀) (hcs : cs.kind = .function) (hd9 : dp + 20 < recursionLimit) (hu9 : un + 8 * 20 < cLine) (hc : CodeHd base 312 310)
   (hret : ∀ (t : Tok) (h' : Heap) (tk' : Nat) (ps' : Array Value) (news' : Led), Fr h₀ L h' m → News h₀ L h' ((310, tabObj ps') :: news') → Q (.int th t) { s with heap := h', toks := tk' }) :
   wpAny (model PySem.Challenge.rw_kl0382_01.row.toRowW.prog w) (ktrTop dp un gd cn cs L a ccd cl outer) (call (.ref 313) [.ref l, .ref l', .int white ts]) Q E s :=
  thirds_l hTab h310 hm hm' hx hy hw hB F hX N hT hcs hd9 hu9 hc fun t h' tk' ps' news' F' N' _ _ _ _ => hth ▸ hret t h' tk' ps' news' F' N'
theorem ln_44 : True := by
  (k_with "call ref" => ((with_reducible show wpAny _ _ (call (Value.ref 313) _ _) _ _ _); k_here; k_dflt (refine' thirds_1 (.inl rfl) ?h310 ?m1 ?m2 ?hx ?hy ?hp ?hw ?B ?F ?X ?N ?T rfl ?hd ?hu ?hc ?_; (case B => k_asm); (case F => k_asm); (case N => k_asm); (case X => k_asm); (case T => k_asm); (case h310 => k_mem); (case m1 => k_mem); (case m2 => k_mem); (case hx => exact drawn_uok fmod_in); (case hy => exact drawn_uok fmod_in); (case hp => exact drawn_pok fmod_in fmod_in _); (case hw => exact ⟨Int.fmod_nonneg_of_pos _ (by decide), Int.le_of_lt_add_one (Int.fmod_lt_of_pos _ (by decide))⟩); (case hd => (first | k_extra "m:room" | ktr_room)); (case hu => (first | k_extra "m:unit" | ktr_units)); (case hc => assumption); k_whole); ((first | (k_dflt (refine' (us6 neInt neTok neHeap neNat neArr neLed ?z9sl ((?_ : L6 _ _ _ _ _ _ _) () ()) :); (case z9sl => k_extra "m:slot"); intros u8 th t9 h' tk' ps' news' u9; clear u8 u9; k_extra "m:cl")) | (refine (sk6 neInt neTok neHeap neNat neArr neLed ((?_ : ∀ (th : Int) (t9 : Tok) (h' : Heap) (tk' : Nat) (ps' : Array Value) (news' : Led), _) _ _ _ _ _ _) :); intros th t9 h' tk' ps' news'))); intros t1 t2 hE hS F' N' m1 m2 hT'; (try dsimp only); (try k_sweep)))
  (k_with "binaryOp Add ref ref" => (k_here; k_dflt (refine' kmk_add_ints ?F ?N ?ya ?yb (IntsAre.append hv1 hv2) ?j ?_ ?z; (case F => k_asm); (case N => k_asm); (case ya => exact News.isList (by k_asm) (by k_mem)); (case yb => exact News.isList (by k_asm) (by k_mem)); (case j => exact .cons _ _ .nil); (case z => (rw [List.length_append]; exact Nat.le_trans (Nat.add_le_add (Nat.add_le_add octF_len.2 octF_len.2) (Nat.le_refl _)) (show 3 + 3 + 1 ≤ sizeLine by decide))); k_whole); ((first | (k_dflt (refine' (us3 neNat neLv neHeap ?z9sl ((?_ : L3 _ _ _ _) () ()) :); (case z9sl => k_extra "m:slot"); intros u8 D' ws' h' u9; clear u8 u9; k_extra "m:cl")) | (refine (sk3 neNat neLv neHeap ((?_ : ∀ (D' : Addr) (ws' : List Value) (h' : Heap), _) _ _ _) :); intros D' ws' h'))); intros F' N' l1 hI'; k_lt l1; (try k_sweep)))
  trivial
theorem ln_45 : True := by
  (k_with "call ref" => ((with_reducible show wpAny _ _ (call (Value.ref 301) _ _) _ _ _); k_dflt ((k_here; k_dflt (refine' (size_c ?z1 ?z2) _ _ _ _ _ _ _ _ _ _ _ _ _ _ _ _ _ ?k1 ?k2 ?k3 ?k4 ?k5 ?kK ?kd ?ku ?_; k_extra "m:std"; k_whole)); (case z1 => k_extra "m:in"); (case z2 => exact (drawn_uok fmod_in).bdd); ((first | (k_dflt (refine' (us1 neTok ?z9sl ((?_ : L1 _ _) () ()) :); (case z9sl => k_extra "m:slot"); intros u8 t1 u9; clear u8 u9; k_extra "m:cl")) | (refine (sk1 neTok ((?_ : ∀ (t1 : Tok), _) _) :); intros t1))); k_extra "m:got0")))
  (k_with "call ref" => ((with_reducible show wpAny _ _ (call (Value.ref 318) _ _) _ _ _); k_here; k_dflt (refine' euler_c ?z1 ?z2 ?z3 ?z4 ?z5 ?z6 _ _ _ _ _ _ _ _ _ _ _ _ _ _ _ _ _ ?k1 ?k2 ?k3 ?k4 ?k5 ?kK ?kd ?ku ?_; k_extra "m:std1"; (case z1 => k_extra "m:in"); (case z2 => k_extra "m:in"); (case z3 => exact (drawn_uok fmod_in).bd); (case z4 => exact (drawn_uok fmod_in).bd); (case z5 => exact (drawn_uok fmod_in).size); (case z6 => exact ⟨by assumption, by assumption⟩); k_extra "m:std2"; k_whole); (try dsimp only); ((first | (k_dflt (refine' (us2 neHeap neNat ?z9sl ((?_ : L2 _ _ _) () ()) :); (case z9sl => k_extra "m:slot"); intros u8 h' tk' u9; clear u8 u9; k_extra "m:cl")) | (refine (sk2 neHeap neNat ((?_ : ∀ (h' : Heap) (tk' : Nat), _) _ _) :); intros h' tk'))); intros F' N' _; (try simp only [List.cons_append, List.nil_append] at N'); (try dsimp only); (try k_sweep)))
  (k_with "call ref" => ((with_reducible show wpAny _ _ (call (Value.ref 313) _ _) _ _ _); k_here; k_dflt (refine' thirds_2 ?hTab ?h310 ?m1 ?m2 ?hx ?hy ?hth ?hw ?B ?F ?X ?N ?T rfl ?hd ?hu ?hc ?_; (case B => k_asm); (case F => k_asm); (case N => k_asm); (case X => k_asm); (case T => k_asm); (case h310 => exact .head _); (case m1 => k_extra "m:in"); (case m2 => k_extra "m:in"); (case hTab => assumption); (case hx => exact drawn_uok fmod_in); (case hy => exact drawn_uok fmod_in); (case hth => assumption); (case hw => exact ⟨Int.fmod_nonneg_of_pos _ (by decide), Int.le_of_lt_add_one (Int.fmod_lt_of_pos _ (by decide))⟩); (case hd => (first | k_extra "m:room" | ktr_room)); (case hu => (first | k_extra "m:unit" | ktr_units)); (case hc => assumption); k_whole); ((first | (k_dflt (refine' (us5 neTok neHeap neNat neArr neLed ?z9sl ((?_ : L5 _ _ _ _ _ _) () ()) :); (case z9sl => k_extra "m:slot"); intros u8 t9 h' tk' ps' news' u9; clear u8 u9; k_extra "m:cl")) | (refine (sk5 neTok neHeap neNat neArr neLed ((?_ : ∀ (t9 : Tok) (h' : Heap) (tk' : Nat) (ps' : Array Value) (news' : Led), _) _ _ _ _ _) :); intros t9 h' tk' ps' news'))); intros F' N'; (try dsimp only); (try k_sweep)))
  trivial
theorem gen_K {M : Model} {A : Around} {α : Type} {c : Sem α} {Q : α → Shared → Prop} {E : Value → Shared → Prop} {s : Shared} (h : wpAny M A c (KT Q) E s) : wpAny M A c Q E s := by
  have e : KT Q = Q := by funext b s; unfold KT; rfl
  rw [e] at h
  exact h
theorem th_no {th : Int} (h : -1 ≤ th) (e : th = -2) : False := by omega
theorem law_end {s₀ s₁ : Shared} {ns : List Int} {g h' : Heap} {L : Addr} {m : Str → Option Value} {tk' : Nat} {b : Bool} (hb : b = true) (F : Fr g L h' m) (hg : s₁.gens = #[]) (hc1 : ¬((63 : Nat) : Int) < ((ns.length : Nat) : Int)) :
    GoodW PySem.Challenge.rw_kl0382_01.row.claim (classAt s₀.heap) (ExcName.means s₀.heap) [ofPy (PyData.list (List.map PyData.int ns))] { heap := g, gens := s₁.gens, drawn := s₁.drawn, toks := s₁.toks, os := s₁.os } (Except.ok (Flow.ret (Value.bool b))) { heap := h', gens := s₁.gens, drawn := s₁.drawn, toks := tk', os := s₁.os } := by
  subst hb
  wrow_close
theorem law_c : PySem.Challenge.rw_kl0382_01.Holds := by
  refine headK (by rfl) (by rfl) (by rfl) ?_
  unfold hookK
  k_go0
  rename_i w s₀ s₁ mg mb G Y fa o₀ pm cd doc ho hcd hg X V T B TE TW ns hs hlay0 hL0 hr0 hl20 w5 w4 Z vs w1 hL ra w10 r0 hI hr1 hc1 hc2 hD h₁ tk₁ o₁ hcell X0 X' T' K' F' N' l0
  clear X0 hD hlay0 hr0 hl20 hc2
  (revert w s₀ s₁ mg mb fa o₀ pm cd doc ns w5 w4 Z vs w1 h₁ tk₁ o₁; apply @And.left _ True; refine ((?_ : KK 69 _ _ _ → KK 68 _ _ _ → KK 67 _ _ _ → KK 66 _ _ _ → KK 65 _ _ _ → KK 64 _ _ _ → KK 63 _ _ _ → KK 62 _ _ _ → KK 61 _ _ _ → KK 60 _ _ _ → KK 59 _ _ _ → KK 58 _ _ _ → KK 57 _ _ _ → KK 56 _ _ _ → KK 55 _ _ _ → KK 54 _ _ _ → KK 53 _ _ _ → KK 52 _ _ _ → KK 51 _ _ _ → KK 50 _ _ _ → KK 49 _ _ _ → KK 48 _ _ _ → KK 47 _ _ _ → KK 46 _ _ _ → KK 45 _ _ _ → KK 44 _ _ _ → KK 43 _ _ _ → KK 42 _ _ _ → KK 41 _ _ _ → KK 40 _ _ _ → KK 39 _ _ _ → KK 38 _ _ _ → KK 37 _ _ _ → KK 36 _ _ _ → KK 35 _ _ _ → KK 34 _ _ _ → KK 33 _ _ _ → KK 32 _ _ _ → KK 31 _ _ _ → KK 30 _ _ _ → KK 29 _ _ _ → KK 28 _ _ _ → KK 27 _ _ _ → KK 26 _ _ _ → KK 25 _ _ _ → KK 24 _ _ _ → KK 23 _ _ _ → KK 22 _ _ _ → KK 21 _ _ _ → KK 20 _ _ _ → KK 19 _ _ _ → KK 18 _ _ _ → KK 17 _ _ _ → KK 16 _ _ _ → KK 15 _ _ _ → KK 14 _ _ _ → KK 13 _ _ _ → KK 12 _ _ _ → KK 11 _ _ _ → KK 10 _ _ _ → KK 9 _ _ _ → KK 8 _ _ _ → KK 7 _ _ _ → KK 6 _ _ _ → KK 5 _ _ _ → KK 4 _ _ _ → KK 3 _ _ _ → KK 2 _ _ _ → KK 1 _ _ _ → KK 0 _ _ _ → _ ∧ True) ?jj69 ?jj68 ?jj67 ?jj66 ?jj65 ?jj64 ?jj63 ?jj62 ?jj61 ?jj60 ?jj59 ?jj58 ?jj57 ?jj56 ?jj55 ?jj54 ?jj53 ?jj52 ?jj51 ?jj50 ?jj49 ?jj48 ?jj47 ?jj46 ?jj45 ?jj44 ?jj43 ?jj42 ?jj41 ?jj40 ?jj39 ?jj38 ?jj37 ?jj36 ?jj35 ?jj34 ?jj33 ?jj32 ?jj31 ?jj30 ?jj29 ?jj28 ?jj27 ?jj26 ?jj25 ?jj24 ?jj23 ?jj22 ?jj21 ?jj20 ?jj19 ?jj18 ?jj17 ?jj16 ?jj15 ?jj14 ?jj13 ?jj12 ?jj11 ?jj10 ?jj9 ?jj8 ?jj7 ?jj6 ?jj5 ?jj4 ?jj3 ?jj2 ?jj1 ?jj0); intros jj69 jj68 jj67 jj66 jj65 jj64 jj63 jj62 jj61 jj60 jj59 jj58 jj57 jj56 jj55 jj54 jj53 jj52 jj51 jj50 jj49 jj48 jj47 jj46 jj45 jj44 jj43 jj42 jj41 jj40 jj39 jj38 jj37 jj36 jj35 jj34 jj33 jj32 jj31 jj30 jj29 jj28 jj27 jj26 jj25 jj24 jj23 jj22 jj21 jj20 jj19 jj18 jj17 jj16 jj15 jj14 jj13 jj12 jj11 jj10 jj9 jj8 jj7 jj6 jj5 jj4 jj3 jj2 jj1 jj0; (k_with "q0" => try clear jj0); (k_with "q1" => try (clear jj1; k_extra "q0")); (k_with "q2" => try (clear jj2; k_extra "q1")); (k_with "q3" => try (clear jj3; k_extra "q2")); (k_with "q4" => try (clear jj4; k_extra "q3")); (k_with "q5" => try (clear jj5; k_extra "q4")); (k_with "q6" => try (clear jj6; k_extra "q5")); (k_with "q7" => try (clear jj7; k_extra "q6")); (k_with "q8" => try (clear jj8; k_extra "q7")); (k_with "q9" => try (clear jj9; k_extra "q8")); (k_with "q10" => try (clear jj10; k_extra "q9")); (k_with "q11" => try (clear jj11; k_extra "q10")); (k_with "q12" => try (clear jj12; k_extra "q11")); (k_with "q13" => try (clear jj13; k_extra "q12")); (k_with "q14" => try (clear jj14; k_extra "q13")); (k_with "q15" => try (clear jj15; k_extra "q14")); (k_with "q16" => try (clear jj16; k_extra "q15")); (k_with "q17" => try (clear jj17; k_extra "q16")); (k_with "q18" => try (clear jj18; k_extra "q17")); (k_with "q19" => try (clear jj19; k_extra "q18")); (k_with "q20" => try (clear jj20; k_extra "q19")); (k_with "q21" => try (clear jj21; k_extra "q20")); (k_with "q22" => try (clear jj22; k_extra "q21")); (k_with "q23" => try (clear jj23; k_extra "q22")); (k_with "q24" => try (clear jj24; k_extra "q23")); (k_with "q25" => try (clear jj25; k_extra "q24")); (k_with "q26" => try (clear jj26; k_extra "q25")); (k_with "q27" => try (clear jj27; k_extra "q26")); (k_with "q28" => try (clear jj28; k_extra "q27")); (k_with "q29" => try (clear jj29; k_extra "q28")); (k_with "q30" => try (clear jj30; k_extra "q29")); (k_with "q31" => try (clear jj31; k_extra "q30")); (k_with "q32" => try (clear jj32; k_extra "q31")); (k_with "q33" => try (clear jj33; k_extra "q32")); (k_with "q34" => try (clear jj34; k_extra "q33")); (k_with "q35" => try (clear jj35; k_extra "q34")); (k_with "q36" => try (clear jj36; k_extra "q35")); (k_with "q37" => try (clear jj37; k_extra "q36")); (k_with "q38" => try (clear jj38; k_extra "q37")); (k_with "q39" => try (clear jj39; k_extra "q38")); (k_with "q40" => try (clear jj40; k_extra "q39")); (k_with "q41" => try (clear jj41; k_extra "q40")); (k_with "q42" => try (clear jj42; k_extra "q41")); (k_with "q43" => try (clear jj43; k_extra "q42")); (k_with "q44" => try (clear jj44; k_extra "q43")); (k_with "q45" => try (clear jj45; k_extra "q44")); (k_with "q46" => try (clear jj46; k_extra "q45")); (k_with "q47" => try (clear jj47; k_extra "q46")); (k_with "q48" => try (clear jj48; k_extra "q47")); (k_with "q49" => try (clear jj49; k_extra "q48")); (k_with "q50" => try (clear jj50; k_extra "q49")); (k_with "q51" => try (clear jj51; k_extra "q50")); (k_with "q52" => try (clear jj52; k_extra "q51")); (k_with "q53" => try (clear jj53; k_extra "q52")); (k_with "q54" => try (clear jj54; k_extra "q53")); (k_with "q55" => try (clear jj55; k_extra "q54")); (k_with "q56" => try (clear jj56; k_extra "q55")); (k_with "q57" => try (clear jj57; k_extra "q56")); (k_with "q58" => try (clear jj58; k_extra "q57")); (k_with "q59" => try (clear jj59; k_extra "q58")); (k_with "q60" => try (clear jj60; k_extra "q59")); (k_with "q61" => try (clear jj61; k_extra "q60")); (k_with "q62" => try (clear jj62; k_extra "q61")); (k_with "q63" => try (clear jj63; k_extra "q62")); (k_with "q64" => try (clear jj64; k_extra "q63")); (k_with "q65" => try (clear jj65; k_extra "q64")); (k_with "q66" => try (clear jj66; k_extra "q65")); (k_with "q67" => try (clear jj67; k_extra "q66")); (k_with "q68" => try (clear jj68; k_extra "q67")); (k_with "q69" => try (clear jj69; k_extra "q68")); (k_with "m:slot" => (exact jj0; (k_with "m:cl" => k_extra "q0"); (k_with "m:slot" => (exact jj1; (k_with "m:cl" => k_extra "q1"); (k_with "m:slot" => (exact jj2; (k_with "m:cl" => k_extra "q2"); (k_with "m:slot" => (exact jj3; (k_with "m:cl" => k_extra "q3"); (k_with "m:slot" => (exact jj4; (k_with "m:cl" => k_extra "q4"); (k_with "m:slot" => (exact jj5; (k_with "m:cl" => k_extra "q5"); (k_with "m:slot" => (exact jj6; (k_with "m:cl" => k_extra "q6"); (k_with "m:slot" => (exact jj7; (k_with "m:cl" => k_extra "q7"); (k_with "m:slot" => (exact jj8; (k_with "m:cl" => k_extra "q8"); (k_with "m:slot" => (exact jj9; (k_with "m:cl" => k_extra "q9"); (k_with "m:slot" => (exact jj10; (k_with "m:cl" => k_extra "q10"); (k_with "m:slot" => (exact jj11; (k_with "m:cl" => k_extra "q11"); (k_with "m:slot" => (exact jj12; (k_with "m:cl" => k_extra "q12"); (k_with "m:slot" => (exact jj13; (k_with "m:cl" => k_extra "q13"); (k_with "m:slot" => (exact jj14; (k_with "m:cl" => k_extra "q14"); (k_with "m:slot" => (exact jj15; (k_with "m:cl" => k_extra "q15"); (k_with "m:slot" => (exact jj16; (k_with "m:cl" => k_extra "q16"); (k_with "m:slot" => (exact jj17; (k_with "m:cl" => k_extra "q17"); (k_with "m:slot" => (exact jj18; (k_with "m:cl" => k_extra "q18"); (k_with "m:slot" => (exact jj19; (k_with "m:cl" => k_extra "q19"); (k_with "m:slot" => (exact jj20; (k_with "m:cl" => k_extra "q20"); (k_with "m:slot" => (exact jj21; (k_with "m:cl" => k_extra "q21"); (k_with "m:slot" => (exact jj22; (k_with "m:cl" => k_extra "q22"); (k_with "m:slot" => (exact jj23; (k_with "m:cl" => k_extra "q23"); (k_with "m:slot" => (exact jj24; (k_with "m:cl" => k_extra "q24"); (k_with "m:slot" => (exact jj25; (k_with "m:cl" => k_extra "q25"); (k_with "m:slot" => (exact jj26; (k_with "m:cl" => k_extra "q26"); (k_with "m:slot" => (exact jj27; (k_with "m:cl" => k_extra "q27"); (k_with "m:slot" => (exact jj28; (k_with "m:cl" => k_extra "q28"); (k_with "m:slot" => (exact jj29; (k_with "m:cl" => k_extra "q29"); (k_with "m:slot" => (exact jj30; (k_with "m:cl" => k_extra "q30"); (k_with "m:slot" => (exact jj31; (k_with "m:cl" => k_extra "q31"); (k_with "m:slot" => (exact jj32; (k_with "m:cl" => k_extra "q32"); (k_with "m:slot" => (exact jj33; (k_with "m:cl" => k_extra "q33"); (k_with "m:slot" => (exact jj34; (k_with "m:cl" => k_extra "q34"); (k_with "m:slot" => (exact jj35; (k_with "m:cl" => k_extra "q35"); (k_with "m:slot" => (exact jj36; (k_with "m:cl" => k_extra "q36"); (k_with "m:slot" => (exact jj37; (k_with "m:cl" => k_extra "q37"); (k_with "m:slot" => (exact jj38; (k_with "m:cl" => k_extra "q38"); (k_with "m:slot" => (exact jj39; (k_with "m:cl" => k_extra "q39"); (k_with "m:slot" => (exact jj40; (k_with "m:cl" => k_extra "q40"); (k_with "m:slot" => (exact jj41; (k_with "m:cl" => k_extra "q41"); (k_with "m:slot" => (exact jj42; (k_with "m:cl" => k_extra "q42"); (k_with "m:slot" => (exact jj43; (k_with "m:cl" => k_extra "q43"); (k_with "m:slot" => (exact jj44; (k_with "m:cl" => k_extra "q44"); (k_with "m:slot" => (exact jj45; (k_with "m:cl" => k_extra "q45"); (k_with "m:slot" => (exact jj46; (k_with "m:cl" => k_extra "q46"); (k_with "m:slot" => (exact jj47; (k_with "m:cl" => k_extra "q47"); (k_with "m:slot" => (exact jj48; (k_with "m:cl" => k_extra "q48"); (k_with "m:slot" => (exact jj49; (k_with "m:cl" => k_extra "q49"); (k_with "m:slot" => (exact jj50; (k_with "m:cl" => k_extra "q50"); (k_with "m:slot" => (exact jj51; (k_with "m:cl" => k_extra "q51"); (k_with "m:slot" => (exact jj52; (k_with "m:cl" => k_extra "q52"); (k_with "m:slot" => (exact jj53; (k_with "m:cl" => k_extra "q53"); (k_with "m:slot" => (exact jj54; (k_with "m:cl" => k_extra "q54"); (k_with "m:slot" => (exact jj55; (k_with "m:cl" => k_extra "q55"); (k_with "m:slot" => (exact jj56; (k_with "m:cl" => k_extra "q56"); (k_with "m:slot" => (exact jj57; (k_with "m:cl" => k_extra "q57"); (k_with "m:slot" => (exact jj58; (k_with "m:cl" => k_extra "q58"); (k_with "m:slot" => (exact jj59; (k_with "m:cl" => k_extra "q59"); (k_with "m:slot" => (exact jj60; (k_with "m:cl" => k_extra "q60"); (k_with "m:slot" => (exact jj61; (k_with "m:cl" => k_extra "q61"); (k_with "m:slot" => (exact jj62; (k_with "m:cl" => k_extra "q62"); (k_with "m:slot" => (exact jj63; (k_with "m:cl" => k_extra "q63"); (k_with "m:slot" => (exact jj64; (k_with "m:cl" => k_extra "q64"); (k_with "m:slot" => (exact jj65; (k_with "m:cl" => k_extra "q65"); (k_with "m:slot" => (exact jj66; (k_with "m:cl" => k_extra "q66"); (k_with "m:slot" => (exact jj67; (k_with "m:cl" => k_extra "q67"); (k_with "m:slot" => (exact jj68; (k_with "m:cl" => k_extra "q68"); (k_with "m:slot" => (exact jj69; (k_with "m:cl" => k_extra "q69"); (k_with "m:slot" => fail "no slot"))))))))))))))))))))))))))))))))))))))))))))))))))))))))))))))))))))))))))))))))))))))))))))))))))))))))))))))))))))))))))))))))))))))))))))); (k_with "m:clr" => skip); refine ⟨?main, trivial⟩; (first | (k_dflt (refine' (us5 neW neSh neSh neFr neFr ?z9sl ((?_ : L5 _ _ _ _ _ _) () ()) :); (case z9sl => k_extra "m:slot"); intros u8 w s₀ s₁ mg mb u9; clear u8 u9; k_extra "m:cl")) | (refine (sk5 neW neSh neSh neFr neFr ((?_ : ∀ (w : World) (s₀ : Shared) (s₁ : Shared) (mg : Str → Option Value) (mb : Str → Option Value), _) _ _ _ _ _) :); intros w s₀ s₁ mg mb)); intros G Y; (first | (k_dflt (refine' (us5 neNat neObj neVal neVal neVal ?z9sl ((?_ : L5 _ _ _ _ _ _) () ()) :); (case z9sl => k_extra "m:slot"); intros u8 fa o₀ pm cd doc u9; clear u8 u9; k_extra "m:cl")) | (refine (sk5 neNat neObj neVal neVal neVal ((?_ : ∀ (fa : Addr) (o₀ : Obj) (pm : Value) (cd : Value) (doc : Value), _) _ _ _ _ _) :); intros fa o₀ pm cd doc)); intros ho hcd hg hT8 X V T B TE TW hT9; (first | (k_dflt (refine' (us1 neList ?z9sl ((?_ : L1 _ _) () ()) :); (case z9sl => k_extra "m:slot"); intros u8 ns u9; clear u8 u9; k_extra "m:cl")) | (refine (sk1 neList ((?_ : ∀ (ns : List Int), _) _) :); intros ns)); intros hs hL0; (first | (k_dflt (refine' (us5 neList neList neNat neLv neList ?z9sl ((?_ : L5 _ _ _ _ _ _) () ()) :); (case z9sl => k_extra "m:slot"); intros u8 w5 w4 Z vs w1 u9; clear u8 u9; k_extra "m:cl")) | (refine (sk5 neList neList neNat neLv neList ((?_ : ∀ (w5 : List Addr) (w4 : List Addr) (Z : Addr) (vs : List Value) (w1 : List Addr), _) _ _ _ _ _) :); intros w5 w4 Z vs w1)); intros hL ra w10 r0 hI hr1 hc1; (first | (k_dflt (refine' (us3 neHeap neNat neObj ?z9sl ((?_ : L3 _ _ _ _) () ()) :); (case z9sl => k_extra "m:slot"); intros u8 h₁ tk₁ o₁ u9; clear u8 u9; k_extra "m:cl")) | (refine (sk3 neHeap neNat neObj ((?_ : ∀ (h₁ : Heap) (tk₁ : Nat) (o₁ : Obj), _) _ _ _) :); intros h₁ tk₁ o₁)); intros hcell X' T' K' F' lifted codeHd N' l0)
  case main =>
    refine gen_K ?_
    k_steps
    refine' Src2.intro (fun vs => IntsAre vs (octF (drawnF ((8649 + (pickNums ns (some (0 + ((0 : Nat) : Int))) (some 60) (some 3)).sum).fmod 12744)).1 (drawnF ((8649 + (pickNums ns (some (0 + ((0 : Nat) : Int))) (some 60) (some 3)).sum).fmod 12744)).2.1 (drawnF ((8649 + (pickNums ns (some (0 + ((0 : Nat) : Int))) (some 60) (some 3)).sum).fmod 12744)).2.2)) (fun vs => IntsAre vs (octF (drawnF ((4330 + (pickNums ns (some (0 + ((0 + 1 : Nat) : Int))) (some 60) (some 3)).sum).fmod 12744)).1 (drawnF ((4330 + (pickNums ns (some (0 + ((0 + 1 : Nat) : Int))) (some 60) (some 3)).sum).fmod 12744)).2.1 (drawnF ((4330 + (pickNums ns (some (0 + ((0 + 1 : Nat) : Int))) (some 60) (some 3)).sum).fmod 12744)).2.2)) ?hh ?F ?N ?m ?r1 ?r2 ?fin
    case hh => rfl
    case F => k_asm
    case N => k_asm
    case m => k_mem
    case r1 =>
      ((first | (k_dflt (refine' (us8 neHeap neNat neObj neNat neObj neNat neLv neFr ?z9sl ((?_ : L8 _ _ _ _ _ _ _ _ _) () ()) :); (case z9sl => k_extra "m:slot"); intros u8 g I oI C oC D ys m₂ u9; clear u8 u9; k_extra "m:cl")) | (refine (sk8 neHeap neNat neObj neNat neObj neNat neLv neFr ((?_ : ∀ (g : Heap) (I : Addr) (oI : Obj) (C : Addr) (oC : Obj) (D : Addr) (ys : List Value) (m₂ : Str → Option Value), _) _ _ _ _ _ _ _ _) :); intros g I oI C oC D ys m₂)); (first | (k_dflt (refine' (us3 neHeap neNat neQE ?z9sl ((?_ : L3 _ _ _ _) () ()) :); (case z9sl => k_extra "m:slot"); intros u8 h9 tk9 E' u9; clear u8 u9; k_extra "m:cl")) | (refine (sk3 neHeap neNat neQE ((?_ : ∀ (h9 : Heap) (tk9 : Nat) (E' : Value → Shared → Prop), _) _ _ _) :); intros h9 tk9 E')))
      intros hC hx F N off ne
      simp only [LCg.Off3, and_true] at off
      k_steps
      rename IntsAre _ (octF _ _ _) => hI9
      refine' Got2.intro ?F ?N ?sub ?n1 ?n2 ?n3 ?l hI9
      case F => k_asm
      case N => k_asm
      case sub => lcg_sub
      case n1 => k_extra "m:ne"
      case n2 => k_extra "m:ne"
      case n3 => k_extra "m:ne"
      case l => rw [hI9.length]; exact octF_len.2
    case r2 =>
      ((first | (k_dflt (refine' (us8 neHeap neNat neObj neNat neObj neNat neLv neFr ?z9sl ((?_ : L8 _ _ _ _ _ _ _ _ _) () ()) :); (case z9sl => k_extra "m:slot"); intros u8 g I oI C oC D ys m₂ u9; clear u8 u9; k_extra "m:cl")) | (refine (sk8 neHeap neNat neObj neNat neObj neNat neLv neFr ((?_ : ∀ (g : Heap) (I : Addr) (oI : Obj) (C : Addr) (oC : Obj) (D : Addr) (ys : List Value) (m₂ : Str → Option Value), _) _ _ _ _ _ _ _ _) :); intros g I oI C oC D ys m₂)); (first | (k_dflt (refine' (us3 neHeap neNat neQE ?z9sl ((?_ : L3 _ _ _ _) () ()) :); (case z9sl => k_extra "m:slot"); intros u8 h9 tk9 E' u9; clear u8 u9; k_extra "m:cl")) | (refine (sk3 neHeap neNat neQE ((?_ : ∀ (h9 : Heap) (tk9 : Nat) (E' : Value → Shared → Prop), _) _ _ _) :); intros h9 tk9 E')))
      intros hC hx F N off ne
      simp only [LCg.Off3, and_true] at off
      k_steps
      rename IntsAre _ (octF _ _ _) => hI9
      refine' Got2.intro ?F ?N ?sub ?n1 ?n2 ?n3 ?l hI9
      case F => k_asm
      case N => k_asm
      case sub => lcg_sub
      case n1 => k_extra "m:ne"
      case n2 => k_extra "m:ne"
      case n3 => k_extra "m:ne"
      case l => rw [hI9.length]; exact octF_len.2
    case fin =>
      ((first | (k_dflt (refine' (us3 neHeap neLv neLv ?z9sl ((?_ : L3 _ _ _ _) () ()) :); (case z9sl => k_extra "m:slot"); intros u8 g vs1 vs2 u9; clear u8 u9; k_extra "m:cl")) | (refine (sk3 neHeap neLv neLv ((?_ : ∀ (g : Heap) (vs1 : List Value) (vs2 : List Value), _) _ _ _) :); intros g vs1 vs2)))
      intros hv1 hv2
      k_steps
      all_goals unfold KT
      all_goals k_extra "m:clr"
      all_goals (try dsimp only)
      all_goals first
        | refine ⟨law_end (by first | rfl | exact beq_self_eq_true _) (by k_asm) hg hc1, ?_⟩
        | exact (th_no t1 (by with_reducible assumption)).elim
        | exact Bool.noConfusion ((hE (by with_reducible assumption)).symm.trans (by with_reducible assumption))
      all_goals k_steps
  (all_goals k_extra "m:pour"); (k_with "m:slot" => fail "no slot")
end PLaw
end Mine
set_option maxRecDepth 100000 in
theorem PySem.Challenge.cw_kl0382_01_holds : PySem.Challenge.rw_kl0382_01.Holds :=
  Mine.law_c
