import PyProof.Rows.All
import Wide.All
import OpenK.AllK
import Wide.FinOn
import Lean
import PySem.Challenge.RW_ku0020_01
section
open PySem PySem.W PyProof.Rows PySem.Calls
set_option Elab.async false
set_option maxRecDepth 100000
set_option maxHeartbeats 8000000
namespace Mine
abbrev pw : Program := PySem.Challenge.rw_ku0020_01.row.prog
noncomputable def vs (s : String) (t : Tok) : Value := .str (Str.ofString s) t
noncomputable def vi (i : Int) (t : Tok) : Value := .int i t
noncomputable def vr (a : Addr) : Value := .ref a
noncomputable def vn : Value := .none
noncomputable def st (s : String) : Str := Str.ofString s
noncomputable def en (P : Params) (k : String) (t : Tok) (v : Value) : DictEntry := ⟨PyData.keyHash P (Str.ofString k), .str (Str.ofString k) t, v⟩
noncomputable def nth : Nat → List Stmt → Stmt
  | 0, s :: _ => s
  | n + 1, _ :: r => nth n r
  | _, [] => .Pass (.mk 0 0 0 0)
noncomputable def fdP : Stmt → Arguments
  | .FunctionDef _ a _ _ _ _ _ _ _ _ => a
  | _ => ⟨[], [], none, [], [], none, []⟩
noncomputable def fdB : Stmt → List Stmt
  | .FunctionDef _ _ b _ _ _ _ _ _ _ => b
  | .ClassDef _ _ _ b _ _ _ _ _ _ _ => b
  | _ => []
noncomputable def fdS : Stmt → Scope
  | .FunctionDef _ _ _ _ _ _ s _ _ _ => s
  | _ => pw.main.scope
noncomputable def sT (i : Nat) : Stmt := nth i pw.main.body
noncomputable def sC (i j : Nat) : Stmt := nth j (fdB (sT i))
noncomputable def fn (s : Stmt) (nm qn : String) (gl : Addr) (clo : List (Str × Addr)) (df kd dc md : Value) (an : Option Addr) (cd ct : Value) (bl : Addr) : FuncData :=
  ⟨Str.ofString nm, Str.ofString qn, fdP s, .stmts (fdB s), fdS s, gl, clo, df, kd, dc, md, an, cd, ct, bl⟩
noncomputable def b0 (P : Params) : Obj := ⟨(.type "dict"), none, (.dict #[(en P "__name__" 1 (vs "builtins" 160)), (en P "__doc__" 2 (.builtin "builtins.__doc__:str#opaque")), (en P "__package__" 3 (.builtin "builtins.__package__:str#opaque")), (en P "__loader__" 4 (.builtin "builtins.__loader__:shared#opaque")), (en P "__spec__" 5 (.builtin "builtins.__spec__#opaque")), (en P "__build_class__" 6 (.builtin "__build_class__")), (en P "__import__" 7 (.builtin "__import__")), (en P "abs" 8 (.builtin "abs")), (en P "all" 9 (.builtin "all")), (en P "any" 10 (.builtin "any")), (en P "ascii" 11 (.builtin "ascii")), (en P "bin" 12 (.builtin "bin")), (en P "breakpoint" 13 (.builtin "breakpoint")), (en P "callable" 14 (.builtin "callable")), (en P "chr" 15 (.builtin "chr")), (en P "compile" 16 (.builtin "compile")), (en P "delattr" 17 (.builtin "delattr")), (en P "dir" 18 (.builtin "dir")), (en P "divmod" 19 (.builtin "divmod")), (en P "eval" 20 (.builtin "eval")), (en P "exec" 21 (.builtin "exec")), (en P "format" 22 (.builtin "format")), (en P "getattr" 23 (.builtin "getattr")), (en P "globals" 24 (.builtin "globals")), (en P "hasattr" 25 (.builtin "hasattr")), (en P "hash" 26 (.builtin "hash")), (en P "hex" 27 (.builtin "hex")), (en P "id" 28 (.builtin "id")), (en P "input" 29 (.builtin "input")), (en P "isinstance" 30 (.builtin "isinstance")), (en P "issubclass" 31 (.builtin "issubclass")), (en P "iter" 32 (.builtin "iter")), (en P "aiter" 33 (.builtin "aiter")), (en P "len" 34 (.builtin "len")), (en P "locals" 35 (.builtin "locals")), (en P "max" 36 (.builtin "max")), (en P "min" 37 (.builtin "min")), (en P "next" 38 (.builtin "next")), (en P "anext" 39 (.builtin "anext")), (en P "oct" 40 (.builtin "oct")), (en P "ord" 41 (.builtin "ord")), (en P "pow" 42 (.builtin "pow")), (en P "print" 43 (.builtin "print")), (en P "repr" 44 (.builtin "repr")), (en P "round" 45 (.builtin "round")), (en P "setattr" 46 (.builtin "setattr")), (en P "sorted" 47 (.builtin "sorted")), (en P "sum" 48 (.builtin "sum")), (en P "vars" 49 (.builtin "vars")), (en P "None" 50 vn), (en P "Ellipsis" 51 (.ellipsis)), (en P "NotImplemented" 52 (.notImplemented)), (en P "False" 53 (.bool false)), (en P "True" 54 (.bool true)), (en P "bool" 55 (.type "bool")), (en P "memoryview" 56 (.type "memoryview")), (en P "bytearray" 57 (.type "bytearray")), (en P "bytes" 58 (.type "bytes")), (en P "classmethod" 59 (.type "classmethod")), (en P "complex" 60 (.type "complex")), (en P "dict" 61 (.type "dict")), (en P "enumerate" 62 (.type "enumerate")), (en P "filter" 63 (.type "filter")), (en P "float" 64 (.type "float")), (en P "frozenset" 65 (.type "frozenset")), (en P "property" 66 (.type "property")), (en P "int" 67 (.type "int")), (en P "list" 68 (.type "list")), (en P "map" 69 (.type "map")), (en P "object" 70 (.type "object")), (en P "range" 71 (.type "range")), (en P "reversed" 72 (.type "reversed")), (en P "set" 73 (.type "set")), (en P "slice" 74 (.type "slice")), (en P "staticmethod" 75 (.type "staticmethod")), (en P "str" 76 (.type "str")), (en P "super" 77 (.type "super")), (en P "tuple" 78 (.type "tuple")), (en P "type" 79 (.type "type")), (en P "zip" 80 (.type "zip")), (en P "__debug__" 81 (.bool true)), (en P "BaseException" 82 (.type "BaseException")), (en P "BaseExceptionGroup" 83 (.type "BaseExceptionGroup")), (en P "Exception" 84 (.type "Exception")), (en P "GeneratorExit" 85 (.type "GeneratorExit")), (en P "KeyboardInterrupt" 86 (.type "KeyboardInterrupt")), (en P "SystemExit" 87 (.type "SystemExit")), (en P "ArithmeticError" 88 (.type "ArithmeticError")), (en P "AssertionError" 89 (.type "AssertionError")), (en P "AttributeError" 90 (.type "AttributeError")), (en P "BufferError" 91 (.type "BufferError")), (en P "EOFError" 92 (.type "EOFError")), (en P "ImportError" 93 (.type "ImportError")), (en P "LookupError" 94 (.type "LookupError")), (en P "MemoryError" 95 (.type "MemoryError")), (en P "NameError" 96 (.type "NameError")), (en P "OSError" 97 (.type "OSError")), (en P "ReferenceError" 98 (.type "ReferenceError")), (en P "RuntimeError" 99 (.type "RuntimeError")), (en P "StopAsyncIteration" 100 (.type "StopAsyncIteration")), (en P "StopIteration" 101 (.type "StopIteration")), (en P "SyntaxError" 102 (.type "SyntaxError")), (en P "SystemError" 103 (.type "SystemError")), (en P "TypeError" 104 (.type "TypeError")), (en P "ValueError" 105 (.type "ValueError")), (en P "Warning" 106 (.type "Warning")), (en P "FloatingPointError" 107 (.type "FloatingPointError")), (en P "OverflowError" 108 (.type "OverflowError")), (en P "ZeroDivisionError" 109 (.type "ZeroDivisionError")), (en P "BytesWarning" 110 (.type "BytesWarning")), (en P "DeprecationWarning" 111 (.type "DeprecationWarning")), (en P "EncodingWarning" 112 (.type "EncodingWarning")), (en P "FutureWarning" 113 (.type "FutureWarning")), (en P "ImportWarning" 114 (.type "ImportWarning")), (en P "PendingDeprecationWarning" 115 (.type "PendingDeprecationWarning")), (en P "ResourceWarning" 116 (.type "ResourceWarning")), (en P "RuntimeWarning" 117 (.type "RuntimeWarning")), (en P "SyntaxWarning" 118 (.type "SyntaxWarning")), (en P "UnicodeWarning" 119 (.type "UnicodeWarning")), (en P "UserWarning" 120 (.type "UserWarning")), (en P "BlockingIOError" 121 (.type "BlockingIOError")), (en P "ChildProcessError" 122 (.type "ChildProcessError")), (en P "ConnectionError" 123 (.type "ConnectionError")), (en P "FileExistsError" 124 (.type "FileExistsError")), (en P "FileNotFoundError" 125 (.type "FileNotFoundError")), (en P "InterruptedError" 126 (.type "InterruptedError")), (en P "IsADirectoryError" 127 (.type "IsADirectoryError")), (en P "NotADirectoryError" 128 (.type "NotADirectoryError")), (en P "PermissionError" 129 (.type "PermissionError")), (en P "ProcessLookupError" 130 (.type "ProcessLookupError")), (en P "TimeoutError" 131 (.type "TimeoutError")), (en P "IndentationError" 132 (.type "IndentationError")), (en P "_IncompleteInputError" 133 (.type "_IncompleteInputError")), (en P "IndexError" 134 (.type "IndexError")), (en P "KeyError" 135 (.type "KeyError")), (en P "ModuleNotFoundError" 136 (.type "ModuleNotFoundError")), (en P "NotImplementedError" 137 (.type "NotImplementedError")), (en P "PythonFinalizationError" 138 (.type "PythonFinalizationError")), (en P "RecursionError" 139 (.type "RecursionError")), (en P "UnboundLocalError" 140 (.type "UnboundLocalError")), (en P "UnicodeError" 141 (.type "UnicodeError")), (en P "BrokenPipeError" 142 (.type "BrokenPipeError")), (en P "ConnectionAbortedError" 143 (.type "ConnectionAbortedError")), (en P "ConnectionRefusedError" 144 (.type "ConnectionRefusedError")), (en P "ConnectionResetError" 145 (.type "ConnectionResetError")), (en P "TabError" 146 (.type "TabError")), (en P "UnicodeDecodeError" 147 (.type "UnicodeDecodeError")), (en P "UnicodeEncodeError" 148 (.type "UnicodeEncodeError")), (en P "UnicodeTranslateError" 149 (.type "UnicodeTranslateError")), (en P "ExceptionGroup" 150 (.type "ExceptionGroup")), (en P "EnvironmentError" 151 (.type "OSError")), (en P "IOError" 152 (.type "OSError")), (en P "open" 153 (.builtin "open")), (en P "quit" 154 (.builtin "builtins.quit#opaque")), (en P "exit" 155 (.builtin "builtins.exit#opaque")), (en P "copyright" 156 (.builtin "builtins.copyright#opaque")), (en P "credits" 157 (.builtin "builtins.credits#opaque")), (en P "license" 158 (.builtin "builtins.license#opaque")), (en P "help" 159 (.builtin "builtins.help#opaque"))] 159), #[]⟩
noncomputable def b1 (P : Params) : Obj := ⟨(.type "dict"), none, (.dict #[(en P "builtins" 162 (vr 4)), (en P "__main__" 163 (vr 5)), (en P "_sre" 244 (vr 12))] 3), #[]⟩
noncomputable def b2 (P : Params) : Obj := ⟨vn, none, (.dict #[(en P "\x69mport.loaded._sre" 183 (.bool true)), (en P "class._frozen_importlib.BuiltinImporter" 185 (vr 14)), (en P "watched.\x69mport" 206 (vr 18)), (en P "class._frozen_importlib.ModuleSpec" 216 (vr 22)), (en P "sys.modules.booked-epoch" 245 (vi 3 0)), (en P "\x69mport.later-laid._sre" 270 (.bool true)), (en P "watched.library" 272 (vr 27)), (en P "watched.library-objects" 0 (vs "\x0c" 0)), (en P "watched.library-deep._sre" 273 (vs "\x04\x00\x00\x0b\x04\x00\x00\x0b\x04\x00\x00\x03\x04\x00\x00\x0b\x08\x04dict\x02" 0))] 9), #[]⟩
noncomputable def b3 (P : Params) : Obj := ⟨(.type "dict"), none, (.dict #[(en P "__name__" 165 (vs "__main__" 164)), (en P "__doc__" 166 vn), (en P "__package__" 167 vn), (en P "__loader__" 168 (.builtin "__main__.__loader__#opaque")), (en P "__spec__" 169 vn), (en P "__annotations__" 170 (vr 6)), (en P "__builtins__" 171 (vr 4)), (en P "__file__" 173 (vs "/claim/cut.py" 172)), (en P "__cached__" 174 vn), (en P "_sre" 275 (vr 12))] 10), #[]⟩
noncomputable def b4 (P : Params) : Obj := ⟨(.type "module"), (some 0), (.plain), #[]⟩
noncomputable def b5 (P : Params) : Obj := ⟨(.type "module"), (some 3), (.plain), #[]⟩
noncomputable def b6 (P : Params) : Obj := ⟨(.type "dict"), none, (.dict #[] 0), #[]⟩
noncomputable def b7 (P : Params) : Obj := ⟨(.type "tuple"), none, (.seq #[] 0), #[]⟩
noncomputable def b8 (P : Params) : Obj := ⟨vn, none, (.fields #[]), #[]⟩
noncomputable def b9 (P : Params) : Obj := ⟨(.type "code"), none, (.fields #[(vs "<module>" 176), (vs "<module>" 177), (vs "/claim/cut.py" 178), (vi 1 0), (vi 0 0), (vi 0 0), (vi 0 0), (vi 0 0), (vr 7), (.bool false), (vi 175 0), (vr 8), vn, vn, vn, vn, (vi 179 0), (vi 1 0), (vs "/claim/cut.py" 180)]), #[]⟩
noncomputable def b10 (P : Params) : Obj := ⟨(.type "frame"), none, (.plain), #[(some (vr 9)), (some (vr 3)), (some (vr 3)), none, (some (vs "__main__" 164)), none, (some (vr 0))]⟩
noncomputable def b11 (P : Params) : Obj := ⟨(.type "dict"), none, (.dict #[(en P "__name__" 247 (vs "_sre" 246)), (en P "__doc__" 248 vn), (en P "__package__" 250 (vs "" 249)), (en P "__loader__" 251 (.builtin "off-the-table:_sre.__loader__:shared#opaque")), (en P "__spec__" 252 (.builtin "off-the-table:_sre.__spec__:shared#opaque")), (en P "compile" 253 (.builtin "_sre.compile")), (en P "template" 254 (.builtin "off-the-table:_sre.template:shared#opaque")), (en P "getcodesize" 255 (.builtin "off-the-table:_sre.getcodesize:shared#opaque")), (en P "ascii_iscased" 256 (.builtin "off-the-table:_sre.ascii_iscased:shared#opaque")), (en P "unicode_iscased" 257 (.builtin "off-the-table:_sre.unicode_iscased:shared#opaque")), (en P "ascii_tolower" 258 (.builtin "off-the-table:_sre.ascii_tolower:shared#opaque")), (en P "unicode_tolower" 259 (.builtin "off-the-table:_sre.unicode_tolower:shared#opaque")), (en P "MAGIC" 261 (vi 20230612 260)), (en P "CODESIZE" 263 (vi 4 262)), (en P "MAXREPEAT" 265 (vi 4294967295 264)), (en P "MAXGROUPS" 267 (vi 1073741823 266)), (en P "copyright" 269 (vs " SRE 2.2.2 Copyright (c) 1997-2002 by Secret Labs AB " 268))] 17), #[]⟩
noncomputable def b12 (P : Params) : Obj := ⟨(.type "module"), (some 11), (.plain), #[]⟩
noncomputable def b13 (P : Params) : Obj := ⟨(.type "dict"), none, (.dict #[(en P "__module__" 189 (vs "_frozen_importlib" 186)), (en P "__firstlineno__" 190 (vi 971 187)), (en P "__doc__" 191 (.builtin "_frozen_importlib.BuiltinImporter.__doc__:str#opaque")), (en P "_ORIGIN" 192 (vs "built-in" 188)), (en P "find_spec" 193 (.builtin "_frozen_importlib.BuiltinImporter.find_spec#opaque")), (en P "create_module" 194 (.builtin "_frozen_importlib.BuiltinImporter.create_module#opaque")), (en P "exec_module" 195 (.builtin "_frozen_importlib.BuiltinImporter.exec_module#opaque")), (en P "get_code" 196 (.builtin "_frozen_importlib.BuiltinImporter.get_code#opaque")), (en P "get_source" 197 (.builtin "_frozen_importlib.BuiltinImporter.get_source#opaque")), (en P "is_package" 198 (.builtin "_frozen_importlib.BuiltinImporter.is_package#opaque")), (en P "load_module" 199 (.builtin "_frozen_importlib.BuiltinImporter.load_module#opaque")), (en P "__static_attributes__" 200 (vr 15)), (en P "__dict__" 202 (vr 16)), (en P "__weakref__" 204 (vr 17))] 14), #[]⟩
noncomputable def b14 (P : Params) : Obj := ⟨(.type "type"), none, (.cls (.mk (st "BuiltinImporter") [(.type "object")] [(vr 14), (.type "object")] 13 (st "BuiltinImporter") true [] [] false none false)), #[]⟩
noncomputable def b15 (P : Params) : Obj := ⟨(.type "getset_descriptor"), none, (.fields #[(vs "__dict__" 201), (vr 14), (.builtin "function.__dict__"), (.builtin "function.__dict__#set")]), #[]⟩
noncomputable def b16 (P : Params) : Obj := ⟨(.type "getset_descriptor"), none, (.fields #[(vs "__weakref__" 203), (vr 14), (.builtin "ExceptionGroup.__weakref__"), vn]), #[]⟩
noncomputable def b17 (P : Params) : Obj := ⟨vn, none, (.seq #[(vi 13 0), (vs "\x06½\n__module__\x06º\x11_frozen_importlib\x06¾\x0f__firstlineno__\x04»\x00ϋ\x06¿\x07__doc__\t4_frozen_importlib.BuiltinImporter.__doc__:str#opaque\x06À\x07_ORIGIN\x06¼\x08built-in\x06Á\tfind_spec\t2_frozen_importlib.BuiltinImporter.find_spec#opaque\x06Â\x0dcreate_module\t6_frozen_importlib.BuiltinImporter.create_module#opaque\x06Ã\x0bexec_module\t4_frozen_importlib.BuiltinImporter.exec_module#opaque\x06Ä\x08get_code\t1_frozen_importlib.BuiltinImporter.get_code#opaque\x06Å\nget_source\t3_frozen_importlib.BuiltinImporter.get_source#opaque\x06Æ\nis_package\t3_frozen_importlib.BuiltinImporter.is_package#opaque\x06Ç\x0bload_module\t4_frozen_importlib.BuiltinImporter.load_module#opaque\x06È\x15__static_attributes__\x04\x00\x00\x0f\x06Ê\x08__dict__\x04\x00\x00\x10\x06Ì\x0b__weakref__\x04\x00\x00\x11" 0), (.bool true), (.bool true), (vs "" 205), (vi 21 0), (vs "\x06ã\n__module__\x06Ù\x11_frozen_importlib\x06ä\x0f__firstlineno__\x04Ú\x00Ȳ\x06å\x07__doc__\t/_frozen_importlib.ModuleSpec.__doc__:str#opaque\x06æ\x08__init__\t,_frozen_importlib.ModuleSpec.__init__#opaque\x06ç\x08__repr__\t,_frozen_importlib.ModuleSpec.__repr__#opaque\x06è\x06__eq__\t*_frozen_importlib.ModuleSpec.__eq__#opaque\x06é\x06cached\t*_frozen_importlib.ModuleSpec.cached#opaque\x06ê\x06parent\t*_frozen_importlib.ModuleSpec.parent#opaque\x06ë\x0chas_location\t0_frozen_importlib.ModuleSpec.has_location#opaque\x06ì\x15__static_attributes__\x04\x00\x00\x17\x06î\x08__dict__\x04\x00\x00\x18\x06ð\x0b__weakref__\x04\x00\x00\x19\x06ñ\x08__hash__\x00" 0), (.bool true), (.bool true), (vs "" 242)] 1), #[]⟩
noncomputable def b18 (P : Params) : Obj := ⟨(.type "list"), none, (.seq #[] 0), #[]⟩
noncomputable def b19 (P : Params) : Obj := ⟨(.type "dict"), none, (.dict #[(en P "name" 208 (vs "_sre" 207)), (en P "loader" 209 (vr 14)), (en P "origin" 210 (vs "built-in" 184)), (en P "loader_state" 211 vn), (en P "submodule_search_locations" 212 vn), (en P "_uninitialized_submodules" 213 (vr 19)), (en P "_set_fileattr" 214 (.bool false)), (en P "_cached" 215 vn), (en P "_initializing" 243 (.bool false))] 9), #[]⟩
noncomputable def b20 (P : Params) : Obj := ⟨(.type "dict"), none, (.dict #[(en P "__module__" 227 (vs "_frozen_importlib" 217)), (en P "__firstlineno__" 228 (vi 562 218)), (en P "__doc__" 229 (.builtin "_frozen_importlib.ModuleSpec.__doc__:str#opaque")), (en P "__init__" 230 (.builtin "_frozen_importlib.ModuleSpec.__init__#opaque")), (en P "__repr__" 231 (.builtin "_frozen_importlib.ModuleSpec.__repr__#opaque")), (en P "__eq__" 232 (.builtin "_frozen_importlib.ModuleSpec.__eq__#opaque")), (en P "cached" 233 (.builtin "_frozen_importlib.ModuleSpec.cached#opaque")), (en P "parent" 234 (.builtin "_frozen_importlib.ModuleSpec.parent#opaque")), (en P "has_location" 235 (.builtin "_frozen_importlib.ModuleSpec.has_location#opaque")), (en P "__static_attributes__" 236 (vr 23)), (en P "__dict__" 238 (vr 24)), (en P "__weakref__" 240 (vr 25)), (en P "__hash__" 241 vn)] 13), #[]⟩
noncomputable def b21 (P : Params) : Obj := ⟨(.type "type"), none, (.cls (.mk (st "ModuleSpec") [(.type "object")] [(vr 22), (.type "object")] 21 (st "ModuleSpec") true [] [] false none false)), #[]⟩
noncomputable def b22 (P : Params) : Obj := ⟨(.type "tuple"), none, (.seq #[(vs "_cached" 219), (vs "_set_fileattr" 220), (vs "_uninitialized_submodules" 221), (vs "loader" 222), (vs "loader_state" 223), (vs "name" 224), (vs "origin" 225), (vs "submodule_search_locations" 226)] 0), #[]⟩
noncomputable def b23 (P : Params) : Obj := ⟨(.type "getset_descriptor"), none, (.fields #[(vs "__dict__" 237), (vr 22), (.builtin "function.__dict__"), (.builtin "function.__dict__#set")]), #[]⟩
noncomputable def b24 (P : Params) : Obj := ⟨(.type "getset_descriptor"), none, (.fields #[(vs "__weakref__" 239), (vr 22), (.builtin "ExceptionGroup.__weakref__"), vn]), #[]⟩
noncomputable def b25 (P : Params) : Obj := ⟨(vr 22), (some 20), (.plain), #[]⟩
noncomputable def b26 (P : Params) : Obj := ⟨vn, none, (.seq #[(vi 11 0), (.str (.mk #[6, 247, 8, 95, 95, 110, 97, 109, 101, 95, 95, 6, 246, 4, 95, 115, 114, 101, 6, 248, 7, 95, 95, 100, 111, 99, 95, 95, 0, 6, 250, 11, 95, 95, 112, 97, 99, 107, 97, 103, 101, 95, 95, 6, 249, 0, 6, 251, 10, 95, 95, 108, 111, 97, 100, 101, 114, 95, 95, 4, 0, 0, 14, 6, 252, 8, 95, 95, 115, 112, 101, 99, 95, 95, 4, 0, 0, 26, 6, 253, 7, 99, 111, 109, 112, 105, 108, 101, 9, 12, 95, 115, 114, 101, 46, 99, 111, 109, 112, 105, 108, 101, 6, 254, 8, 116, 101, 109, 112, 108, 97, 116, 101, 9, 13, 95, 115, 114, 101, 46, 116, 101, 109, 112, 108, 97, 116, 101, 6, 255, 11, 103, 101, 116, 99, 111, 100, 101, 115, 105, 122, 101, 9, 16, 95, 115, 114, 101, 46, 103, 101, 116, 99, 111, 100, 101, 115, 105, 122, 101, 6, 256, 13, 97, 115, 99, 105, 105, 95, 105, 115, 99, 97, 115, 101, 100, 9, 18, 95, 115, 114, 101, 46, 97, 115, 99, 105, 105, 95, 105, 115, 99, 97, 115, 101, 100, 6, 257, 15, 117, 110, 105, 99, 111, 100, 101, 95, 105, 115, 99, 97, 115, 101, 100, 9, 20, 95, 115, 114, 101, 46, 117, 110, 105, 99, 111, 100, 101, 95, 105, 115, 99, 97, 115, 101, 100, 6, 258, 13, 97, 115, 99, 105, 105, 95, 116, 111, 108, 111, 119, 101, 114, 9, 18, 95, 115, 114, 101, 46, 97, 115, 99, 105, 105, 95, 116, 111, 108, 111, 119, 101, 114, 6, 259, 15, 117, 110, 105, 99, 111, 100, 101, 95, 116, 111, 108, 111, 119, 101, 114, 9, 20, 95, 115, 114, 101, 46, 117, 110, 105, 99, 111, 100, 101, 95, 116, 111, 108, 111, 119, 101, 114, 6, 261, 5, 77, 65, 71, 73, 67, 4, 260, 0, 20230612, 6, 263, 8, 67, 79, 68, 69, 83, 73, 90, 69, 4, 262, 0, 4, 6, 265, 9, 77, 65, 88, 82, 69, 80, 69, 65, 84, 4, 264, 0, 4294967295, 6, 267, 9, 77, 65, 88, 71, 82, 79, 85, 80, 83, 4, 266, 0, 1073741823, 6, 269, 9, 99, 111, 112, 121, 114, 105, 103, 104, 116, 6, 268, 53, 32, 83, 82, 69, 32, 50, 46, 50, 46, 50, 32, 67, 111, 112, 121, 114, 105, 103, 104, 116, 32, 40, 99, 41, 32, 49, 57, 57, 55, 45, 50, 48, 48, 50, 32, 98, 121, 32, 83, 101, 99, 114, 101, 116, 32, 76, 97, 98, 115, 32, 65, 66, 32]) 0), (.bool true), (.bool false), (vs "_sre" 271)] 0), #[]⟩
noncomputable def b27 (P : Params) : Obj := ⟨(.type "code"), none, (.fields #[(vs "<module>" 277), (vs "<module>" 278), (vs "/claim/cut.py" 279), (vi 1 0), (vi 0 0), (vi 0 0), (vi 0 0), (vi 0 0), (vr 28), (.bool false), (vi 276 0), (vr 29), vn, vn, vn, vn, (vi 280 0), (vi 1 0), (vs "/claim/cut.py" 281)]), #[]⟩
noncomputable def b28 (P : Params) : Obj := ⟨(.type "frame"), none, (.plain), #[(some (vr 30)), (some (vr 3)), (some (vr 3)), none, (some (vs "__main__" 164)), none, (some (vr 0))]⟩
noncomputable def b29 (P : Params) : Obj := ⟨(.type "dict"), none, (.dict #[(en P "__name__" 165 (vs "re" 320)), (en P "__doc__" 166 vn), (en P "__package__" 167 vn), (en P "__loader__" 168 (.builtin "__main__.__loader__#opaque")), (en P "__spec__" 169 vn), (en P "__annotations__" 170 (vr 6)), (en P "__builtins__" 171 (vr 4)), (en P "__file__" 173 (vs "/claim/cut.py" 172)), (en P "__cached__" 174 vn), (en P "_sre" 275 (vr 12)), (en P "_twin_re_1" 319 (vr 36)), (en P "_special_chars_map" 467 (vr 38))] 12), #[]⟩
noncomputable def b30 (P : Params) : Obj := ⟨(.type "list"), none, (.seq #[(vi 14 285), (vi 14 286), (vi 4 287), (vi 1 288), (vi 1 289), (vi 9 290), (vi 0 291), (vi 64 292), (vi 0 293), (vi 1342177280 294), (vi 0 295), (vi 0 296), (vi 0 297), (vi 0 298), (vi 0 299), (vi 17 300), (vi 0 301), (vi 13 302), (vi 11 303), (vi 9 304), (vi 0 305), (vi 64 306), (vi 0 307), (vi 1342177280 308), (vi 0 309), (vi 0 310), (vi 0 311), (vi 0 312), (vi 0 313), (vi 17 314), (vi 1 315), (vi 1 316)] 0), #[]⟩
noncomputable def b31 (P : Params) : Obj := ⟨(.type "tuple"), none, (.seq #[vn, vn] 0), #[]⟩
noncomputable def b32 (P : Params) : Obj := ⟨(.type "tuple"), none, (.seq #[(vi 14 0), (vi 14 0), (vi 4 0), (vi 1 0), (vi 1 0), (vi 9 0), (vi 0 0), (vi 64 0), (vi 0 0), (vi 1342177280 0), (vi 0 0), (vi 0 0), (vi 0 0), (vi 0 0), (vi 0 0), (vi 17 0), (vi 0 0), (vi 13 0), (vi 11 0), (vi 9 0), (vi 0 0), (vi 64 0), (vi 0 0), (vi 1342177280 0), (vi 0 0), (vi 0 0), (vi 0 0), (vi 0 0), (vi 0 0), (vi 17 0), (vi 1 0), (vi 1 0)] 0), #[]⟩
noncomputable def b33 (P : Params) : Obj := ⟨(.type "re.Pattern"), none, (.fields #[(vs "([&~|])" 283), (vi 32 318), (vi 1 0), vn, vn, (vr 35), (vi 0 0)]), #[]⟩
noncomputable def b34 (P : Params) : Obj := ⟨(.type "bytes_iterator"), none, (.fields #[vn, (vi 24 0)]), #[]⟩
noncomputable def b35 (P : Params) : Obj := ⟨(.type "dict"), none, (.dict #[⟨40, (vi 40 323), (vs "\\(" 327)⟩, ⟨41, (vi 41 329), (vs "\\)" 333)⟩, ⟨91, (vi 91 335), (vs "\\[" 339)⟩, ⟨93, (vi 93 341), (vs "\\]" 345)⟩, ⟨123, (vi 123 347), (vs "\\{" 351)⟩, ⟨125, (vi 125 353), (vs "\\}" 357)⟩, ⟨63, (vi 63 359), (vs "\\?" 363)⟩, ⟨42, (vi 42 365), (vs "\\*" 369)⟩, ⟨43, (vi 43 371), (vs "\\+" 375)⟩, ⟨45, (vi 45 377), (vs "\\-" 381)⟩, ⟨124, (vi 124 383), (vs "\\|" 387)⟩, ⟨94, (vi 94 389), (vs "\\^" 393)⟩, ⟨36, (vi 36 395), (vs "\\$" 399)⟩, ⟨92, (vi 92 401), (vs "\\\\" 405)⟩, ⟨46, (vi 46 407), (vs "\\." 411)⟩, ⟨38, (vi 38 413), (vs "\\&" 417)⟩, ⟨126, (vi 126 419), (vs "\\~" 423)⟩, ⟨35, (vi 35 425), (vs "\\#" 429)⟩, ⟨32, (vi 32 431), (vs "\\ " 435)⟩, ⟨9, (vi 9 437), (vs "\\\t" 441)⟩, ⟨10, (vi 10 443), (vs "\\\n" 447)⟩, ⟨13, (vi 13 449), (vs "\\\x0d" 453)⟩, ⟨11, (vi 11 455), (vs "\\\x0b" 459)⟩, ⟨12, (vi 12 461), (vs "\\\x0c" 465)⟩] 24), #[]⟩
noncomputable def b36 (P : Params) : Obj := ⟨(.type "dict"), none, (.dict #[] 2), #[]⟩
noncomputable def b37 (P : Params) : Obj := ⟨(.type "StopIteration"), none, (.fields #[(vr 40), vn, vn, vn, (.bool false), vn]), #[]⟩
noncomputable def hS0 (P : Params) : Heap := ⟨#[b0 P, b1 P, b2 P, b3 P, b4 P, b5 P, b6 P, b7 P, b8 P, b9 P, b10 P, b11 P, b12 P, b13 P, b14 P, b7 P, b15 P, b16 P, b17 P, b18 P, b19 P, b20 P, b21 P, b22 P, b23 P, b24 P, b25 P, b26 P], (.mk [] [] [] 0 [] [] false #[] [] 0 false false false 0 [2000, 10, 10] false 0 true [] [] 0 false)⟩
noncomputable def hSa (P : Params) : Heap := ⟨#[b0 P, b1 P, b2 P, b3 P, b4 P, b5 P, b6 P, b7 P, b8 P, b9 P, b10 P, b11 P, b12 P, b13 P, b14 P, b7 P, b15 P, b16 P, b17 P, b18 P, b19 P, b20 P, b21 P, b22 P, b23 P, b24 P, b25 P, b26 P, b7 P, b8 P, b27 P, b28 P], (.mk [] [] [] 0 [] [] false #[] [] 0 false false false 0 [2000, 10, 10] false 0 true [] [] 0 false)⟩
noncomputable def hS3 (P : Params) : Heap := ⟨#[b0 P, b1 P, b2 P, b29 P, b4 P, b5 P, b6 P, b7 P, b8 P, b9 P, b10 P, b11 P, b12 P, b13 P, b14 P, b7 P, b15 P, b16 P, b17 P, b18 P, b19 P, b20 P, b21 P, b22 P, b23 P, b24 P, b25 P, b26 P, b7 P, b8 P, b27 P, b28 P, b30 P, b6 P, b31 P, b32 P, b33 P, b34 P, b35 P, b36 P, b7 P, b37 P], (.mk [] [] [] 0 [] [] false #[] [] 0 false false false 0 [2000, 10, 10] false 0 true [] [] 0 false)⟩
noncomputable def K0 (P : Params) : List Obj := [
  ⟨vn, none, (.dict #[(en P "\x69mport.loaded._sre" 183 (.bool true)), (en P "class._frozen_importlib.BuiltinImporter" 185 (vr 14)), (en P "watched.\x69mport" 206 (vr 18)), (en P "class._frozen_importlib.ModuleSpec" 216 (vr 22)), (en P "sys.modules.booked-epoch" 245 (vi 3 0)), (en P "\x69mport.later-laid._sre" 270 (.bool true)), (en P "watched.library" 272 (vr 27)), (en P "watched.library-objects" 0 (vs "\x0c" 0)), (en P "watched.library-deep._sre" 273 (vs "\x04\x00\x00\x0b\x04\x00\x00\x0b\x04\x00\x00\x03\x04\x00\x00\x0b\x08\x04dict\x02" 0))] 9), #[]⟩,
  ⟨(.type "dict"), none, (.dict #[(en P "__name__" 165 (vs "law_ku0020_01" 602)), (en P "__doc__" 166 vn), (en P "__package__" 167 vn), (en P "__loader__" 168 (.builtin "__main__.__loader__#opaque")), (en P "__spec__" 169 vn), (en P "__annotations__" 170 (vr 6)), (en P "__builtins__" 171 (vr 4)), (en P "__file__" 173 (vs "/claim/cut.py" 172)), (en P "__cached__" 174 vn), (en P "_sre" 275 (vr 12)), (en P "_twin_re_1" 319 (vr 36)), (en P "_special_chars_map" 467 (vr 38)), (en P "escape" 474 (vr 48)), (en P "_translate" 495 (vr 55)), (en P "filterfalse" 547 (vr 88)), (en P "_filter" 557 (vr 99)), (en P "heappush" 567 (vr 106)), (en P "heappop" 576 (vr 113)), (en P "_siftdown" 588 (vr 120)), (en P "_siftup" 601 (vr 127)), (en P "_law_held" 609 (vr 132)), (en P "_law_takes" 619 (vr 139)), (en P "_law_found" 625 (vr 144)), (en P "_law_least" 631 (vr 149)), (en P "_law_words" 637 (vr 154)), (en P "law" 643 (vr 159))] 26), #[]⟩,
  ⟨(.type "dict"), none, (.dict #[] 0), #[]⟩,
  ⟨(.type "dict"), none, (.dict #[(en P "__name__" 247 (vs "_sre" 246)), (en P "__doc__" 248 vn), (en P "__package__" 250 (vs "" 249)), (en P "__loader__" 251 (.builtin "off-the-table:_sre.__loader__:shared#opaque")), (en P "__spec__" 252 (.builtin "off-the-table:_sre.__spec__:shared#opaque")), (en P "compile" 253 (.builtin "_sre.compile")), (en P "template" 254 (.builtin "off-the-table:_sre.template:shared#opaque")), (en P "getcodesize" 255 (.builtin "off-the-table:_sre.getcodesize:shared#opaque")), (en P "ascii_iscased" 256 (.builtin "off-the-table:_sre.ascii_iscased:shared#opaque")), (en P "unicode_iscased" 257 (.builtin "off-the-table:_sre.unicode_iscased:shared#opaque")), (en P "ascii_tolower" 258 (.builtin "off-the-table:_sre.ascii_tolower:shared#opaque")), (en P "unicode_tolower" 259 (.builtin "off-the-table:_sre.unicode_tolower:shared#opaque")), (en P "MAGIC" 261 (vi 20230612 260)), (en P "CODESIZE" 263 (vi 4 262)), (en P "MAXREPEAT" 265 (vi 4294967295 264)), (en P "MAXGROUPS" 267 (vi 1073741823 266)), (en P "copyright" 269 (vs " SRE 2.2.2 Copyright (c) 1997-2002 by Secret Labs AB " 268))] 17), #[]⟩,
  ⟨(.type "module"), (some 11), (.plain), #[]⟩,
  ⟨(.type "tuple"), none, (.seq #[(vi 14 0), (vi 14 0), (vi 4 0), (vi 1 0), (vi 1 0), (vi 9 0), (vi 0 0), (vi 64 0), (vi 0 0), (vi 1342177280 0), (vi 0 0), (vi 0 0), (vi 0 0), (vi 0 0), (vi 0 0), (vi 17 0), (vi 0 0), (vi 13 0), (vi 11 0), (vi 9 0), (vi 0 0), (vi 64 0), (vi 0 0), (vi 1342177280 0), (vi 0 0), (vi 0 0), (vi 0 0), (vi 0 0), (vi 0 0), (vi 17 0), (vi 1 0), (vi 1 0)] 0), #[]⟩,
  ⟨(.type "re.Pattern"), none, (.fields #[(vs "([&~|])" 283), (vi 32 318), (vi 1 0), vn, vn, (vr 35), (vi 0 0)]), #[]⟩,
  ⟨(.type "dict"), none, (.dict #[⟨40, (vi 40 323), (vs "\\(" 327)⟩, ⟨41, (vi 41 329), (vs "\\)" 333)⟩, ⟨91, (vi 91 335), (vs "\\[" 339)⟩, ⟨93, (vi 93 341), (vs "\\]" 345)⟩, ⟨123, (vi 123 347), (vs "\\{" 351)⟩, ⟨125, (vi 125 353), (vs "\\}" 357)⟩, ⟨63, (vi 63 359), (vs "\\?" 363)⟩, ⟨42, (vi 42 365), (vs "\\*" 369)⟩, ⟨43, (vi 43 371), (vs "\\+" 375)⟩, ⟨45, (vi 45 377), (vs "\\-" 381)⟩, ⟨124, (vi 124 383), (vs "\\|" 387)⟩, ⟨94, (vi 94 389), (vs "\\^" 393)⟩, ⟨36, (vi 36 395), (vs "\\$" 399)⟩, ⟨92, (vi 92 401), (vs "\\\\" 405)⟩, ⟨46, (vi 46 407), (vs "\\." 411)⟩, ⟨38, (vi 38 413), (vs "\\&" 417)⟩, ⟨126, (vi 126 419), (vs "\\~" 423)⟩, ⟨35, (vi 35 425), (vs "\\#" 429)⟩, ⟨32, (vi 32 431), (vs "\\ " 435)⟩, ⟨9, (vi 9 437), (vs "\\\t" 441)⟩, ⟨10, (vi 10 443), (vs "\\\n" 447)⟩, ⟨13, (vi 13 449), (vs "\\\x0d" 453)⟩, ⟨11, (vi 11 455), (vs "\\\x0b" 459)⟩, ⟨12, (vi 12 461), (vs "\\\x0c" 465)⟩] 24), #[]⟩,
  ⟨(.type "tuple"), none, (.seq #[] 0), #[]⟩,
  ⟨(.type "tuple"), none, (.seq #[(vs "pattern" 471)] 0), #[]⟩,
  ⟨(.type "tuple"), none, (.seq #[] 0), #[]⟩,
  ⟨(.type "code"), none, (.fields #[(vs "escape" 468), (vs "escape" 469), (vs "/claim/cut.py" 470), (vi 5 0), (vi 1 0), (vi 0 0), (vi 0 0), (vi 3 0), (vr 42), (.bool true), (vi 276 0), (vr 43), vn, (vr 44), (vr 45), (vr 46), (vi 472 0), (vi 5 0), (vs "/claim/cut.py" 473)]), #[]⟩,
  ⟨(.type "function"), none, (.func (fn (sT 4) "escape" "escape" 3 [] vn vn vn (vs "re" 320) none (vr 47) vn 0)), #[]⟩,
  ⟨(.type "tuple"), none, (.seq #[] 0), #[]⟩,
  ⟨(.type "tuple"), none, (.seq #[(vs "pat" 480), (vs "STAR" 481), (vs "QUESTION_MARK" 482), (vs "res" 483), (vs "add" 484), (vs "i" 485), (vs "n" 486), (vs "c" 487), (vs "j" 488), (vs "stuff" 489), (vs "chunks" 490), (vs "k" 491), (vs "chunk" 492)] 0), #[]⟩,
  ⟨(.type "tuple"), none, (.seq #[] 0), #[]⟩,
  ⟨(.type "code"), none, (.fields #[(vs "_translate" 477), (vs "_translate" 478), (vs "/claim/cut.py" 479), (vi 12 0), (vi 3 0), (vi 0 0), (vi 0 0), (vi 3 0), (vr 49), (.bool true), (vi 276 0), (vr 50), vn, (vr 51), (vr 52), (vr 53), (vi 493 0), (vi 12 0), (vs "/claim/cut.py" 494)]), #[]⟩,
  ⟨(.type "function"), none, (.func (fn (sT 6) "_translate" "_translate" 3 [] vn vn vn (vs "cpy313.fnmatch" 475) none (vr 54) vn 0)), #[]⟩,
  ⟨(.type "tuple"), none, (.seq #[(vs "_it" 510), (vs "_func" 511)] 0), #[]⟩,
  ⟨(.type "tuple"), none, (.seq #[] 0), #[]⟩,
  ⟨(.type "tuple"), none, (.seq #[(vs "self" 516), (vs "function" 517), (vs "iterable" 518)] 0), #[]⟩,
  ⟨(.type "tuple"), none, (.seq #[] 0), #[]⟩,
  ⟨(.type "code"), none, (.fields #[(vs "__init__" 513), (vs "filterfalse.__init__" 514), (vs "/claim/cut.py" 515), (vi 78 0), (vi 3 0), (vi 3 0), (vi 0 0), (vi 3 0), (vr 64), (.bool true), (vi 276 0), (vr 65), vn, (vr 66), (vr 67), (vr 68), (vi 519 0), (vi 78 0), (vs "/claim/cut.py" 520)]), #[]⟩,
  ⟨(.type "function"), none, (.func (fn (sC 8 1) "__init__" "filterfalse.__init__" 3 [] vn vn vn (vs "itertools" 496) none (vr 69) vn 0)), #[]⟩,
  ⟨(.type "tuple"), none, (.seq #[] 0), #[]⟩,
  ⟨(.type "tuple"), none, (.seq #[(vs "self" 525)] 0), #[]⟩,
  ⟨(.type "tuple"), none, (.seq #[] 0), #[]⟩,
  ⟨(.type "code"), none, (.fields #[(vs "__iter__" 522), (vs "filterfalse.__iter__" 523), (vs "/claim/cut.py" 524), (vi 82 0), (vi 1 0), (vi 0 0), (vi 0 0), (vi 3 0), (vr 71), (.bool true), (vi 276 0), (vr 72), vn, (vr 73), (vr 74), (vr 75), (vi 526 0), (vi 82 0), (vs "/claim/cut.py" 527)]), #[]⟩,
  ⟨(.type "function"), none, (.func (fn (sC 8 2) "__iter__" "filterfalse.__iter__" 3 [] vn vn vn (vs "itertools" 496) none (vr 76) vn 0)), #[]⟩,
  ⟨(.type "tuple"), none, (.seq #[] 0), #[]⟩,
  ⟨(.type "tuple"), none, (.seq #[(vs "self" 532), (vs "func" 533), (vs "item" 534)] 0), #[]⟩,
  ⟨(.type "tuple"), none, (.seq #[] 0), #[]⟩,
  ⟨(.type "code"), none, (.fields #[(vs "__next__" 529), (vs "filterfalse.__next__" 530), (vs "/claim/cut.py" 531), (vi 85 0), (vi 1 0), (vi 0 0), (vi 0 0), (vi 3 0), (vr 78), (.bool true), (vi 276 0), (vr 79), vn, (vr 80), (vr 81), (vr 82), (vi 535 0), (vi 85 0), (vs "/claim/cut.py" 536)]), #[]⟩,
  ⟨(.type "function"), none, (.func (fn (sC 8 3) "__next__" "filterfalse.__next__" 3 [] vn vn vn (vs "itertools" 496) none (vr 83) vn 0)), #[]⟩,
  ⟨(.type "tuple"), none, (.seq #[(vs "_func" 538), (vs "_it" 539)] 0), #[]⟩,
  ⟨(.type "dict"), none, (.dict #[(en P "__module__" 505 (vs "itertools" 496)), (en P "__firstlineno__" 509 (vi 75 508)), (en P "__slots__" 512 (vr 63)), (en P "__init__" 521 (vr 70)), (en P "__iter__" 528 (vr 77)), (en P "__next__" 537 (vr 84)), (en P "__static_attributes__" 540 (vr 85)), (en P "_func" 542 (vr 89)), (en P "_it" 544 (vr 90)), (en P "__doc__" 545 vn)] 4), #[]⟩,
  ⟨(.type "type"), none, (.cls (.mk (st "filterfalse") [(.type "object")] [(vr 88), (.type "object")] 87 (st "filterfalse") false [(st "_func"), (st "_it")] [] false none false)), #[none, none, (some (vs "filterfalse" 498)), (some (vs "filterfalse" 506)), (some (.builtin "object.__new__")), (some (.bool false))]⟩,
  ⟨(.type "member_descriptor"), none, (.fields #[(vs "_func" 541), (vr 88), (.builtin "proto.slot"), (.builtin "proto.slot#set"), (vi 1 0)]), #[]⟩,
  ⟨(.type "member_descriptor"), none, (.fields #[(vs "_it" 543), (vr 88), (.builtin "proto.slot"), (.builtin "proto.slot#set"), (vi 0 0)]), #[]⟩,
  ⟨(.type "tuple"), none, (.seq #[] 0), #[]⟩,
  ⟨(.type "tuple"), none, (.seq #[(vs "flist" 553), (vs "skip" 554)] 0), #[]⟩,
  ⟨(.type "tuple"), none, (.seq #[] 0), #[]⟩,
  ⟨(.type "code"), none, (.fields #[(vs "_filter" 550), (vs "_filter" 551), (vs "/claim/cut.py" 552), (vi 95 0), (vi 2 0), (vi 0 0), (vi 0 0), (vi 3 0), (vr 93), (.bool true), (vi 276 0), (vr 94), vn, (vr 95), (vr 96), (vr 97), (vi 555 0), (vi 95 0), (vs "/claim/cut.py" 556)]), #[]⟩,
  ⟨(.type "function"), none, (.func (fn (sT 10) "_filter" "_filter" 3 [] vn vn vn (vs "cpy313.filecmp" 548) none (vr 98) vn 0)), #[]⟩,
  ⟨(.type "tuple"), none, (.seq #[] 0), #[]⟩,
  ⟨(.type "tuple"), none, (.seq #[(vs "heap" 563), (vs "item" 564)] 0), #[]⟩,
  ⟨(.type "tuple"), none, (.seq #[] 0), #[]⟩,
  ⟨(.type "code"), none, (.fields #[(vs "heappush" 560), (vs "heappush" 561), (vs "/claim/cut.py" 562), (vi 98 0), (vi 2 0), (vi 0 0), (vi 0 0), (vi 3 0), (vr 100), (.bool true), (vi 276 0), (vr 101), vn, (vr 102), (vr 103), (vr 104), (vi 565 0), (vi 98 0), (vs "/claim/cut.py" 566)]), #[]⟩,
  ⟨(.type "function"), none, (.func (fn (sT 12) "heappush" "heappush" 3 [] vn vn vn (vs "cpy313.heapq" 558) none (vr 105) vn 0)), #[]⟩,
  ⟨(.type "tuple"), none, (.seq #[] 0), #[]⟩,
  ⟨(.type "tuple"), none, (.seq #[(vs "heap" 571), (vs "lastelt" 572), (vs "returnitem" 573)] 0), #[]⟩,
  ⟨(.type "tuple"), none, (.seq #[] 0), #[]⟩,
  ⟨(.type "code"), none, (.fields #[(vs "heappop" 568), (vs "heappop" 569), (vs "/claim/cut.py" 570), (vi 101 0), (vi 1 0), (vi 0 0), (vi 0 0), (vi 3 0), (vr 107), (.bool true), (vi 276 0), (vr 108), vn, (vr 109), (vr 110), (vr 111), (vi 574 0), (vi 101 0), (vs "/claim/cut.py" 575)]), #[]⟩,
  ⟨(.type "function"), none, (.func (fn (sT 13) "heappop" "heappop" 3 [] vn vn vn (vs "cpy313.heapq" 558) none (vr 112) vn 0)), #[]⟩,
  ⟨(.type "tuple"), none, (.seq #[] 0), #[]⟩,
  ⟨(.type "tuple"), none, (.seq #[(vs "heap" 580), (vs "startpos" 581), (vs "pos" 582), (vs "newitem" 583), (vs "parentpos" 584), (vs "parent" 585)] 0), #[]⟩,
  ⟨(.type "tuple"), none, (.seq #[] 0), #[]⟩,
  ⟨(.type "code"), none, (.fields #[(vs "_siftdown" 577), (vs "_siftdown" 578), (vs "/claim/cut.py" 579), (vi 109 0), (vi 3 0), (vi 0 0), (vi 0 0), (vi 3 0), (vr 114), (.bool true), (vi 276 0), (vr 115), vn, (vr 116), (vr 117), (vr 118), (vi 586 0), (vi 109 0), (vs "/claim/cut.py" 587)]), #[]⟩,
  ⟨(.type "function"), none, (.func (fn (sT 14) "_siftdown" "_siftdown" 3 [] vn vn vn (vs "cpy313.heapq" 558) none (vr 119) vn 0)), #[]⟩,
  ⟨(.type "tuple"), none, (.seq #[] 0), #[]⟩,
  ⟨(.type "tuple"), none, (.seq #[(vs "heap" 592), (vs "pos" 593), (vs "endpos" 594), (vs "startpos" 595), (vs "newitem" 596), (vs "childpos" 597), (vs "rightpos" 598)] 0), #[]⟩,
  ⟨(.type "tuple"), none, (.seq #[] 0), #[]⟩,
  ⟨(.type "code"), none, (.fields #[(vs "_siftup" 589), (vs "_siftup" 590), (vs "/claim/cut.py" 591), (vi 120 0), (vi 2 0), (vi 0 0), (vi 0 0), (vi 3 0), (vr 121), (.bool true), (vi 276 0), (vr 122), vn, (vr 123), (vr 124), (vr 125), (vi 599 0), (vi 120 0), (vs "/claim/cut.py" 600)]), #[]⟩,
  ⟨(.type "function"), none, (.func (fn (sT 15) "_siftup" "_siftup" 3 [] vn vn vn (vs "cpy313.heapq" 558) none (vr 126) vn 0)), #[]⟩,
  ⟨(.type "tuple"), none, (.seq #[] 0), #[]⟩,
  ⟨(.type "code"), none, (.fields #[(vs "_law_held" 604), (vs "_law_held" 605), (vs "/claim/cut.py" 606), (vi 135 0), (vi 1 0), (vi 0 0), (vi 0 0), (vi 3 0), (vr 128), (.bool true), (vi 276 0), (vr 129), vn, vn, vn, (vr 130), (vi 607 0), (vi 135 0), (vs "/claim/cut.py" 608)]), #[]⟩,
  ⟨(.type "function"), none, (.func (fn (sT 17) "_law_held" "_law_held" 3 [] vn vn vn (vs "law_ku0020_01" 602) none (vr 131) vn 0)), #[]⟩,
  ⟨(.type "tuple"), none, (.seq #[] 0), #[]⟩,
  ⟨(.type "tuple"), none, (.seq #[(vs "signs" 613), (vs "name" 614), (vs "place" 615), (vs "sign" 616)] 0), #[]⟩,
  ⟨(.type "tuple"), none, (.seq #[] 0), #[]⟩,
  ⟨(.type "code"), none, (.fields #[(vs "_law_takes" 610), (vs "_law_takes" 611), (vs "/claim/cut.py" 612), (vi 142 0), (vi 2 0), (vi 0 0), (vi 0 0), (vi 3 0), (vr 133), (.bool true), (vi 276 0), (vr 134), vn, (vr 135), (vr 136), (vr 137), (vi 617 0), (vi 142 0), (vs "/claim/cut.py" 618)]), #[]⟩,
  ⟨(.type "function"), none, (.func (fn (sT 18) "_law_takes" "_law_takes" 3 [] vn vn vn (vs "law_ku0020_01" 602) none (vr 138) vn 0)), #[]⟩,
  ⟨(.type "tuple"), none, (.seq #[] 0), #[]⟩,
  ⟨(.type "code"), none, (.fields #[(vs "_law_found" 620), (vs "_law_found" 621), (vs "/claim/cut.py" 622), (vi 149 0), (vi 3 0), (vi 0 0), (vi 0 0), (vi 3 0), (vr 140), (.bool true), (vi 276 0), (vr 141), vn, vn, vn, (vr 142), (vi 623 0), (vi 149 0), (vs "/claim/cut.py" 624)]), #[]⟩,
  ⟨(.type "function"), none, (.func (fn (sT 19) "_law_found" "_law_found" 3 [] vn vn vn (vs "law_ku0020_01" 602) none (vr 143) vn 0)), #[]⟩,
  ⟨(.type "tuple"), none, (.seq #[] 0), #[]⟩,
  ⟨(.type "code"), none, (.fields #[(vs "_law_least" 626), (vs "_law_least" 627), (vs "/claim/cut.py" 628), (vi 161 0), (vi 3 0), (vi 0 0), (vi 0 0), (vi 3 0), (vr 145), (.bool true), (vi 276 0), (vr 146), vn, vn, vn, (vr 147), (vi 629 0), (vi 161 0), (vs "/claim/cut.py" 630)]), #[]⟩,
  ⟨(.type "function"), none, (.func (fn (sT 20) "_law_least" "_law_least" 3 [] vn vn vn (vs "law_ku0020_01" 602) none (vr 148) vn 0)), #[]⟩,
  ⟨(.type "tuple"), none, (.seq #[] 0), #[]⟩,
  ⟨(.type "code"), none, (.fields #[(vs "_law_words" 632), (vs "_law_words" 633), (vs "/claim/cut.py" 634), (vi 171 0), (vi 1 0), (vi 0 0), (vi 0 0), (vi 3 0), (vr 150), (.bool true), (vi 276 0), (vr 151), vn, vn, vn, (vr 152), (vi 635 0), (vi 171 0), (vs "/claim/cut.py" 636)]), #[]⟩,
  ⟨(.type "function"), none, (.func (fn (sT 21) "_law_words" "_law_words" 3 [] vn vn vn (vs "law_ku0020_01" 602) none (vr 153) vn 0)), #[]⟩,
  ⟨(.type "tuple"), none, (.seq #[] 0), #[]⟩,
  ⟨(.type "code"), none, (.fields #[(vs "law" 638), (vs "law" 639), (vs "/claim/cut.py" 640), (vi 176 0), (vi 1 0), (vi 0 0), (vi 0 0), (vi 3 0), (vr 155), (.bool true), (vi 276 0), (vr 156), vn, vn, vn, (vr 157), (vi 641 0), (vi 176 0), (vs "/claim/cut.py" 642)]), #[]⟩,
  ⟨(.type "function"), none, (.func (fn (sT 22) "law" "law" 3 [] vn vn vn (vs "law_ku0020_01" 602) none (vr 158) vn 0)), #[]⟩]
noncomputable def keepAt (l : List Nat) : List Stmt := l.map sT
noncomputable def view0 : Program := { pw with main := { pw.main with body := keepAt [0, 1, 3, 4, 6, 8, 10, 12, 13, 14, 15, 17, 18, 19, 20, 21, 22] } }
end Mine

end
section
open PySem PySem.W PyProof.Rows PySem.Calls
set_option Elab.async false
set_option maxRecDepth 100000
set_option maxHeartbeats 8000000
namespace Mine
noncomputable def K (P : Params) : Frag := by
  refine' (fun (o2 o3 o6 o11 o12 o35 o36 o38 o42 o44 o45 o47 o48 o49 o51 o52 o54 o55 o63 o64 o66 o67 o69 o70 o71 o73 o74 o76 o77 o78 o80 o81 o83 o84 o85 o87 o88 o89 o90 o93 o95 o96 o98 o99 o100 o102 o103 o105 o106 o107 o109 o110 o112 o113 o114 o116 o117 o119 o120 o121 o123 o124 o126 o127 o128 o131 o132 o133 o135 o136 o138 o139 o140 o143 o144 o145 o148 o149 o150 o153 o154 o155 o158 o159 : Obj) (_ : K0 P = [o2, o3, o6, o11, o12, o35, o36, o38, o42, o44, o45, o47, o48, o49, o51, o52, o54, o55, o63, o64, o66, o67, o69, o70, o71, o73, o74, o76, o77, o78, o80, o81, o83, o84, o85, o87, o88, o89, o90, o93, o95, o96, o98, o99, o100, o102, o103, o105, o106, o107, o109, o110, o112, o113, o114, o116, o117, o119, o120, o121, o123, o124, o126, o127, o128, o131, o132, o133, o135, o136, o138, o139, o140, o143, o144, o145, o148, o149, o150, o153, o154, o155, o158, o159]) => (((nat_lit 2, o2) : Addr × Obj) :: ((nat_lit 3, o3) : Addr × Obj) :: ((nat_lit 6, o6) : Addr × Obj) :: ((nat_lit 11, o11) : Addr × Obj) :: ((nat_lit 12, o12) : Addr × Obj) :: ((nat_lit 35, o35) : Addr × Obj) :: ((nat_lit 36, o36) : Addr × Obj) :: ((nat_lit 38, o38) : Addr × Obj) :: ((nat_lit 42, o42) : Addr × Obj) :: ((nat_lit 44, o44) : Addr × Obj) :: ((nat_lit 45, o45) : Addr × Obj) :: ((nat_lit 47, o47) : Addr × Obj) :: ((nat_lit 48, o48) : Addr × Obj) :: ((nat_lit 49, o49) : Addr × Obj) :: ((nat_lit 51, o51) : Addr × Obj) :: ((nat_lit 52, o52) : Addr × Obj) :: ((nat_lit 54, o54) : Addr × Obj) :: ((nat_lit 55, o55) : Addr × Obj) :: ((nat_lit 63, o63) : Addr × Obj) :: ((nat_lit 64, o64) : Addr × Obj) :: ((nat_lit 66, o66) : Addr × Obj) :: ((nat_lit 67, o67) : Addr × Obj) :: ((nat_lit 69, o69) : Addr × Obj) :: ((nat_lit 70, o70) : Addr × Obj) :: ((nat_lit 71, o71) : Addr × Obj) :: ((nat_lit 73, o73) : Addr × Obj) :: ((nat_lit 74, o74) : Addr × Obj) :: ((nat_lit 76, o76) : Addr × Obj) :: ((nat_lit 77, o77) : Addr × Obj) :: ((nat_lit 78, o78) : Addr × Obj) :: ((nat_lit 80, o80) : Addr × Obj) :: ((nat_lit 81, o81) : Addr × Obj) :: ((nat_lit 83, o83) : Addr × Obj) :: ((nat_lit 84, o84) : Addr × Obj) :: ((nat_lit 85, o85) : Addr × Obj) :: ((nat_lit 87, o87) : Addr × Obj) :: ((nat_lit 88, o88) : Addr × Obj) :: ((nat_lit 89, o89) : Addr × Obj) :: ((nat_lit 90, o90) : Addr × Obj) :: ((nat_lit 93, o93) : Addr × Obj) :: ((nat_lit 95, o95) : Addr × Obj) :: ((nat_lit 96, o96) : Addr × Obj) :: ((nat_lit 98, o98) : Addr × Obj) :: ((nat_lit 99, o99) : Addr × Obj) :: ((nat_lit 100, o100) : Addr × Obj) :: ((nat_lit 102, o102) : Addr × Obj) :: ((nat_lit 103, o103) : Addr × Obj) :: ((nat_lit 105, o105) : Addr × Obj) :: ((nat_lit 106, o106) : Addr × Obj) :: ((nat_lit 107, o107) : Addr × Obj) :: ((nat_lit 109, o109) : Addr × Obj) :: ((nat_lit 110, o110) : Addr × Obj) :: ((nat_lit 112, o112) : Addr × Obj) :: ((nat_lit 113, o113) : Addr × Obj) :: ((nat_lit 114, o114) : Addr × Obj) :: ((nat_lit 116, o116) : Addr × Obj) :: ((nat_lit 117, o117) : Addr × Obj) :: ((nat_lit 119, o119) : Addr × Obj) :: ((nat_lit 120, o120) : Addr × Obj) :: ((nat_lit 121, o121) : Addr × Obj) :: ((nat_lit 123, o123) : Addr × Obj) :: ((nat_lit 124, o124) : Addr × Obj) :: ((nat_lit 126, o126) : Addr × Obj) :: ((nat_lit 127, o127) : Addr × Obj) :: ((nat_lit 128, o128) : Addr × Obj) :: ((nat_lit 131, o131) : Addr × Obj) :: ((nat_lit 132, o132) : Addr × Obj) :: ((nat_lit 133, o133) : Addr × Obj) :: ((nat_lit 135, o135) : Addr × Obj) :: ((nat_lit 136, o136) : Addr × Obj) :: ((nat_lit 138, o138) : Addr × Obj) :: ((nat_lit 139, o139) : Addr × Obj) :: ((nat_lit 140, o140) : Addr × Obj) :: ((nat_lit 143, o143) : Addr × Obj) :: ((nat_lit 144, o144) : Addr × Obj) :: ((nat_lit 145, o145) : Addr × Obj) :: ((nat_lit 148, o148) : Addr × Obj) :: ((nat_lit 149, o149) : Addr × Obj) :: ((nat_lit 150, o150) : Addr × Obj) :: ((nat_lit 153, o153) : Addr × Obj) :: ((nat_lit 154, o154) : Addr × Obj) :: ((nat_lit 155, o155) : Addr × Obj) :: ((nat_lit 158, o158) : Addr × Obj) :: ((nat_lit 159, o159) : Addr × Obj) :: [] : List (Addr × Obj))) _ _ _ _ _ _ _ _ _ _ _ _ _ _ _ _ _ _ _ _ _ _ _ _ _ _ _ _ _ _ _ _ _ _ _ _ _ _ _ _ _ _ _ _ _ _ _ _ _ _ _ _ _ _ _ _ _ _ _ _ _ _ _ _ _ _ _ _ _ _ _ _ _ _ _ _ _ _ _ _ _ _ _ _ ?h
  case h =>
    unfold K0
    dsimp only [vs, vi, vr, vn, st, en, fn, sT, sC, nth, fdP, fdB, fdS, pw, PySem.Challenge.rw_ku0020_01, OpenLaw.row, PySem.Challenge.pw_ku0020_01]
    exact rfl
noncomputable def view : Program := by
  refine' (fun (x : Program) (_ : view0 = x) => x) _ ?h
  case h =>
    unfold view0
    dsimp only [vs, keepAt, List.map, sT, nth, pw, PySem.Challenge.rw_ku0020_01, OpenLaw.row, PySem.Challenge.pw_ku0020_01]
    exact rfl
end Mine

end
section
open PySem PySem.W PyProof.Rows PySem.Calls
set_option Elab.async false
set_option maxRecDepth 100000
set_option maxHeartbeats 8000000
namespace Mine
/-- the head in two stretches, cut behind the third statement -/
theorem left_cut {p q : Program} {loose : List Str} {Xt : Shared → Bool} {α : Type} {Yf : Shared → α} {Ya : World → α} {N M : Nat} {H₀ H₁ H₂ : Params → Heap} {k₀ k₁ k₂ m₀ n₁ n₂ n₃ : Nat} {ann : Option Value} {env : Env} {l r : List Stmt} {pos pos₁ pos₂ fp : Pos}
    (open_ : ∀ w : World, (fencedOpening treeTable p w N).map (fun s => (s.heap, s.gens, s.drawn, s.toks)) = some (H₀ w.params, #[], ⟨0, 0, 0, 0⟩, k₀))
    (size : ∀ w : World, ((H₀ w.params).isNs mainGlobals, (H₀ w.params).objs.size, (H₀ w.params).nsMap mainGlobals "__annotations__") = (true, m₀, ann))
    (pre : ∀ (w : World) (os : OsState), topGo treeTable p w m₀ ann n₁ ⟨H₀ w.params, #[], ⟨0, 0, 0, 0⟩, k₀, os⟩ (topStub p) = some (⟨H₁ w.params, #[], ⟨0, 0, 0, 0⟩, k₁, os⟩, ⟨denote treeTable (.body (l ++ r) env), .body (l ++ r) env, pos, [topFrame fp]⟩))
    (block : ∀ (w : World) (os : OsState), segRun treeTable p w m₀ ann 1 n₂ ⟨H₁ w.params, #[], ⟨0, 0, 0, 0⟩, k₁, os⟩ (blockOf (l ++ r) env (.body (l ++ r) env) pos [topFrame fp]) = some (.next, ⟨H₁ w.params, #[], ⟨0, 0, 0, 0⟩, k₁, os⟩, .body (l ++ r) env, pos₁))
    (run : ∀ (w : World) (os : OsState), segRun treeTable p w m₀ ann 1 n₃ ⟨H₁ w.params, #[], ⟨0, 0, 0, 0⟩, k₁, os⟩ (piecesOf l env (.body (l ++ r) env) pos₁ [topFrame fp]) = some (.next, ⟨H₂ w.params, #[], ⟨0, 0, 0, 0⟩, k₂, os⟩, .body (l ++ r) env, pos₂))
    (fin : ∀ (w : World) (os : OsState), (topRun treeTable p w m₀ ann M ⟨H₂ w.params, #[], ⟨0, 0, 0, 0⟩, k₂, os⟩ (restOf r env (.body (l ++ r) env) pos₂ [topFrame fp])).map (fun s₁ =>
      ((staticsOk (importedModules p.main.body) (H₀ w.params) s₁.heap && namesBound p s₁.heap && gensDone s₁ && laidKept (H₀ w.params) s₁.heap), openSeen q loose (importedModules p.main.body) Xt true s₁, Yf s₁)) = some (true, openGood q loose, Ya w))
    (le : Nat.ble (n₁ + (n₂ + (n₃ + M))) N = true) : LeftO p q loose Xt Yf Ya N true := fun w => by
  obtain ⟨⟨h, gs, d, k, os⟩, e, e'⟩ := Option.map_eq_some_iff.mp (open_ w)
  obtain ⟨rfl, rfl, rfl, rfl⟩ : h = H₀ w.params ∧ gs = #[] ∧ d = ⟨0, 0, 0, 0⟩ ∧ k = k₀ := by simpa using e'
  obtain ⟨z1, z2, z3⟩ : _ ∧ _ ∧ _ := by simpa only [Prod.mk.injEq] using size w
  obtain ⟨s₁, f1, f2⟩ := Option.map_eq_some_iff.mp (fin w os)
  obtain ⟨l1, l2, l3⟩ : _ ∧ _ ∧ _ := by simpa only [Prod.mk.injEq] using f2
  have r0 := go_top (pre w os) (piece_block (block w os) (piece_app (run w os) f1))
  have r := topRun_mono (N - (n₁ + (n₂ + (n₃ + M)))) _ _ _ _ r0
  rw [show n₁ + (n₂ + (n₃ + M)) + (N - (n₁ + (n₂ + (n₃ + M)))) = N by have := Nat.le_of_ble_eq_true le; omega] at r
  have t : topFrom treeTable p w N ⟨H₀ w.params, #[], ⟨0, 0, 0, 0⟩, k, os⟩ = some s₁ := by
    unfold topFrom
    dsimp only
    rw [z1, z2, z3, r]
    show (match staticsOk (importedModules p.main.body) (H₀ w.params) s₁.heap && namesBound p s₁.heap && gensDone s₁ && laidKept (H₀ w.params) s₁.heap with | true => _ | false => _) = _
    rw [l1]
  unfold openEnds
  rw [e]
  show (topFrom treeTable p w N ⟨H₀ w.params, #[], ⟨0, 0, 0, 0⟩, k, os⟩).map _ = _
  rw [t]
  show some (_, _) = _
  rw [l2, l3]
noncomputable def topEnv : Env := { scope := pw.main.scope, locals := mainNs, globals := mainNs, cells := [], code := .ref 30, frame := some 31 }
noncomputable def frontB : List Stmt := [sT 1, sT 2, sT 3]
noncomputable def backB : List Stmt := (behindTheImports pw).drop 3
end Mine

end
section
open PySem PySem.W PyProof.Rows PySem.Calls
set_option Elab.async false
set_option maxRecDepth 100000
set_option maxHeartbeats 0
namespace Mine
def kAs : List Addr := [2, 3, 6, 11, 12, 35, 36, 38, 42, 44, 45, 47, 48, 49, 51, 52, 54, 55, 63, 64, 66, 67, 69, 70, 71, 73, 74, 76, 77, 78, 80, 81, 83, 84, 85, 87, 88, 89, 90, 93, 95, 96, 98, 99, 100, 102, 103, 105, 106, 107, 109, 110, 112, 113, 114, 116, 117, 119, 120, 121, 123, 124, 126, 127, 128, 131, 132, 133, 135, 136, 138, 139, 140, 143, 144, 145, 148, 149, 150, 153, 154, 155, 158, 159]
noncomputable def H : Hook := kHook K kAs (fun _ => by kernel_rfl)
abbrev z4 : Pos := .mk 0 0 0 0
abbrev rowW : RowW := OpenRow.toRowW PySem.Challenge.rw_ku0020_01.row
theorem p_open (w : World) : (fencedOpening treeTable pw w 4318).map (fun s => (s.heap, s.gens, s.drawn, s.toks)) = some (hS0 w.params, #[], ⟨0, 0, 0, 0⟩, 276) := by kernel_rfl
theorem p_size (w : World) : ((hS0 w.params).isNs mainGlobals, (hS0 w.params).objs.size, (hS0 w.params).nsMap mainGlobals "__annotations__") = (true, 28, some (.ref 6)) := by kernel_rfl
theorem p_pre (w : World) (os : OsState) : topGo treeTable pw w 28 (some (.ref 6)) 12 ⟨hS0 w.params, #[], ⟨0, 0, 0, 0⟩, 276, os⟩ (topStub pw) = some (⟨hSa w.params, #[], ⟨0, 0, 0, 0⟩, 282, os⟩, ⟨denote treeTable (.body (frontB ++ backB) topEnv), .body (frontB ++ backB) topEnv, z4, [topFrame z4]⟩) := by kernel_rfl
theorem p_block (w : World) (os : OsState) : segRun treeTable pw w 28 (some (.ref 6)) 1 1 ⟨hSa w.params, #[], ⟨0, 0, 0, 0⟩, 282, os⟩ (blockOf (frontB ++ backB) topEnv (.body (frontB ++ backB) topEnv) z4 [topFrame z4]) = some (.next, ⟨hSa w.params, #[], ⟨0, 0, 0, 0⟩, 282, os⟩, .body (frontB ++ backB) topEnv, z4) := by kernel_rfl
def Run3 (w : World) : Prop := (fun os => segRun treeTable pw w 28 (some (.ref 6)) 1 1400 ⟨hSa w.params, #[], ⟨0, 0, 0, 0⟩, 282, os⟩ (piecesOf frontB topEnv (.body (frontB ++ backB) topEnv) z4 [topFrame z4])) = fun os => some (.next, ⟨hS3 w.params, #[], ⟨0, 0, 0, 0⟩, 468, os⟩, .body (frontB ++ backB) topEnv, .mk 4 0 4 18)
theorem p_run3_ff (w : World) : Run3 ((w.withFollow "comprehension-iter-twice" false).withFollow "special-get-raises" false) := by unfold Run3; kernel_rfl
theorem p_run3_ft (w : World) : Run3 ((w.withFollow "comprehension-iter-twice" false).withFollow "special-get-raises" true) := by unfold Run3; kernel_rfl
theorem p_run3_tf (w : World) : Run3 ((w.withFollow "comprehension-iter-twice" true).withFollow "special-get-raises" false) := by unfold Run3; kernel_rfl
theorem p_run3_tt (w : World) : Run3 ((w.withFollow "comprehension-iter-twice" true).withFollow "special-get-raises" true) := by unfold Run3; kernel_rfl
theorem p_run3 (w : World) : Run3 w := by
  refine byRow2 "special-get-raises" (P := Run3) (fun w => ?_) (fun w => ?_) w
  · exact byRow2 "comprehension-iter-twice" (P := fun w => Run3 (w.withFollow "special-get-raises" false)) p_run3_ff p_run3_tf w
  · exact byRow2 "comprehension-iter-twice" (P := fun w => Run3 (w.withFollow "special-get-raises" true)) p_run3_ft p_run3_tt w
theorem p_fin (w : World) (os : OsState) : (topRun treeTable pw w 28 (some (.ref 6)) 900 ⟨hS3 w.params, #[], ⟨0, 0, 0, 0⟩, 468, os⟩ (restOf backB topEnv (.body (frontB ++ backB) topEnv) (.mk 4 0 4 18) [topFrame z4])).map (fun s₁ =>
      ((staticsOk (importedModules pw.main.body) (hS0 w.params) s₁.heap && namesBound pw s₁.heap && gensDone s₁ && laidKept (hS0 w.params) s₁.heap), openSeen view [Str.ofString "_twin_re_1", Str.ofString "_special_chars_map", Str.ofString "filterfalse"] (importedModules pw.main.body) (fun s => xlAt view [] s && recOk (RowW.records rowW) s) true s₁, H.obs s₁)) = some (true, openGood view [Str.ofString "_twin_re_1", Str.ofString "_special_chars_map", Str.ofString "filterfalse"], H.val w) := by kernel_rfl
abbrev looseN : List Str := [Str.ofString "_twin_re_1", Str.ofString "_special_chars_map", Str.ofString "filterfalse"]
theorem p_left : LeftO pw view looseN (fun s => xlAt view [] s && recOk (RowW.records rowW) s) H.obs H.val 4318 true :=
  left_cut (l := frontB) (r := backB) (env := topEnv) (fp := z4) p_open p_size p_pre p_block (fun w os => congrFun (p_run3 w) os) p_fin (by decide)
end Mine

end
section
open PySem PySem.W PyProof.Rows
set_option Elab.async false
set_option maxRecDepth 100000
set_option maxHeartbeats 8000000
namespace Mine
abbrev Led := List (Addr × Obj)
/-- what a call of the def at f does, for every caller -/
def Ctr (w : World) (loose : List Str) (mean : ExcName → Option Value) (mg mb : Str → Option Value) (f : Addr) (need : Nat) (vs : List Value) (news : Led) (post : Value → Led → Prop) : Prop :=
  ∀ (dp un : Nat) (gd : Option (List Code)) (cn : Str) (cs : Scope) (a : Addr) (ccd : Value) (cl : List (Str × Addr)) (outer : List Env) (A₀ : Around) (base h₀ : Heap) (L : Addr) (m : Str → Option Value) (s : Shared)
    (Q E : Value → Shared → Prop),
    Below A₀ base outer h₀ → Fr h₀ L s.heap m → (K w.params).In h₀ → News h₀ L s.heap news → Top topProg loose mean mg mb h₀ → cs.kind = .function → CodeHd h₀ 54 50 →
    dp + need < recursionLimit → un + 8 * need < cLine →
    (∀ r news' h' tk', Fr h₀ L h' m → News h₀ L h' news' → post r news' → Q r { s with heap := h', toks := tk' }) →
    wpAny (model PySem.Challenge.rw_ku0020_01.row.prog w) (ktrTop dp un gd cn cs L a ccd cl outer) (call (.ref f) vs) Q E s

theorem Ctr.use {w : World} {loose : List Str} {mean : ExcName → Option Value} {mg mb : Str → Option Value} {f : Addr} {need : Nat} {vs : List Value} {news : Led} {post : Value → Led → Prop}
    {dp un : Nat} {gd : Option (List Code)} {cn : Str} {cs : Scope} {a : Addr} {ccd : Value} {cl : List (Str × Addr)} {outer : List Env} {A₀ : Around} {base h₀ : Heap} {L : Addr} {m : Str → Option Value} {s : Shared}
    {Q E : Value → Shared → Prop} (C : Ctr w loose mean mg mb f need vs news post)
    (B : Below A₀ base outer h₀) (F : Fr h₀ L s.heap m) (X : (K w.params).In h₀) (N : News h₀ L s.heap news) (T : Top topProg loose mean mg mb h₀) (hk : cs.kind = .function) (hC : CodeHd h₀ 54 50)
    (h1 : dp + need < recursionLimit) (h2 : un + 8 * need < cLine)
    (ret : ∀ r news' h' tk', Fr h₀ L h' m → News h₀ L h' news' → post r news' → Q r { s with heap := h', toks := tk' }) :
    wpAny (model PySem.Challenge.rw_ku0020_01.row.prog w) (ktrTop dp un gd cn cs L a ccd cl outer) (call (.ref f) vs) Q E s :=
  C _ _ _ _ _ _ _ _ _ _ _ _ _ _ _ _ _ B F X N T hk hC h1 h2 ret

theorem lt_not_mem {h : Heap} {h₀ : Heap} {L : Addr} {news : Led} (N : News h₀ L h news) : ∀ p ∈ news, p.1 < h.objs.size := fun p hp => Heap.lt_size (N p hp).1

section
variable {prog : Program} {w : World} {A : Around} {E : Value → Shared → Prop} {s : Shared} {env : Env} {h₀ : Heap} {x : Str} {body : List Stmt} {Q : Flow → Shared → Prop}
/-- a turn's end: the iterator's own object stands, and the word holds -/
def LoopE (h₀ : Heap) (L I : Addr) (oI : Obj) (J : (Str → Option Value) → Led → Prop) (s₁ : Shared) (Qr : Value → Shared → Prop) (Qb : Shared → Prop) (f : Flow) (s₂ : Shared) : Prop :=
  match f with
  | .ret v => Qr v s₂
  | .brk => Qb s₂
  | _ => ∃ h' tk m₂ news₂, s₂ = { s₁ with heap := h', toks := tk } ∧ Fr h₀ L h' m₂ ∧ News h₀ L h' ((I, oI) :: news₂) ∧ (∀ p ∈ news₂, p.1 ≠ I) ∧ J m₂ news₂
theorem LoopE.next {L I : Addr} {oI : Obj} {J : (Str → Option Value) → Led → Prop} {s₁ : Shared} {Qr : Value → Shared → Prop} {Qb : Shared → Prop} {h' : Heap} {tk : Nat} {m₂ : Str → Option Value} (news₂ : Led)
    (F : Fr h₀ L h' m₂) (N : News h₀ L h' ((I, oI) :: news₂)) (ha : ∀ p ∈ news₂, p.1 ≠ I) (hJ : J m₂ news₂) : LoopE h₀ L I oI J s₁ Qr Qb .next { s₁ with heap := h', toks := tk } := ⟨h', tk, m₂, news₂, rfl, F, N, ha, hJ⟩
theorem LoopE.toV {L I : Addr} {oI : Obj} {own : Led} {J : (Str → Option Value) → Led → Prop} {s₁ : Shared} {Qr : Value → Shared → Prop} {Qb : Shared → Prop} {f : Flow} {s₂ : Shared} (ho : ∀ p ∈ own, p = (I, oI))
    (h : LoopE h₀ L I oI J s₁ Qr Qb f s₂) : LoopStepV h₀ L [I] own J s₁ Qr Qb f s₂ := by
  cases f with
  | ret v => exact h
  | brk => exact h
  | next =>
    obtain ⟨h', tk, m₂, news₂, rfl, F, N, ha, hJ⟩ := h
    exact .next ⟨rfl, h', tk, m₂, news₂, rfl, F, (fun p hp => N p ((List.mem_append.mp hp).elim (fun q => ho p q ▸ List.Mem.head _) (fun q => List.Mem.tail _ q))), (fun p hp hm => ha p hp (List.mem_singleton.mp hm)), hJ⟩
  | cont =>
    obtain ⟨h', tk, m₂, news₂, rfl, F, N, ha, hJ⟩ := h
    exact .cont ⟨rfl, h', tk, m₂, news₂, rfl, F, (fun p hp => N p ((List.mem_append.mp hp).elim (fun q => ho p q ▸ List.Mem.head _) (fun q => List.Mem.tail _ q))), (fun p hp hm => ha p hp (List.mem_singleton.mp hm)), hJ⟩
theorem LoopE.toU {L I : Addr} {oI : Obj} {own : Led} {J : (Str → Option Value) → Led → Prop} {s₁ : Shared} {f : Flow} {s₂ : Shared} (ho : ∀ p ∈ own, p = (I, oI))
    (h : LoopE h₀ L I oI J s₁ (fun _ _ => False) (fun _ => False) f s₂) : LoopStepU h₀ L [I] own J s₁ f s₂ ∨ f = .cont := by
  cases f with
  | ret v => exact h.elim
  | brk => exact h.elim
  | cont => exact .inr rfl
  | next =>
    obtain ⟨h', tk, m₂, news₂, rfl, F, N, ha, hJ⟩ := h
    exact .inl ⟨rfl, h', tk, m₂, news₂, rfl, F, (fun p hp => N p ((List.mem_append.mp hp).elim (fun q => ho p q ▸ List.Mem.head _) (fun q => List.Mem.tail _ q))), (fun p hp hm => ha p hp (List.mem_singleton.mp hm)), hJ⟩

theorem pyIter_strS {X : Str} {t : Tok} {Q : Value → Shared → Prop}
    (hQ : ∀ (o : Obj) (St : Nat → Heap → Prop), (∀ A' : Around, A'.handled = none → Walks prog w A' s.heap.objs.size [s.heap.objs.size] [s.heap.objs.size] X.cps.size (SignAt X) St) → St 0 (s.heap.push o) →
      (∀ i h, St i h → ∃ o, h.get? s.heap.objs.size = some o) → Q (.ref s.heap.objs.size) { s with heap := s.heap.push o }) : wpAny (model prog w) A (pyIter (.str X t)) Q E s := by
  cases ha : X.cps.all (· < 128)
  · exact wpAny_pyIter_wide ha (hQ _ _ (fun A' hA => Walks.strWide hA _ X t) ⟨_, Heap.get?_push_size _ rfl, rfl, rfl⟩ (fun _ _ ⟨o, e, _⟩ => ⟨o, e⟩))
  · exact wpAny_pyIter_ascii ha (hQ _ _ (fun A' hA => Walks.strAscii hA _ X t) ⟨_, Heap.get?_push_size _ rfl, rfl, rfl⟩ (fun _ _ ⟨o, e, _⟩ => ⟨o, e⟩))

/-- a for over a text's signs, by an invariant -/
theorem iter_str {X : Str} {t : Tok} {m : Str → Option Value} {news : Led} (J : Nat → (Str → Option Value) → Led → Prop)
    (hh : A.handled = none) (F : Fr h₀ env.locals s.heap m) (N : News h₀ env.locals s.heap news) (h0 : J 0 m news)
    (step : ∀ I oI i c u m₁ news₁ h tk, X.cps[i]? = some c → J i m₁ news₁ → (∀ p ∈ news₁, p.1 ≠ I) → (∀ p ∈ news, p.1 < I) →
      Fr h₀ env.locals h (fun y => if y = x then some (.str ⟨#[c]⟩ u) else m₁ y) → News h₀ env.locals h ((I, oI) :: news₁) →
      wpAny (model prog w) A (execs body env) (LoopE h₀ env.locals I oI (J (i + 1)) { s with heap := h, toks := tk } (fun v s' => Q (.ret v) s') fun s' => Q .next s') E { s with heap := h, toks := tk })
    (done : ∀ h' tk m' news', Fr h₀ env.locals h' m' → News h₀ env.locals h' news' → J X.cps.size m' news' → Q .next { s with heap := h', toks := tk }) :
    wpAny (model prog w) A (pyIter (.str X t)) (fun it s₂ => LoopAtV prog w A h₀ env x body Q E it s₂) E s := by
  refine pyIter_strS fun o St W st0 hSt => ?_
  refine ⟨s.heap.objs.size, [s.heap.objs.size], [s.heap.objs.size], X.cps.size, SignAt X, St, m, news, J, rfl, W A hh, ?_, ?_, ?_, st0, F.push o, (fun p hp => ⟨Heap.get?_push_of_some _ (N p hp).1, (N p hp).2⟩), h0, ?_, ?_⟩
  · intro hm
    exact absurd F.ns.lt (List.mem_singleton.mp hm ▸ Nat.lt_irrefl _)
  · intro b hb
    rw [List.mem_singleton.mp hb]
    exact next_is_new F
  · intro p hp hI
    exact absurd (Heap.lt_size (N p hp).1) ((List.mem_singleton.mp hI) ▸ Nat.lt_irrefl _)
  · intro i v m₁ news₁ s₁ own hs hi hP hJ hoff hsub hown hall hst F₁ N₁
    obtain ⟨c, u, hc, rfl⟩ := hP
    obtain ⟨h, tk, rfl⟩ := hs
    obtain ⟨oI, hoI⟩ := hSt _ _ hst
    have hmem := hall _ (.head _) (next_is_new F) oI hoI
    refine wpAny_mono (step _ oI i c u m₁ news₁ h tk hc hJ (fun p hp e => hoff p hp (by rw [e]; exact .head _)) (fun p hp => Heap.lt_size (N p hp).1) F₁ (fun p hp => ?_)) (fun f s₂ hq => hq.toV fun p hp => ?_) fun _ _ e => e
    · rcases List.mem_cons.mp hp with rfl | hp
      · exact N₁ _ (List.mem_append_left _ hmem)
      · exact N₁ p (List.mem_append_right _ hp)
    · have e1 := List.mem_singleton.mp (hsub p hp)
      have e2 := (N₁ p (List.mem_append_left _ hp)).1
      rw [e1, hoI] at e2
      obtain ⟨a, b⟩ := p
      cases e1; cases e2; rfl
  · intro h' tk m' news' F' N' hoff hJ
    exact done h' tk m' news' F' N' hJ
/-- the same, the target being any -/
theorem iter_strT {target : Expr} {X : Str} {t : Tok} {m : Str → Option Value} {news : Led} (J : Nat → (Str → Option Value) → Led → Prop)
    (hh : A.handled = none) (F : Fr h₀ env.locals s.heap m) (N : News h₀ env.locals s.heap news) (ht : ∀ it v, letOwnedTupleGo target it v = pure ()) (h0 : J 0 m news)
    (step : ∀ I oI i c u m₁ news₁ s₁, X.cps[i]? = some c → J i m₁ news₁ → (∀ p ∈ news₁, p.1 ≠ I) → (∀ p ∈ news, p.1 < I) →
      Fr h₀ env.locals s₁.heap m₁ → News h₀ env.locals s₁.heap ((I, oI) :: news₁) →
      wpAny (model prog w) A (assign target env (.str ⟨#[c]⟩ u)) (fun _ s₃ => wpAny (model prog w) A (execs body env) (fun f s₂ => f = .next ∧ LoopE h₀ env.locals I oI (J (i + 1)) s₁ (fun _ _ => False) (fun _ => False) f s₂) E s₃) E s₁)
    (done : ∀ h' tk m' news', Fr h₀ env.locals h' m' → News h₀ env.locals h' news' → J X.cps.size m' news' → Q .next { s with heap := h', toks := tk }) :
    wpAny (model prog w) A (pyIter (.str X t)) (fun it s₂ => LoopAtT prog w A h₀ env target body Q E it s₂) E s := by
  refine pyIter_strS fun o St W st0 hSt => ?_
  refine ⟨s.heap.objs.size, [s.heap.objs.size], [s.heap.objs.size], X.cps.size, SignAt X, St, m, news, J, rfl, W A hh, ?_, ?_, ?_, st0, F.push o, (fun p hp => ⟨Heap.get?_push_of_some _ (N p hp).1, (N p hp).2⟩), ?_, h0, ?_, ?_⟩
  · intro hm
    exact absurd F.ns.lt (List.mem_singleton.mp hm ▸ Nat.lt_irrefl _)
  · intro b hb
    rw [List.mem_singleton.mp hb]
    exact next_is_new F
  · intro p hp hI
    exact absurd (Heap.lt_size (N p hp).1) ((List.mem_singleton.mp hI) ▸ Nat.lt_irrefl _)
  · intro i s' v Q' _ hQ
    rw [ht]
    exact wpAny_pure hQ
  · intro i v m₁ news₁ s₁ own hi hP hJ hoff hsub hown hall hst F₁ N₁
    obtain ⟨c, u, hc, rfl⟩ := hP
    obtain ⟨oI, hoI⟩ := hSt _ _ hst
    have hmem := hall _ (.head _) (next_is_new F) oI hoI
    refine wpAny_mono (step _ oI i c u m₁ news₁ s₁ hc hJ (fun p hp e => hoff p hp (by rw [e]; exact .head _)) (fun p hp => Heap.lt_size (N p hp).1) F₁ (fun p hp => ?_)) (fun _ s₃ h₃ => wpAny_mono h₃ (fun f s₂ hq => ?_) fun _ _ e => e) fun _ _ e => e
    · rcases List.mem_cons.mp hp with rfl | hp
      · exact N₁ _ (List.mem_append_left _ hmem)
      · exact N₁ p (List.mem_append_right _ hp)
    · obtain ⟨hf, hq⟩ := hq
      refine (hq.toU fun p hp => ?_).resolve_right (by rw [hf]; intro e; cases e)
      have e1 := List.mem_singleton.mp (hsub p hp)
      have e2 := (N₁ p (List.mem_append_left _ hp)).1
      rw [e1, hoI] at e2
      obtain ⟨a, b⟩ := p
      cases e1; cases e2; rfl
  · intro h' tk m' news' F' N' hoff hJ
    exact done h' tk m' news' F' N' hJ
end
end Mine

end
section
open PySem PySem.W PyProof.Rows
set_option Elab.async false
namespace Mine
/-- a text by its signs -/
def S (l : List Nat) : Str := ⟨l.toArray⟩
theorem S_len (l : List Nat) : (S l).length = l.length := by simp [S, Str.length]
theorem S_list (l : List Nat) : (S l).cps.toList = l := by simp [S]
theorem S_size (l : List Nat) : (S l).cps.size = l.length := by simp [S]
theorem S_get (l : List Nat) (i : Nat) : (S l).cps[i]? = l[i]? := by simp [S]
theorem S_app (a b : List Nat) : S a ++ S b = S (a ++ b) := by
  refine Str.ext' ?_
  rw [Str.cps_append]; simp [S]
theorem S_inj {a b : List Nat} (h : S a = S b) : a = b := by
  have := congrArg (fun x : Str => x.cps.toList) h
  simpa [S] using this
/-- what lies behind the first sign c -/
def after (c : Nat) : List Nat → Option (List Nat)
  | [] => none
  | x :: t => if x = c then some t else after c t
/-- what lies behind the signs l, each sought behind the one before -/
def rest : List Nat → List Nat → Option (List Nat)
  | [], n => some n
  | c :: r, n => (after c n).bind (rest r)
def takes (l n : List Nat) : Bool := (rest l n).isSome
theorem rest_append (a b n : List Nat) : rest (a ++ b) n = (rest a n).bind (rest b) := by
  induction a generalizing n with
  | nil => rfl
  | cons c r ih =>
    simp only [List.cons_append, rest]
    cases after c n with
    | none => rfl
    | some t => exact ih t
theorem after_none {c : Nat} : ∀ {d : List Nat}, (∀ v : Nat, ∀ y, d[v]? = some y → y ≠ c) → after c d = none
  | [], _ => rfl
  | x :: t, h => by
    have h0 : x ≠ c := h 0 x rfl
    rw [after, if_neg h0]
    exact after_none fun v y e => h (v + 1) y (by simpa using e)
theorem after_some {c : Nat} : ∀ {d : List Nat} {j : Nat}, d[j]? = some c → (∀ v, v < j → ∀ y, d[v]? = some y → y ≠ c) → after c d = some (d.drop (j + 1))
  | [], j, h, _ => by simp at h
  | x :: t, 0, h, _ => by
    have : x = c := by simpa using h
    simp [after, this]
  | x :: t, j + 1, h, hn => by
    have h0 : x ≠ c := hn 0 (Nat.succ_pos _) x rfl
    rw [after, if_neg h0]
    have := after_some (c := c) (d := t) (j := j) (by simpa using h) fun v hv y e => hn (v + 1) (Nat.succ_lt_succ hv) y (by simpa using e)
    simpa using this
theorem getD_S (l : List Nat) (v : Nat) : (S l).cps.getD v 0 = l.getD v 0 := by
  simp [S, Array.getD]
  by_cases h : v < l.length
  · simp [h]
  · simp [h]
theorem fromIndex_nat (n p : Nat) : PySem.fromIndex n (p : Int) = p := by
  unfold PySem.fromIndex
  rw [if_neg (by omega)]; omega
theorem find_after (l : List Nat) (c p : Nat) :
    (Txt.find3 (S l) ⟨#[c]⟩ (p : Int) = -1 ∧ after c (l.drop p) = none) ∨
    ∃ k : Nat, Txt.find3 (S l) ⟨#[c]⟩ (p : Int) = (k : Int) ∧ p ≤ k ∧ k < l.length ∧ after c (l.drop p) = some (l.drop (k + 1)) := by
  have gd : ∀ v, ∀ y, l[v]? = some y → l.getD v 0 = y := fun v y e => by
    rw [List.getD_eq_getElem?_getD, e]; rfl
  rcases StrLaws.find3_spec (S l) c (p : Int) with ⟨h, hn⟩ | ⟨k, h, h1, h2, h3, h4⟩
  · refine .inl ⟨h, after_none fun v y e => ?_⟩
    rw [List.getElem?_drop] at e
    have hlt : p + v < l.length := (List.getElem?_eq_some_iff.mp e).1
    have := hn (p + v) (by rw [S_len, fromIndex_nat]; omega) (by rw [S_len]; omega)
    rw [getD_S, gd _ _ e] at this
    exact this
  · rw [S_len, fromIndex_nat] at h1
    rw [S_len] at h2
    refine .inr ⟨k, h, h1, h2, ?_⟩
    have e1 : (l.drop p)[k - p]? = some c := by
      rw [List.getElem?_drop, show p + (k - p) = k by omega, List.getElem?_eq_getElem h2]
      rw [getD_S, List.getD_eq_getElem?_getD, List.getElem?_eq_getElem h2] at h3
      exact congrArg some h3
    have := after_some e1 fun v hv y e => by
      rw [List.getElem?_drop] at e
      have hh := h4 (p + v) (by rw [S_len, fromIndex_nat]; omega) (by omega)
      rw [getD_S, gd _ _ e] at hh
      exact hh
    rw [this, List.drop_drop, show p + (k - p + 1) = k + 1 by omega]
end Mine

end
section
open PySem PySem.W PyProof.Rows
set_option Elab.async false
set_option maxRecDepth 100000
set_option maxHeartbeats 8000000
namespace Mine
section
variable {prog : Program} {w : World} {A : Around} {E : Value → Shared → Prop} {s : Shared} {env : Env} {h₀ : Heap} {x : Str} {body : List Stmt} {Q : Flow → Shared → Prop}
theorem strs_item {ws : List (List Nat)} {j : Nat} {x : Str} (h : (ws.map S)[j]? = some x) : ∃ wd, ws[j]? = some wd ∧ S wd = x := by
  rw [List.getElem?_map] at h
  cases hq : ws[j]? with
  | none => rw [hq] at h; cases h
  | some wd => rw [hq] at h; exact ⟨wd, rfl, Option.some.inj h⟩
theorem S_add {a b : List Nat} {t u : Tok} {Q : Value → Shared → Prop} (hsz : a.length + b.length ≤ sizeLine) (h : ∀ t' tk, Q (.str (S (a ++ b)) t') { s with toks := tk }) :
    wpAny (model prog w) A (binaryOp .Add (.str (S a) t) (.str (S b) u)) Q E s := by
  refine PyProof.Rows.add_str (fun t' tk => ?_) (by rw [S_len, S_len]; exact hsz)
  rw [S_app]; exact h t' tk
/-- the end of a comprehension's turn that has made nothing that stays -/
theorem comp_same {h₀ h' : Heap} {L : Addr} {m : Str → Option Value} {s₁ : Shared} {I : Addr} {oI : Obj} {C : Addr} {oC : Obj} {D : Addr} {oD : Obj} {S : Led → Prop} {rest : Value → Led → Prop} {y : Value} {news : Led} {tk : Nat}
    (F : Fr h₀ L h' m) (N : News h₀ L h' ((I, oI) :: (C, oC) :: (D, oD) :: news)) (off : LCg.Off3 I C D news) (hS : S news) (r : rest y news) : LCg.CompEnd h₀ L m s₁ I oI C oC D oD S rest y { s₁ with heap := h', toks := tk } :=
  ⟨h', tk, news, rfl, F, N, off, hS, r⟩
/-- a comprehension's turns, by an invariant -/
theorem rest_J {L : Addr} {m : Str → Option Value} {elt : Expr} {scope : Scope} {cl : List (Str × Addr)} {S : Led → Prop} {P : Nat → Value → Prop} {Fin : List Value → Led → Prop} {n : Nat} (J : Nat → List Value → Led → Prop)
    (turn : ∀ i v ys news I oI C oC D m₂ h tk (E' : Value → Shared → Prop), i < n → P i v → J i ys news → LCg.NsObj oC m₂ → m₂ x = some v → Fr h₀ L h m → News h₀ L h ((I, oI) :: (C, oC) :: (D, LCg.lst ys) :: news) → LCg.Off3 I C D news → ((@Ne Nat I C) ∧ (@Ne Nat I D) ∧ (@Ne Nat C D)) →
      wpAny (model prog w) A (eval elt (compEnvC scope cl C env)) (LCg.CompEnd h₀ L m { s with heap := h, toks := tk } I oI C oC D (LCg.lst ys) S (fun y news' => J (i + 1) (ys ++ [y]) news')) E' { s with heap := h, toks := tk })
    (done : ∀ ys news, J n ys news → Fin ys news) {ys : List Value} {news : Led} (h0 : J 0 ys news) : LCg.CompRest prog w A h₀ L m env elt x scope cl s S P Fin n 0 ys news := by
  have key : ∀ (j i : Nat) (ys : List Value) (news : Led), i + j = n → J i ys news → LCg.CompRest prog w A h₀ L m env elt x scope cl s S P Fin j i ys news := by
    intro j
    induction j with
    | zero => intro i ys news e hJ; obtain rfl : i = n := e; exact LCg.CompRest.zero (done _ _ hJ)
    | succ j ih =>
      intro i ys news e hJ
      refine LCg.CompRest.succ ?_
      intro v I oI C oC D m₂ h tk E' hv hC hx F N off ne
      refine wpAny_mono (turn i v ys news I oI C oC D m₂ h tk E' (by omega) hv hJ hC hx F N off ne) (fun y s₂ hq => ?_) fun _ _ e => e
      obtain ⟨h', tk', nw, e', F', N', off', hS, hJ'⟩ := hq
      exact ⟨h', tk', nw, e', F', N', off', hS, ih _ _ _ (by omega) hJ'⟩
  exact key n 0 ys news (by omega) h0
theorem restT_J {L : Addr} {m : Str → Option Value} {ct elt : Expr} {scope : Scope} {cl : List (Str × Addr)} {S : Led → Prop} {P : Nat → Value → Prop} {Fin : List Value → Led → Prop} {n : Nat} (J : Nat → List Value → Led → Prop)
    (turn : ∀ i v ys news I oI C oC D m₂ h tk (E' : Value → Shared → Prop), i < n → P i v → J i ys news → LCg.NsObj oC m₂ → m₂ x = some v → Fr h₀ L h m → News h₀ L h ((I, oI) :: (C, oC) :: (D, LCg.lst ys) :: news) → LCg.Off3 I C D news → ((@Ne Nat I C) ∧ (@Ne Nat I D) ∧ (@Ne Nat C D)) →
      wpAny (model prog w) A (isTrue ct (compEnvC scope cl C env) (eval ct (compEnvC scope cl C env))) (fun ok s' => if ok = true then
        wpAny (model prog w) A (eval elt (compEnvC scope cl C env)) (LCg.CompEnd h₀ L m { s with heap := h, toks := tk } I oI C oC D (LCg.lst ys) S (fun y news' => J (i + 1) (ys ++ [y]) news')) E' s'
        else LCg.CompEnd h₀ L m { s with heap := h, toks := tk } I oI C oC D (LCg.lst ys) S (fun _ news' => J (i + 1) ys news') Value.none s') E' { s with heap := h, toks := tk })
    (done : ∀ ys news, J n ys news → Fin ys news) {ys : List Value} {news : Led} (h0 : J 0 ys news) : LCt.CompRestT prog w A h₀ L m env ct elt x scope cl s S P Fin n 0 ys news := by
  have key : ∀ (j i : Nat) (ys : List Value) (news : Led), i + j = n → J i ys news → LCt.CompRestT prog w A h₀ L m env ct elt x scope cl s S P Fin j i ys news := by
    intro j
    induction j with
    | zero => intro i ys news e hJ; obtain rfl : i = n := e; exact LCt.CompRestT.zero (done _ _ hJ)
    | succ j ih =>
      intro i ys news e hJ
      refine LCt.CompRestT.succ ?_
      intro v I oI C oC D m₂ h tk E' hv hC hx F N off ne
      refine wpAny_mono (turn i v ys news I oI C oC D m₂ h tk E' (by omega) hv hJ hC hx F N off ne) (fun ok s₂ hq => ?_) fun _ _ e => e
      cases ok with
      | true =>
        refine wpAny_mono hq (fun y s₂ hq => ?_) fun _ _ e => e
        obtain ⟨h', tk', nw, e', F', N', off', hS, hJ'⟩ := hq
        exact ⟨h', tk', nw, e', F', N', off', hS, ih _ _ _ (by omega) hJ'⟩
      | false =>
        obtain ⟨h', tk', nw, e', F', N', off', hS, hJ'⟩ := hq
        exact ⟨h', tk', nw, e', F', N', off', hS, ih _ _ _ (by omega) hJ'⟩
  exact key n 0 ys news (by omega) h0
end
end Mine

end
section
open PySem PySem.W PyProof.Rows PySem.Calls
set_option Elab.async false
set_option maxRecDepth 100000
set_option maxHeartbeats 2000000
namespace Mine
theorem slot_md_get : Slot "method_descriptor" "__get__" "method_descriptor.__get__" :=
  .of (owner := "method_descriptor") (n := "__get__") (by rw [typeLookup_type, builtinLookup_eq_fast]; kernel_rfl) (by decide +kernel) (by decide +kernel) (by decide +kernel)
    (by first | exact .inl (by decide +kernel) | exact .inr (by decide +kernel)) (by rw [isSubtype_type]; kernel_rfl)
theorem md_noset : typeLookup (.type "method_descriptor") "__set__" = pure none := by rw [typeLookup_type, builtinLookup_eq_fast]; kernel_rfl
theorem md_nodel : typeLookup (.type "method_descriptor") "__delete__" = pure none := by rw [typeLookup_type, builtinLookup_eq_fast]; kernel_rfl
theorem entry_md_get : entryFor table "method_descriptor.__get__" = some Builtin.«method_descriptor.__get__» := entryFor_of_tree (by kernel_rfl)
theorem args_md_get (a b c : Value) : argsOk "method_descriptor.__get__" ⟨[a, b, c], []⟩ := by unfold argsOk; kernel_rfl
theorem lk_list_append : typeLookup (.type "list") "append" = pure (some (.builtin "list.append")) := by rw [typeLookup_type, builtinLookup_eq_fast]; kernel_rfl
/-- a built-in method bound to its object -/
def boundObj (id : String) (a : Addr) : Obj := { cls := .type "builtin_function_or_method", data := .fields #[.builtin id, .ref a] }
section
variable {prog : Program} {w : World} {A : Around} {E : Value → Shared → Prop} {h : Heap} {g : Array GenState} {d : Drawn} {t : Nat} {os : OsState} {a : Addr} {o : Obj}
theorem sub_list_list : isSubtype (.type "list") (.type "list") = pure true := by rw [isSubtype_type]; kernel_rfl
theorem own_append : (".".intercalate ("list.append".cutAt '.').dropLast) = "list" := by
  have e0 : "list.append".cutAt '.' = ["list", "append"] := by first | rfl | decide +kernel
  rw [e0]; decide +kernel
theorem sub_append : isSubtype (.type "list") (.type (".".intercalate ("list.append".cutAt '.').dropLast)) = pure true := by rw [own_append]; exact sub_list_list
theorem append_get {P : Fin → Shared → Prop} (hx : h.get? a = some o) (hc : o.cls = .type "list")
    (hq : P (.done (.ret (.ref h.objs.size))) ⟨h.push (boundObj "list.append" a), g, d, t, os⟩) :
    wpAny (model prog w) A (Builtin.«method_descriptor.__get__» ⟨[.builtin "list.append", .ref a, .type "list"], []⟩) P E ⟨h, g, d, t, os⟩ := by
  have hT : (⟨h, g, d, t, os⟩ : Shared).TypeIs (.ref a) "list" := ⟨_, hx, hc⟩
  have f1 := sub_append
  repeat (any_goals (first | assumption | wp_step))
theorem append_call {P : Result → Shared → Prop} (hx : h.get? a = some o) (hc : o.cls = .type "list")
    (hq : P (.ok (.ret (.ref h.objs.size))) ⟨h.push (boundObj "list.append" a), g, d, t, os⟩) :
    codeAny (model prog w) A (.call (.builtin "method_descriptor.__get__") ⟨[.builtin "list.append", .ref a, .type "list"], []⟩) P ⟨h, g, d, t, os⟩ :=
  codeAny_call_builtin slot_md_get.plain entry_md_get (slot_md_get.check _ _ _ _ _ _ _ _ (show (⟨h, g, d, t, os⟩ : Shared).TypeIs (.builtin "list.append") "method_descriptor" from type_list_append) (args_md_get _ _ _) (append_get hx hc hq))
theorem append_entry {tk : Tok} {xs : Array Value} {k : Nat} {Q : Fin → Shared → Prop} (hx : h.get? a = some (listOf xs k))
    (hq : Q (.done (.ret (.ref h.objs.size))) ⟨h.push (boundObj "list.append" a), g, d, t, os⟩) :
    wpAny (model prog w) A (Builtin.«object.__getattribute__» ⟨[.ref a, .str "append" tk], []⟩) Q E ⟨h, g, d, t, os⟩ := by
  have hT : (⟨h, g, d, t, os⟩ : Shared).TypeIs (.ref a) "list" := ⟨_, hx, rfl⟩
  have f4 := lk_list_append
  have f5 := type_list_append
  have f6 := slot_md_get.lookup
  have f7 := md_noset
  have f8 := md_nodel
  repeat (any_goals (first | assumption | with_reducible refine append_call hx rfl ?_ | wp_step))
theorem append_by {tk : Tok} {xs : Array Value} {k : Nat} {b e : Bool} {Q : Value → Shared → Prop} (hx : h.get? a = some (listOf xs k))
    (hq : Q (.ref h.objs.size) ⟨h.push (boundObj "list.append" a), g, d, t, os⟩) : wpAny (model prog w) A (getAttrBy (.ref a) (.str "append" tk) b e) Q E ⟨h, g, d, t, os⟩ := by
  have hT : (⟨h, g, d, t, os⟩ : Shared).TypeIs (.ref a) "list" := ⟨_, hx, rfl⟩
  have f2 := F.slot_list_getattribute.lookup
  have f3 := F.slot_list_getattribute.bind (.ref a)
  have gc : ∀ {A' : Around} {R : Result → Shared → Prop}, R (.ok (.ret (.ref h.objs.size))) ⟨h.push (boundObj "list.append" a), g, d, t, os⟩ → codeAny (model prog w) A' (.call (.builtin "list.__getattribute__") ⟨[.ref a, .str "append" tk], []⟩) R ⟨h, g, d, t, os⟩ := fun hR =>
    codeAny_call_builtin F.slot_list_getattribute.plain F.entry_list_ga (F.slot_list_getattribute.check _ _ _ _ _ _ _ _ hT (F.args_list_getattribute_2 _ _) (append_entry hx hR))
  cases e <;> (repeat (any_goals (first | assumption | ((with_reducible show codeAny _ _ _ _ _); refine gc ?_) | wp_step)))
theorem append_attr {xs : Array Value} {k : Nat} {e : Bool} {s : Shared} {Q : Value → Shared → Prop} (hx : s.heap.get? a = some (listOf xs k))
    (hq : Q (.ref s.heap.objs.size) { s with heap := s.heap.push (boundObj "list.append" a), toks := s.toks + 1 }) : wpAny (model prog w) A (getAttr (.ref a) "append" e) Q E s := by
  unfold getAttr
  refine wpAny_bind ?_
  unfold mkText
  refine wpAny_bind (wpAny_fresh ?_)
  exact wpAny_pure (append_by hx hq)
theorem sub_list_module : isSubtype (.type "list") (.type "module") = pure false := by rw [isSubtype_type]; kernel_rfl
theorem sub_list_type : isSubtype (.type "list") (.type "type") = pure false := by rw [isSubtype_type]; kernel_rfl
theorem check_append (l : Addr) (v : Value) {xs : Array Value} {k : Nat} {Q : Unit → Shared → Prop} (hx : h.get? l = some (listOf xs k)) (hq : Q () ⟨h, g, d, t, os⟩) : wpAny (model prog w) A (checkBoundCall "list.append" ⟨[.ref l, v], []⟩) Q E ⟨h, g, d, t, os⟩ := by
  have hT : (⟨h, g, d, t, os⟩ : Shared).TypeIs (.ref l) "list" := ⟨_, hx, rfl⟩
  have f1 := sub_list_module
  have f2 := sub_list_type
  unfold checkBoundCall
  repeat (any_goals (first | assumption | wp_step))
theorem quiet_append {as : Args} : (Code.builtin "list.append" as).quiet = true := Code.quiet_builtin _ (by decide +kernel)
theorem bound_append_call {x l : Addr} {v : Value} {xs : Array Value} {k : Nat} {s : Shared} {Q : Value → Shared → Prop} (hb : s.heap.get? x = some (boundObj "list.append" l)) (hx : s.heap.get? l = some (listOf xs k)) (hsz : xs.size ≤ sizeLine)
    (h : ∀ h', Heap.SameBut l s.heap h' → h'.get? l = some (listOf (xs.push v) (k + 1)) → Q .none { s with heap := h' }) : wpAny (model prog w) A (call (.ref x) [v]) Q E s := by
  refine wpAny_call (codeAny_of_tree ?_)
  show wpAny _ A.in1 (callAny (.ref x) ⟨[v], []⟩) _ _ s
  simp only [callAny]
  refine wpAny_bind (wpAny_load hb ?_)
  simp only [boundObj, show (Value.type "builtin_function_or_method" == Value.type "method" || Value.type "builtin_function_or_method" == Value.type "builtin_function_or_method" || Value.type "builtin_function_or_method" == Value.type "method-wrapper") = true by decide, if_true]
  refine KFB.if_so (by decide) ?_
  refine wpAny_bind (check_append l v hx ?_)
  refine wpAny_bind (wpAny_pure (wpAny_pure ?_))
  refine ⟨quiet_append, codeAny_builtin entry_list_append ?_⟩
  show wpAny _ _ (updateSeq l (·.push v) >>= fun _ => ret .none) _ _ s
  refine wpAny_bind ?_
  refine wpAny_updateSeq hx rfl (wpAny_pure (h _ (Heap.SameBut.update ..) ?_))
  rw [Heap.get?_update_self _ hx (by rw [mapSeq_push]; rfl), mapSeq_push]
def BoundAt (id : String) (x l : Addr) (h : Heap) : Prop := h.get? x = some (boundObj id l)
theorem BoundAt.of {id : String} {x l L : Addr} {h₀ h : Heap} {news : Led} (N : News h₀ L h news) (hm : (x, boundObj id l) ∈ news) : BoundAt id x l h := N.get hm
theorem callWith_bound {id : String} {pos : Pos} {x l : Addr} {first : List Value} {args : List (Bool × Sem Value)} {s : Shared} {Q : Value → Shared → Prop} (hplain : args.any (·.1) = false)
    (h : wpAny (model prog w) A (evalArgs (.ref x) true args []) (fun y s₁ => BoundAt id x l s₁.heap ∧ wpAny (model prog w) A (call (.ref x) (first ++ y.pos) y.kw) Q E s₁) E s) : wpAny (model prog w) A (callWith pos (.ref x) first args []) Q E s := by
  unfold callWith
  refine wpAny_bind (wpAny_holding (wpAny_mono h (fun y s₁ h₁ => wpAny_bind (wpAny_standAt ?_)) fun _ _ x => x))
  obtain ⟨ho, hcall⟩ := h₁
  simp only [hplain, List.any_nil, Bool.or_false]
  refine wpAny_bind (m := keeperOf (.ref x)) ?_
  unfold keeperOf
  refine wpAny_bind (wpAny_load ho ?_)
  simp only [boundObj, show (Value.type "builtin_function_or_method" != Value.type "method") = true by decide, show (Value.type "builtin_function_or_method" == Value.type "builtin_function_or_method" || Value.type "builtin_function_or_method" == Value.type "method-wrapper") = true by decide, if_true]
  refine wpAny_pure ?_
  exact wpAny_bind (wpAny_mono hcall (fun r s₂ hr => wpAny_bind (wpAny_holding (wpAny_point (wpAny_pure hr)))) fun _ _ x => x)
theorem callWith_bound1 {h₀ : Heap} {L : Addr} {news : Led} {id : String} {pos : Pos} {x l : Addr} {first : List Value} {env : Env} {e : Expr} {rest : List Expr} {s : Shared} {Q : Value → Shared → Prop} (_N : News h₀ L s.heap news) (_hm : (x, boundObj id l) ∈ news)
    (h : wpAny (model prog w) A (spliced (backTo pos (starEach (e :: rest) env))) (fun vs s₁ => BoundAt id x l s₁.heap ∧ wpAny (model prog w) A (call (.ref x) (first ++ vs)) Q E s₁) E s)
    (he : starEach (e :: rest) env = (false, eval e env) :: starEach rest env := by rfl) (hplain : (backTo pos (starEach rest env)).any (·.1) = false := by rfl) :
    wpAny (model prog w) A (callWith pos (.ref x) first (backTo pos (starEach (e :: rest) env)) []) Q E s := by
  rw [he] at h ⊢
  refine callWith_bound (id := id) (l := l) (by show (false || (backTo pos (starEach rest env)).any (·.1)) = false; rw [hplain]; rfl) ?_
  exact evalArgs_plain h
theorem bound_append {h₀ : Heap} {L : Addr} {m : Str → Option Value} {news news' : Led} {x l : Addr} {v : Value} {its : Array Value} {n : Nat} {s : Shared} {Q : Value → Shared → Prop} (F : Fr h₀ L s.heap m) (N : News h₀ L s.heap news) (hm : (x, boundObj "list.append" l) ∈ news)
    (U : Upd l (listOf its n) (listOf (its.push v) (n + 1)) news news')
    (h : ∀ h', Fr h₀ L h' m → News h₀ L h' news' → Q .none { s with heap := h' }) (hsz : its.size ≤ sizeLine) : wpAny (model prog w) A (call (.ref x) [v]) Q E s := by
  obtain ⟨pre, post, rfl, rfl, a, b⟩ := U.split
  have z := N (l, listOf its n) (List.mem_append.mpr (.inr (.head _)))
  exact bound_append_call (N _ hm).1 z.1 hsz fun h' hs ho' => h h' (F.change hs z.2.1 z.2.2) (news_set N a b hs ho')
theorem append_attrN {h₀ : Heap} {L : Addr} {m : Str → Option Value} {news : Led} {l : Addr} {its : Array Value} {n : Nat} {e : Bool} {s : Shared} {Q : Value → Shared → Prop} (F : Fr h₀ L s.heap m) (N : News h₀ L s.heap news) (hm : (l, listOf its n) ∈ news)
    (h : ∀ x h', Fr h₀ L h' m → News h₀ L h' ((x, boundObj "list.append" l) :: news) → (∀ p ∈ news, p.1 < x) → Q (.ref x) { s with heap := h', toks := s.toks + 1 }) : wpAny (model prog w) A (getAttr (.ref l) "append" e) Q E s :=
  append_attr (N _ hm).1 (h _ _ (F.push _) (N.push F _) fun p hp => Heap.lt_size (N p hp).1)
end
end Mine

end
section
open PySem PySem.W PyProof.Rows PySem.Calls
set_option Elab.async false
set_option maxRecDepth 100000
set_option maxHeartbeats 2000000
namespace Mine
/-- the tokens' counter never falls -/
theorem runs_toks {M : Model} {Γ : Ctx} {p : Pos} {t : Sem Fin} {fs : List Frame} {s : Shared} {e : End} {s' : Shared} (h : Runs M Γ p t fs s e s') : s.toks ≤ s'.toks := by
  induction h with
  | fresh _ ih => exact Nat.le_trans (Nat.le_succ _) ih
  | call _ _ ih1 ih2 => exact Nat.le_trans ih1 ih2
  | resumeFresh _ _ _ _ ih1 ih2 => exact Nat.le_trans ih1 ih2
  | resumeSuspended _ _ _ _ ih1 ih2 => exact Nat.le_trans ih1 ih2
  | segRet _ _ ih1 ih2 => exact Nat.le_trans ih1 ih2
  | segGen _ _ ih1 ih2 => exact Nat.le_trans ih1 ih2
  | segSuspGen _ _ _ _ ih1 ih2 => exact Nat.le_trans ih1 ih2
  | _ => first | exact Nat.le_refl _ | assumption
theorem wakes_toks {M : Model} {Γ : Ctx} {p : Pos} {g : Nat} {r : Resume} {s : Shared} {res : GenResult} {s' : Shared} (h : Wakes M Γ p g r s res s') : s.toks ≤ s'.toks := by
  unfold Wakes at h
  split at h
  · exact h.elim
  · split at h
    · obtain ⟨e₁, s₁, hr, _, _, rfl⟩ := h
      have := runs_toks hr
      exact this
    · rw [h.2]; exact Nat.le_refl _
    · rw [h.2]; exact Nat.le_refl _
  · obtain ⟨e₁, s₁, hr, _, _, rfl⟩ := h
    have := runs_toks hr
    exact this
  · rw [h.2]; exact Nat.le_refl _
  · rw [h.2]; exact Nat.le_refl _
theorem wp_toks {α : Type} {M : Model} {Γ : Ctx} {n : Nat} {Q : α → Pos → Shared → Prop} {E : Value → Pos → Shared → Prop} (t : Sem α) : ∀ (p : Pos) (s : Shared), n ≤ s.toks →
    Sem.wp M Γ t (fun a p s' => n ≤ s'.toks → Q a p s') E p s → Sem.wp M Γ t Q E p s := by
  induction t with
  | pure a => intro p s hn h; simp only [Sem.wp] at h ⊢; exact h hn
  | raise e => intro p s hn h; simp only [Sem.wp] at h ⊢; exact h
  | load a l k ih => intro p s hn h; simp only [Sem.wp] at h ⊢; obtain ⟨o, ho, h⟩ := h; exact ⟨o, ho, ih _ _ _ hn h⟩
  | update a l f k ih => intro p s hn h; simp only [Sem.wp] at h ⊢; exact ⟨h.1, ih _ _ _ hn h.2⟩
  | fresh k ih => intro p s hn h; simp only [Sem.wp] at h ⊢; exact ih _ _ _ (Nat.le_succ_of_le hn) h
  | choose src m k ih => intro p s hn h; simp only [Sem.wp] at h ⊢; exact ⟨h.1, ih _ _ _ hn h.2⟩
  | call c hd g l k ih =>
    intro p s hn h; simp only [Sem.wp, wpCode] at h ⊢
    obtain ⟨r, s', hr, h⟩ := h
    exact ⟨r, s', hr, ih _ _ _ (Nat.le_trans hn (runs_toks hr)) h⟩
  | genState g k ih => intro p s hn h; simp only [Sem.wp] at h ⊢; obtain ⟨o, ho, h⟩ := h; exact ⟨o, ho, ih _ _ _ hn h⟩
  | resume g r l k ih =>
    intro p s hn h; simp only [Sem.wp] at h ⊢
    obtain ⟨r, s', hr, h⟩ := h
    exact ⟨r, s', hr, ih _ _ _ (Nat.le_trans hn (wakes_toks hr)) h⟩
  | _ =>
    intro p s hn h
    simp only [Sem.wp] at h ⊢ <;> (first
    | exact h
    | (rename_i ih; exact ih _ _ _ hn h))
theorem toks_keep {α : Type} {M : Model} {A : Around} {n : Nat} {t : Sem α} {Q : α → Shared → Prop} {E : Value → Shared → Prop} {s : Shared} (hn : n ≤ s.toks)
    (h : wpAny M A t (fun v s' => n ≤ s'.toks → Q v s') E s) : wpAny M A t Q E s := fun Γ p hΓ => wp_toks t p s hn (h Γ p hΓ)
end Mine

end
section
open PySem PySem.W PyProof.Rows PySem.Calls
set_option Elab.async false
set_option maxRecDepth 100000
set_option maxHeartbeats 2000000
namespace Mine
def specials : List Nat := [40, 41, 91, 93, 123, 125, 63, 42, 43, 45, 124, 94, 36, 92, 46, 38, 126, 35, 32, 9, 10, 13, 11, 12]
def specEntries : List DictEntry := specials.zipIdx.map fun (i, j) => ⟨(i : Int), .int (i : Int) (323 + 6 * j), .str ⟨#[92, i]⟩ (327 + 6 * j)⟩
def mapObj : Obj := dictOf specEntries 24
theorem map_at {w : World} {h : Heap} (X : (K w.params).In h) : h.get? 38 = some mapObj := X 38 _ (by kernel_rfl)
theorem keys_ok {prog : Program} {w : World} : KeysOf (intKind prog w) specEntries.toArray := by
  have h : specEntries.all (fun e => match e.key with | .int i _ => e.hash == hashInt i | _ => false) = true := by decide +kernel
  intro e he
  have := List.all_eq_true.mp h e (by simpa using he)
  split at this
  · rename_i i t hk
    exact ⟨i, by rw [hk]; exact (by simp [intKind, Value.isInt] : (intKind prog w).is i (.int i t) = true), beq_iff_eq.mp this⟩
  · cases this
theorem map_of {prog : Program} {w : World} {h : Heap} (hm : h.get? 38 = some mapObj) : h.MapOf (intKind prog w) 38 (fun k => findBy (intKind prog w).is specEntries.toArray k) :=
  ⟨_, _, _, hm, ⟨rfl, rfl, rfl⟩, rfl, keys_ok, fun _ => rfl⟩
theorem find45 {prog : Program} {w : World} : findBy (intKind prog w).is specEntries.toArray 45 = some (.str ⟨#[92, 45]⟩ 381) := by kernel_rfl
theorem find97 {prog : Program} {w : World} : findBy (intKind prog w).is specEntries.toArray 97 = none := by kernel_rfl
theorem find33 {prog : Program} {w : World} : findBy (intKind prog w).is specEntries.toArray 33 = none := by kernel_rfl
section
variable {prog : Program} {w : World} {A : Around} {E : Value → Shared → Prop} {h : Heap} {g : Array GenState} {d : Drawn} {t : Nat} {os : OsState}
theorem sub_key_lookup : isSubtype (.type "KeyError") (.type "LookupError") = pure true := by rw [isSubtype_type]; kernel_rfl
theorem look_keep {c : Nat} {s : Shared} {Q : Builtin.Str.Mapped → Shared → Prop} (hh : A.handled = none) (hm : s.heap.get? 38 = some mapObj) (hf : findBy (intKind prog w).is specEntries.toArray (c : Int) = none)
    (hq : ∀ h' k, (∀ b o, s.heap.get? b = some o → h'.get? b = some o) → Q .keep { s with heap := h', toks := k }) : wpAny (model prog w) A (Builtin.Str.tableLookup (.ref 38) c) Q E s := by
  unfold Builtin.Str.tableLookup
  refine wpAny_bind (wpAny_attempt ?_)
  refine wpAny_bind (wpAny_mkInt ?_)
  refine wpAny_getItem_missing_of (knd := intKind prog w) (k := (c : Int)) (by simp [intKind, Value.isInt]) (by decide) hh (map_of hm) hf fun h' e hx => ?_
  obtain ⟨ob, tt, he, hc, _⟩ := hx.there
  refine wpAny_bind (wpAny_isInstance (T := "KeyError") (b := true) ⟨ob, he, hc⟩ sub_key_lookup ?_)
  exact KFB.if_so rfl (wpAny_bind (wpAny_rule (wpAny_pure (hq _ _ hx.keeps))))
theorem look_text {c : Nat} {y : Str} {u : Tok} {s : Shared} {Q : Builtin.Str.Mapped → Shared → Prop} (hm : s.heap.get? 38 = some mapObj) (hf : findBy (intKind prog w).is specEntries.toArray (c : Int) = some (.str y u))
    (hq : ∀ k, Q (.text y) { s with toks := k }) : wpAny (model prog w) A (Builtin.Str.tableLookup (.ref 38) c) Q E s := by
  unfold Builtin.Str.tableLookup
  refine wpAny_bind (wpAny_attempt ?_)
  refine wpAny_bind (wpAny_mkInt ?_)
  refine wpAny_getItem_of (knd := intKind prog w) (k := (c : Int)) (by simp [intKind, Value.isInt]) (map_of hm) hf ?_
  obtain ⟨h, g, d, t, os⟩ := s
  repeat (any_goals (first | assumption | wp_step))
  exact hq _
theorem translate_keep {c : Nat} {u : Tok} {P : Fin → Shared → Prop} (hh : A.handled = none) (hc : c < 128) (hm : h.get? 38 = some mapObj) (hf : findBy (intKind prog w).is specEntries.toArray (c : Int) = none)
    (hq : ∀ h' t' k, t ≤ t' → (∀ b o, h.get? b = some o → h'.get? b = some o) → P (.done (.ret (.str ⟨#[c]⟩ t'))) ⟨h', g, d, k, os⟩) :
    wpAny (model prog w) A (Builtin.«str.translate» ⟨[.str ⟨#[c]⟩ u, .ref 38], []⟩) P E ⟨h, g, d, t, os⟩ := by
  repeat (any_goals (first | assumption | ((with_reducible show wpAny _ _ (Builtin.Str.tableLookup _ _) _ _ _); refine toks_keep (n := t) (by first | exact Nat.le_refl _ | assumption) (look_keep (c := c) hh hm hf fun h' k hk => ?_); intro hle; (try replace hle : t ≤ k := hle)) | wp_step))
  have e1 : ∀ (x : Nat), List.foldl (fun (acc : Array Nat) (p : Str) => acc ++ p.cps) #[] [(⟨#[x]⟩ : Str)] = #[x] := fun x => by simp
  exact (congrArg (fun z => P (.done (.ret (.str ⟨z⟩ _))) _) (e1 c)).mpr (hq _ _ _ hle hk)
theorem translate_dash {u : Tok} {P : Fin → Shared → Prop} (hm : h.get? 38 = some mapObj)
    (hq : ∀ t' k, t ≤ t' → P (.done (.ret (.str ⟨#[92, 45]⟩ t'))) ⟨h, g, d, k, os⟩) :
    wpAny (model prog w) A (Builtin.«str.translate» ⟨[.str ⟨#[45]⟩ u, .ref 38], []⟩) P E ⟨h, g, d, t, os⟩ := by
  have hf := find45 (prog := prog) (w := w)
  repeat (any_goals (first | assumption | ((with_reducible show wpAny _ _ (Builtin.Str.tableLookup _ _) _ _ _); refine toks_keep (n := t) (by first | exact Nat.le_refl _ | assumption) ?_; refine look_text (c := 45) hm hf fun k => ?_; intro hle; (try replace hle : t ≤ k := hle)) | wp_step))
  have e1 : ∀ (x : Array Nat), List.foldl (fun (acc : Array Nat) (p : Str) => acc ++ p.cps) #[] [(⟨x⟩ : Str)] = x := fun x => by simp
  exact (congrArg (fun z => P (.done (.ret (.str ⟨z⟩ _))) _) (e1 #[92, 45])).mpr (hq _ _ hle)
theorem slot_translate : Slot "str" "translate" "str.translate" :=
  .of (owner := "str") (n := "translate") (by rw [typeLookup_type, builtinLookup_eq_fast]; kernel_rfl) (by decide +kernel) (by decide +kernel) (by decide +kernel)
    (by first | exact .inl (by decide +kernel) | exact .inr (by decide +kernel)) (by rw [isSubtype_type]; kernel_rfl)
theorem entry_translate : entryFor table "str.translate" = some Builtin.«str.translate» := entryFor_of_tree (by kernel_rfl)
theorem type_translate : typeOf (.builtin "str.translate") = pure (.type "method_descriptor") := by show builtinType _ = _; rw [builtinType_eq_fast]; kernel_rfl
theorem args_translate (a b : Value) : argsOk "str.translate" ⟨[a, b], []⟩ := by unfold argsOk; kernel_rfl
/-- what escape hands back, of a sign that is no special one and of the dash -/
def escaped (c : Nat) : List Nat := if c = 45 then [92, 45] else [c]
theorem translate_call {c : Nat} {u : Tok} {s : Shared} {Q : Value → Shared → Prop} (hh : A.handled = none) (hc : c = 97 ∨ c = 45 ∨ c = 33) (hm : s.heap.get? 38 = some mapObj)
    (hq : ∀ h' t' k, s.toks ≤ t' → (∀ b o, s.heap.get? b = some o → h'.get? b = some o) → Q (.str (S (escaped c)) t') { s with heap := h', toks := k }) :
    wpAny (model prog w) A (PySem.call (.builtin "str.translate") [.str (S [c]) u, .ref 38]) Q E s := by
  refine wpAny_call (codeAny_call_builtin slot_translate.plain entry_translate (slot_translate.check _ _ _ _ _ _ _ _ (typeIs_str s _ _) (args_translate _ _) ?_))
  obtain ⟨h, g, d, t, os⟩ := s
  rcases hc with rfl | rfl | rfl
  · exact translate_keep (c := 97) hh (by decide) hm find97 fun h' t' k hle hk => hq h' t' k hle hk
  · exact translate_dash hm fun t' k hle => hq h t' k hle fun _ _ e => e
  · exact translate_keep (c := 33) hh (by decide) hm find33 fun h' t' k hle hk => hq h' t' k hle hk
theorem getMethod_translate {x : Str} {u : Tok} {pl : Sem Bool} {s : Shared} {Q : Value × List Value → Shared → Prop} (hq : Q (.builtin "str.translate", [.str x u]) s) :
    wpAny (model prog w) A (getMethod (.str x u) "translate" pl) Q E s := by
  refine getMethod_builtin (T := "str") (id := "str.translate") ?_ ?_ ?_ ?_ ?_ ?_
  · exact typeIs_str s x u
  · exact F.plainAttrs_str
  · exact slot_translate
  · exact type_translate
  · intro a e; cases e
  · exact hq
end
end Mine

end
section
open PySem PySem.W PyProof.Rows PySem.Calls PySem.Builtin.Re
set_option Elab.async false
set_option maxRecDepth 100000
set_option maxHeartbeats 2000000
namespace Mine
def codeWords : List Int := [14, 14, 4, 1, 1, 9, 0, 64, 0, 1342177280, 0, 0, 0, 0, 0, 17, 0, 13, 11, 9, 0, 64, 0, 1342177280, 0, 0, 0, 0, 0, 17, 1, 1]
def codeObj : Obj := { cls := .type "tuple", data := .seq (codeWords.map fun i => Value.int i 0).toArray }
def patObj : Obj := { cls := .type "re.Pattern", data := .fields #[.str ⟨#[40, 91, 38, 126, 124, 93, 41]⟩ 283, .int 32 318, .int 1 0, .none, .none, .ref 35, .int 0 0] }
theorem pat_at {w : World} {h : Heap} (X : (K w.params).In h) : h.get? 36 = some patObj := X 36 _ (by rfl)
theorem code_at {w : World} {h : Heap} (X : (K w.params).In h) : h.get? 35 = some codeObj := X 35 _ (by rfl)
section
variable {prog : Program} {w : World} {A : Around} {E : Value → Shared → Prop} {h : Heap} {g : Array GenState} {d : Drawn} {t : Nat} {os : OsState}
theorem rules_all {c : Nat → Bool} {nm : Nat → String} {s : Shared} {Q : PUnit → Shared → Prop} (hq : Q ⟨⟩ s) : ∀ l : List Nat, wpAny (model prog w) A (forIn l PUnit.unit (fun i (_ : PUnit) => if c i = true then (do rule (nm i); pure (ForInStep.yield PUnit.unit)) else pure (ForInStep.yield PUnit.unit))) Q E s := by
  intro l
  induction l with
  | nil => rw [List.forIn_nil]; exact wpAny_pure hq
  | cons i r ih =>
    rw [List.forIn_cons]
    refine wpAny_bind ?_
    cases hc : c i with
    | true =>
      simp only [if_true]
      exact wpAny_bind (wpAny_rule (wpAny_pure ih))
    | false =>
      simp only [Bool.false_eq_true, if_false]
      exact wpAny_pure ih
theorem run_end {m : Sre.M} {s : Shared} {Q : Option Sre.M → Shared → Prop} (h4 : (m.runFor 4).outcome = some .failed) (hq : Q none s) : wpAny (model prog w) A (reRunToEnd m) Q E s := by
  unfold reRunToEnd
  refine wpAny_bind ?_
  rw [show (2 ^ 64 : Nat) = 18446744073709551615 + 1 by decide]
  unfold reDrive
  dsimp only [reTurnSteps]
  rw [h4]
  simp only [Option.isSome_some, if_true]
  refine wpAny_pure ?_
  refine wpAny_bind ?_
  refine rules_all (nm := fun i => Sre.names.getD i "") ?_ _
  rw [h4]
  exact wpAny_pure hq
def codeN : Array Nat := (codeWords.map Int.toNat).toArray
theorem fails42 : ((Sre.forSearch codeN #[42] 1 0 1 false).runFor 4).outcome = some .failed := by kernel_rfl
theorem fails63 : ((Sre.forSearch codeN #[63] 1 0 1 false).runFor 4).outcome = some .failed := by kernel_rfl
theorem fails91 : ((Sre.forSearch codeN #[91] 1 0 1 false).runFor 4).outcome = some .failed := by kernel_rfl
theorem sub_fn_call : typeLookup (.type "function") "__call__" = pure (some (.builtin "function.__call__")) := by rw [typeLookup_type, builtinLookup_eq_fast]; kernel_rfl
theorem sub_str_ba : isSubtype (.type "str") (.type "bytearray") = pure false := by rw [isSubtype_type]; kernel_rfl
theorem whole {c : Nat} {u : Tok} {Q : ReTarget → Shared → Prop} (hp : h.get? 36 = some patObj) (hc : h.get? 35 = some codeObj)
    (hq : Q { pattern := .ref 36, string := .str ⟨#[c]⟩ u, code := codeN, text := #[c], kind := 0, groups := 1, pos := 0, lim := 1 } ⟨h, g, d, t, os⟩) :
    wpAny (model prog w) A (reWholeTarget (.ref 36) (.str ⟨#[c]⟩ u)) Q E ⟨h, g, d, t, os⟩ := by
  repeat (any_goals (first | assumption | wp_step))
  have e1 : Array.map (fun x => x.toNat) (Array.map reRawOf ((some (List.map (fun i => Value.int i 0) codeWords).toArray).getD #[])) = codeN := by decide +kernel
  rw [e1]
  exact hq
theorem entry_sub_loop : entryFor table "re.Pattern.sub.loop" = some Builtin.«re.Pattern.sub.loop» := entryFor_of_tree (by kernel_rfl)
theorem quiet_sub_loop {as : Args} : (Code.builtin "re.Pattern.sub.loop" as).quiet = true := Code.quiet_builtin _ (by decide +kernel)
theorem sub_loop {f l : Addr} {c : Nat} {u : Tok} {k : Nat} {P : Fin → Shared → Prop} (hp : h.get? 36 = some patObj) (hc : h.get? 35 = some codeObj) (hl : h.get? l = some (listOf #[] k))
    (hs : ((Sre.forSearch codeN #[c] 1 0 1 false).runFor 4).outcome = some .failed)
    (hq : ∀ h' t' k', Heap.SameBut l h h' → P (.done (.ret (.str ⟨#[c]⟩ t'))) ⟨h', g, d, k', os⟩) :
    wpAny (model prog w) A (Builtin.«re.Pattern.sub.loop» ⟨[.ref 36, .str ⟨#[c]⟩ u, .ref f, rawInt 1, rawInt 0, rawInt 0, rawInt 0, rawInt 0, .bool false, .ref l, .bool false], []⟩) P E ⟨h, g, d, t, os⟩ := by
  have hs' : ((Sre.forSearch codeN #[c] 1 (0 : Int).toNat 1 false).runFor 4).outcome = some .failed := hs
  repeat (any_goals (first | assumption | ((with_reducible show wpAny _ _ (reWholeTarget _ _) _ _ _); refine whole hp hc ?_) | ((with_reducible show wpAny _ _ (reRunToEnd _) _ _ _); refine run_end hs' ?_) | ((fail_if_success (with_reducible show wpAny _ _ (PySem.call _ _ _) _ _ _)); wp_step)))
  refine PyProof.Rows.join_list (x := ⟨#[c].extract 0 0⟩) (ys := [⟨#[c]⟩]) (items := #[.str ⟨#[c].extract 0 1⟩ t]) ⟨_, Heap.get?_update_self _ hl rfl, rfl, _, rfl⟩ (.cons _ _ .nil) (by simp [Str.length]) fun t' k' => ?_
  repeat (any_goals (first | assumption | wp_step))
  have e2 : Txt.join ⟨#[c].extract 0 0⟩ [⟨#[c]⟩] = ⟨#[c]⟩ := by
    show Builtin.Str.glued _ _ = _
    rw [StrLaws.glued_eq_join]
    rfl
  rw [e2]
  exact hq _ _ _ (Heap.SameBut.update ..)
theorem sub_tree {f : Addr} {fo : Obj} {c : Nat} {u : Tok} {R : Result → Shared → Prop} (hp : h.get? 36 = some patObj) (hc : h.get? 35 = some codeObj) (hf : h.get? f = some fo) (hfc : fo.cls = .type "function")
    (hs : ((Sre.forSearch codeN #[c] 1 0 1 false).runFor 4).outcome = some .failed)
    (hq : ∀ h' t' k, (∀ b o, h.get? b = some o → h'.get? b = some o) → R (.ok (.ret (.str ⟨#[c]⟩ t'))) ⟨h', g, d, k, os⟩) :
    wpAny (model prog w) A.in1 (Builtin.«re.Pattern.sub» ⟨[.ref 36, .ref f, .str ⟨#[c]⟩ u], []⟩) (fun fin s' => match fin with | .done f => R (.ok f) s' | .again c' => c'.quiet = true ∧ codeAny (model prog w) A c' R s') (fun e s' => R (.error e) s') ⟨h, g, d, t, os⟩ := by
  have hT : (⟨h, g, d, t, os⟩ : Shared).TypeIs (.ref f) "function" := ⟨_, hf, hfc⟩
  have f1 := sub_fn_call
  have f2 := sub_str_ba
  repeat (any_goals (first | assumption | ((with_reducible show wpAny _ _ (reWholeTarget _ _) _ _ _); refine whole hp hc ?_) | wp_step))
  refine ⟨quiet_sub_loop, codeAny_builtin entry_sub_loop ?_⟩
  refine sub_loop (k := 0) (Heap.get?_push_of_some _ hp) (Heap.get?_push_of_some _ hc) (Heap.get?_push_size _ rfl) hs fun h' t' k' hsb => ?_
  refine hq h' t' k' fun b o e => ?_
  exact hsb.extBut b o (Nat.ne_of_lt (Heap.lt_size e)) (Heap.get?_push_of_some _ e)
theorem slot_sub : Slot "re.Pattern" "sub" "re.Pattern.sub" :=
  .of (owner := "re.Pattern") (n := "sub") (by rw [typeLookup_type, builtinLookup_eq_fast]; kernel_rfl) (by decide +kernel) (by decide +kernel) (by decide +kernel)
    (by first | exact .inl (by decide +kernel) | exact .inr (by decide +kernel)) (by rw [isSubtype_type]; kernel_rfl)
theorem entry_sub : entryFor table "re.Pattern.sub" = some Builtin.«re.Pattern.sub» := entryFor_of_tree (by kernel_rfl)
theorem type_sub : typeOf (.builtin "re.Pattern.sub") = pure (.type "method_descriptor") := by show builtinType _ = _; rw [builtinType_eq_fast]; kernel_rfl
theorem args_sub (a b c : Value) : argsOk "re.Pattern.sub" ⟨[a, b, c], []⟩ := by unfold argsOk; kernel_rfl
theorem sub_call {f : Addr} {fo : Obj} {c : Nat} {u : Tok} {s : Shared} {Q : Value → Shared → Prop} (hp : s.heap.get? 36 = some patObj) (hc : s.heap.get? 35 = some codeObj) (hf : s.heap.get? f = some fo) (hfc : fo.cls = .type "function")
    (hs : ((Sre.forSearch codeN #[c] 1 0 1 false).runFor 4).outcome = some .failed)
    (hq : ∀ h' t' k, (∀ b o, s.heap.get? b = some o → h'.get? b = some o) → Q (.str ⟨#[c]⟩ t') { s with heap := h', toks := k }) :
    wpAny (model prog w) A (PySem.call (.builtin "re.Pattern.sub") [.ref 36, .ref f, .str ⟨#[c]⟩ u]) Q E s := by
  refine wpAny_call (codeAny_call_builtin slot_sub.plain entry_sub (slot_sub.check _ _ _ _ _ _ _ _ (show s.TypeIs (.ref 36) "re.Pattern" from ⟨_, hp, rfl⟩) (args_sub _ _ _) ?_))
  obtain ⟨h, g, d, t, os⟩ := s
  exact sub_tree (R := fun r s' => match r with | .ok (.ret v) => Q v s' | .ok _ => False | .error e => E e s') hp hc hf hfc hs hq
theorem plainAttrs_pattern : PlainAttrs "re.Pattern" :=
  ⟨⟨"object.__getattribute__", by rw [typeLookup_type, builtinLookup_eq_fast]; kernel_rfl, by decide +kernel⟩, by rw [typeLookup_type, builtinLookup_eq_fast]; kernel_rfl⟩
theorem getMethod_sub {pl : Sem Bool} {s : Shared} {Q : Value × List Value → Shared → Prop} (hp : s.heap.get? 36 = some patObj) (hq : Q (.builtin "re.Pattern.sub", [.ref 36]) s) :
    wpAny (model prog w) A (getMethod (.ref 36) "sub" pl) Q E s :=
  getMethod_builtin (T := "re.Pattern") (id := "re.Pattern.sub") ⟨_, hp, rfl⟩ plainAttrs_pattern slot_sub type_sub (fun a e => by cases e; exact ⟨_, hp, rfl⟩) hq
end
end Mine

end
section
open PySem PySem.W PyProof.Rows PySem.Calls PySem.Builtin PySem.Builtin.Str
set_option Elab.async false
set_option maxRecDepth 100000
set_option maxHeartbeats 2000000
namespace Mine
/-- a lower bound of the tokens' counter -/
def Lo (lo k : Nat) : Prop := lo ≤ k
theorem Lo.add {lo k : Nat} (h : Lo lo k) (n : Nat) : Lo lo (k + n) := Nat.le_trans h (Nat.le_add_right _ _)
/-- as Ctr, the tokens' counter standing at lo at least -/
def CtrT (w : World) (loose : List Str) (mean : ExcName → Option Value) (mg mb : Str → Option Value) (f : Addr) (need : Nat) (vs : List Value) (news : Led) (lo : Nat) (post : Value → Led → Prop) : Prop :=
  ∀ (dp un : Nat) (gd : Option (List Code)) (cn : Str) (cs : Scope) (a : Addr) (ccd : Value) (cl : List (Str × Addr)) (outer : List Env) (A₀ : Around) (base h₀ : Heap) (L : Addr) (m : Str → Option Value) (s : Shared)
    (Q E : Value → Shared → Prop),
    Below A₀ base outer h₀ → Fr h₀ L s.heap m → (K w.params).In h₀ → News h₀ L s.heap news → Top topProg loose mean mg mb h₀ → cs.kind = .function → CodeHd h₀ 54 50 →
    dp + need < recursionLimit → un + 8 * need < cLine → Lo lo s.toks →
    (∀ r news' h' tk', Fr h₀ L h' m → News h₀ L h' news' → Lo lo tk' → post r news' → Q r { s with heap := h', toks := tk' }) →
    wpAny (model PySem.Challenge.rw_ku0020_01.row.prog w) (ktrTop dp un gd cn cs L a ccd cl outer) (call (.ref f) vs) Q E s
/-- at the start of a CtrT: the counter's bound comes back of itself -/
theorem CtrT.mk {w : World} {loose : List Str} {mean : ExcName → Option Value} {mg mb : Str → Option Value} {f : Addr} {need : Nat} {vs : List Value} {news : Led} {lo : Nat} {post : Value → Led → Prop}
    (C : ∀ (dp un : Nat) (gd : Option (List Code)) (cn : Str) (cs : Scope) (a : Addr) (ccd : Value) (cl : List (Str × Addr)) (outer : List Env) (A₀ : Around) (base h₀ : Heap) (L : Addr) (m : Str → Option Value) (s : Shared)
      (Q E : Value → Shared → Prop),
      Below A₀ base outer h₀ → Fr h₀ L s.heap m → (K w.params).In h₀ → News h₀ L s.heap news → Top topProg loose mean mg mb h₀ → cs.kind = .function → CodeHd h₀ 54 50 →
      dp + need < recursionLimit → un + 8 * need < cLine → Lo lo s.toks →
      (∀ r news' h' tk', Fr h₀ L h' m → News h₀ L h' news' → post r news' → Q r { s with heap := h', toks := tk' }) →
      wpAny (model PySem.Challenge.rw_ku0020_01.row.prog w) (ktrTop dp un gd cn cs L a ccd cl outer) (call (.ref f) vs) Q E s) : CtrT w loose mean mg mb f need vs news lo post :=
  fun dp un gd cn cs a ccd cl outer A₀ base h₀ L m s Q E B F X N T hk hC h1 h2 hl ret =>
    toks_keep hl (C dp un gd cn cs a ccd cl outer A₀ base h₀ L m s (fun v s' => lo ≤ s'.toks → Q v s') E B F X N T hk hC h1 h2 hl fun r news' h' tk' F' N' hp hle => ret r news' h' tk' F' N' hle hp)
theorem CtrT.use {w : World} {loose : List Str} {mean : ExcName → Option Value} {mg mb : Str → Option Value} {f : Addr} {need : Nat} {vs : List Value} {news : Led} {lo : Nat} {post : Value → Led → Prop}
    {dp un : Nat} {gd : Option (List Code)} {cn : Str} {cs : Scope} {a : Addr} {ccd : Value} {cl : List (Str × Addr)} {outer : List Env} {A₀ : Around} {base h₀ : Heap} {L : Addr} {m : Str → Option Value} {s : Shared}
    {Q E : Value → Shared → Prop} (C : CtrT w loose mean mg mb f need vs news lo post)
    (B : Below A₀ base outer h₀) (F : Fr h₀ L s.heap m) (X : (K w.params).In h₀) (N : News h₀ L s.heap news) (T : Top topProg loose mean mg mb h₀) (hk : cs.kind = .function) (hC : CodeHd h₀ 54 50)
    (h1 : dp + need < recursionLimit) (h2 : un + 8 * need < cLine) (hl : Lo lo s.toks)
    (ret : ∀ r news' h' tk', Fr h₀ L h' m → News h₀ L h' news' → Lo lo tk' → post r news' → Q r { s with heap := h', toks := tk' }) :
    wpAny (model PySem.Challenge.rw_ku0020_01.row.prog w) (ktrTop dp un gd cn cs L a ccd cl outer) (call (.ref f) vs) Q E s :=
  C _ _ _ _ _ _ _ _ _ _ _ _ _ _ _ _ _ B F X N T hk hC h1 h2 hl ret
theorem gen_toks {α : Type} {M : Model} {A : Around} {lo : Nat} {t : Sem α} {Q : α → Shared → Prop} {E : Value → Shared → Prop} {h : Heap} {g : Array GenState} {d : Drawn} {k : Nat} {os : OsState} (hl : Lo lo k)
    (hq : ∀ tk, Lo lo tk → wpAny M A t Q E ⟨h, g, d, tk, os⟩) : wpAny M A t Q E ⟨h, g, d, k, os⟩ := hq k hl
section
variable {prog : Program} {w : World} {A : Around} {E : Value → Shared → Prop} {Q : Flow → Shared → Prop} {s : Shared} {env : Env} {h₀ : Heap} {L : Addr}
/-- While_inv2, with the counter's bound at each turn -/
theorem While_invT {lo : Nat} {test : Expr} {body : List Stmt} {pos : Pos} {m : Str → Option Value} {news : List (Addr × Obj)} (J : Nat → (Str → Option Value) → List (Addr × Obj) → Prop) {n₀ : Nat} (hl : Lo lo s.toks)
    (F : Fr h₀ L s.heap m) (N : News h₀ L s.heap news) (hJ : J n₀ m news)
    (turn : ∀ n m₁ news₁ h₁ tk₁, Lo lo tk₁ → Fr h₀ L h₁ m₁ → News h₀ L h₁ news₁ → J n m₁ news₁ →
      wpAny (model prog w) A (isTrue test env (eval test env)) (fun b s₂ =>
        if b = true then wpAny (model prog w) A (execs body env) (WhileStep2 h₀ L s J Q n) E s₂ else Q .next s₂) E { s with heap := h₁, toks := tk₁ })
    (hE : PassesOwn (model prog w) A env E := by passes_own) :
    wpAny (model prog w) A (exec (.While test body [] pos) env) Q E s := by
  refine wpAny_While (codeAny_whileLoop (fun n s' => ∃ h₁ tk₁ m₁ news₁, s' = { s with heap := h₁, toks := tk₁ } ∧ Lo lo tk₁ ∧ Fr h₀ L h₁ m₁ ∧ News h₀ L h₁ news₁ ∧ J n m₁ news₁) ?_ n₀ ⟨s.heap, s.toks, m, news, rfl, hl, F, N, hJ⟩)
  rintro n s' ⟨h₁, tk₁, m₁, news₁, rfl, hl₁, F₁, N₁, J₁⟩
  refine toks_keep (n := lo) hl₁ ?_
  refine wpAny_mono (turn n m₁ news₁ h₁ tk₁ hl₁ F₁ N₁ J₁) (fun b s₂ h₂ hl₂ => ?_) hE
  cases b with
  | false =>
    simp only [Bool.false_eq_true, if_false] at h₂ ⊢
    exact wpAny_execs_nil h₂
  | true =>
    simp only [if_true] at h₂ ⊢
    refine toks_keep (n := lo) hl₂ ?_
    refine wpAny_mono h₂ (fun f s₃ h₃ hl₃ => ?_) hE
    cases f with
    | next =>
      obtain ⟨h', tk, m₂, news₂, n', rfl, F₂, N₂, hn, J₂⟩ := h₃
      exact ⟨n', hn, h', tk, m₂, news₂, rfl, hl₃, F₂, N₂, J₂⟩
    | cont =>
      obtain ⟨h', tk, m₂, news₂, n', rfl, F₂, N₂, hn, J₂⟩ := h₃
      exact ⟨n', hn, h', tk, m₂, news₂, rfl, hl₃, F₂, N₂, J₂⟩
    | brk => exact h₃
    | ret v => exact h₃
end
section
variable {prog : Program} {w : World} {A : Around} {E : Value → Shared → Prop} {s : Shared} {h₀ : Heap} {L : Addr} {m : Str → Option Value} {news : Led} {value slice : Expr} {Q : Value → Shared → Prop}
theorem len_S {l : List Nat} {t : Tok} (hl : l.length ≤ 1000000) (hq : Q (.int (l.length : Int) (s.toks + 1)) { s with toks := s.toks + 1 + 1 }) : wpAny (model prog w) A (call (.builtin "len") [.str (S l) t]) Q E s := by
  refine P.len_str ?_ ?_
  · rw [S_len]; omega
  · rw [S_len]; exact hq
/-- the sign at a place -/
def SignIs (l : List Nat) (i : Int) (c : Nat) : Prop := ∃ k : Nat, i = k ∧ l[k]? = some c
theorem item_S {l : List Nat} {t u : Tok} {i : Int} {c : Nat} (hi : SignIs l i c) (hl : l.length ≤ 1000000) (hq : Q (.str (S [c]) s.toks) { s with toks := s.toks + 1 })
    (hs : subscripted slice false (.str (S l) t) (.int i u) = operate [.str (S l) t, .int i u] (getItem (.str (S l) t) (.int i u)) := by with_unfolding_all rfl)
    (ht : ∀ r, letTemporaryGo value (.str (S l) t) r = pure () := by intro _; with_unfolding_all rfl) :
    wpAny (model prog w) A (subscriptTail value slice (.str (S l) t) (.int i u)) Q E s := by
  obtain ⟨k, rfl, hk⟩ := hi
  have hlt : k < l.length := (List.getElem?_eq_some_iff.mp hk).1
  refine tail_of_ItemOn ⟨"str", _, F.slot_str_getitem.lookup, typeIs_str _ _ _, P.getItem_str (c := c) ?_ ?_ hq⟩ hs ht
  · rw [Bool.or_eq_false_iff]; exact ⟨decide_eq_false (by omega), decide_eq_false (by omega)⟩
  · have e : seqIndex? (k : Int) (S l).length = some k := by
      rw [S_len]; unfold seqIndex?
      have n0 : ¬ (k : Int) < 0 := by omega
      have n1 : (decide (0 ≤ (k : Int)) && decide ((k : Int) < (l.length : Int))) = true := by
        rw [decide_eq_true (by omega : (0 : Int) ≤ k), decide_eq_true (by omega : (k : Int) < l.length)]; rfl
      simp only [n0, if_false, n1, if_true, Int.toNat_natCast]
    rw [e]; exact (S_get l k).trans hk
theorem eq_str_is {x y : Str} {t u : Tok} {b : Bool} (hb : (x.cps.toList == y.cps.toList) = b) (hq : Q (.bool b) s) : wpAny (model prog w) A (compareOp .Eq (.str x t) (.str y u)) Q E s :=
  P.eq_str (by rw [hb]; exact hq)
theorem ne_str_is {x y : Str} {t u : Tok} {b : Bool} (hb : (x.cps.toList == y.cps.toList) = b) (hq : Q (.bool (!b)) s) : wpAny (model prog w) A (compareOp .NotEq (.str x t) (.str y u)) Q E s :=
  P.ne_str (by rw [bne, hb]; exact hq)
theorem isNot_str {x y : Str} {t u : Tok} (h1 : t ≠ 0) (h2 : u ≠ 0) (h3 : t ≠ u) (h4 : (x == y) = false) (hq : Q (.bool true) s) : wpAny (model prog w) A (compareOp .IsNot (.str x t) (.str y u)) Q E s := by
  show wpAny (model prog w) A (do return Value.bool (!(← isSame (.str x t) (.str y u)))) Q E s
  refine wpAny_bind ?_
  rw [isSame_str_other x y t u (by rw [Bool.or_eq_false_iff]; exact ⟨beq_eq_false_iff_ne.mpr h1, beq_eq_false_iff_ne.mpr h2⟩) (beq_eq_false_iff_ne.mpr h3) h4]
  exact wpAny_pure (wpAny_pure hq)
theorem slice_ss {x y : Str} {t : Tok} {i j : Int} {ui uj : Tok} (F : Fr h₀ L s.heap m) (N : News h₀ L s.heap news) (e : Txt.slice x (some i) (some j) = y) (hq : ∀ h' t' k, Fr h₀ L h' m → News h₀ L h' news → Q (.str y t') { s with heap := h', toks := k })
    (hsz : x.length ≤ sizeLine)
    (hs : subscripted slice false (.str x t) (.ref s.heap.objs.size) = operate [.ref s.heap.objs.size, .str x t] (getItem (.str x t) (.ref s.heap.objs.size)) := by with_unfolding_all rfl)
    (ht : ∀ r, letTemporaryGo value (.str x t) r = pure () := by intro _; with_unfolding_all rfl) :
    wpAny (model prog w) A (subscriptTail value slice (.str x t) (.ref s.heap.objs.size)) Q E { s with heap := s.heap.push { cls := .type "slice", data := .fields #[.int i ui, .int j uj, .none] } } :=
  slice_strN_ss F N (by rw [e]; exact hq) hs ht hsz
theorem slice_ssL {lo : Nat} {x y : Str} {t : Tok} {i j : Int} {ui uj : Tok} (hl : Lo lo s.toks) (F : Fr h₀ L s.heap m) (N : News h₀ L s.heap news) (e : Txt.slice x (some i) (some j) = y) (hq : ∀ h' t' k, Lo lo k → Fr h₀ L h' m → News h₀ L h' news → Q (.str y t') { s with heap := h', toks := k })
    (hsz : x.length ≤ sizeLine)
    (hs : subscripted slice false (.str x t) (.ref s.heap.objs.size) = operate [.ref s.heap.objs.size, .str x t] (getItem (.str x t) (.ref s.heap.objs.size)) := by with_unfolding_all rfl)
    (ht : ∀ r, letTemporaryGo value (.str x t) r = pure () := by intro _; with_unfolding_all rfl) :
    wpAny (model prog w) A (subscriptTail value slice (.str x t) (.ref s.heap.objs.size)) Q E { s with heap := s.heap.push { cls := .type "slice", data := .fields #[.int i ui, .int j uj, .none] } } :=
  toks_keep (n := lo) hl (slice_ss F N e (fun h' t' k F' N' hle => hq h' t' k hle F' N') hsz hs ht)
theorem slice_sn {x y : Str} {t : Tok} {i : Int} {ui : Tok} (F : Fr h₀ L s.heap m) (N : News h₀ L s.heap news) (e : Txt.slice x (some i) none = y) (hq : ∀ h' t' k, Fr h₀ L h' m → News h₀ L h' news → Q (.str y t') { s with heap := h', toks := k })
    (hsz : x.length ≤ sizeLine)
    (hs : subscripted slice false (.str x t) (.ref s.heap.objs.size) = operate [.ref s.heap.objs.size, .str x t] (getItem (.str x t) (.ref s.heap.objs.size)) := by with_unfolding_all rfl)
    (ht : ∀ r, letTemporaryGo value (.str x t) r = pure () := by intro _; with_unfolding_all rfl) :
    wpAny (model prog w) A (subscriptTail value slice (.str x t) (.ref s.heap.objs.size)) Q E { s with heap := s.heap.push { cls := .type "slice", data := .fields #[.int i ui, .none, .none] } } :=
  slice_strN_sn F N (by rw [e]; exact hq) hs ht hsz
end
section
variable {prog : Program} {w : World} {A : Around} {E : Value → Shared → Prop} {s : Shared} {h₀ : Heap} {L : Addr} {news : Led}
theorem isList_of {l : Addr} {xs : Array Value} {k : Nat} (N : News h₀ L s.heap news) (hm : (l, listOf xs k) ∈ news) : s.heap.IsList l xs := ⟨_, (N _ hm).1, rfl, _, rfl⟩
theorem truthy_L {l : Addr} {xs : Array Value} {k : Nat} {b : Bool} {Q : Bool → Shared → Prop} (N : News h₀ L s.heap news) (hm : (l, listOf xs k) ∈ news) (hsz : xs.size ≤ 1000000) (hb : (!xs.isEmpty) = b)
    (hq : Q b { s with toks := s.toks + 1 + 1 }) : wpAny (model prog w) A (truthy (.ref l)) Q E s :=
  wpAny_truthy_list (isList_of N hm) (by omega) (by rw [hb]; exact hq)
theorem item_L {value slice : Expr} {l : Addr} {xs : Array Value} {k i : Nat} {u : Tok} {v : Value} {Q : Value → Shared → Prop} (N : News h₀ L s.heap news) (hm : (l, listOf xs k) ∈ news) (hsz : xs.size ≤ 1000000) (hx : xs[i]? = some v) (hq : Q v s)
    (hs : subscripted slice false (.ref l) (.int i u) = operate [.ref l, .int i u] (getItem (.ref l) (.int i u)) := by with_unfolding_all rfl) :
    wpAny (model prog w) A (subscriptTail value slice (.ref l) (.int i u)) Q E s := by
  have hlt : i < xs.size := by
    rcases Nat.lt_or_ge i xs.size with h | h
    · exact h
    · rw [Array.getElem?_eq_none h] at hx; cases hx
  exact subscriptTail_builtinR (isList_of N hm).typeIs slot_list_getitem.lookup (wpAny_getItem_list (Q := fun r s' => r = _ ∧ Q r s') (isList_of N hm) (by omega) (by omega) (by rw [Int.toNat_natCast]; exact hx) ⟨rfl, hq⟩) hs
theorem item_last {value slice : Expr} {l : Addr} {xs : List Value} {k : Nat} {u : Tok} {v : Value} {Q : Value → Shared → Prop} (N : News h₀ L s.heap news) (hm : (l, listOf (xs ++ [v]).toArray k) ∈ news) (hq : Q v s)
    (hs : subscripted slice false (.ref l) (.int (-1) u) = operate [.ref l, .int (-1) u] (getItem (.ref l) (.int (-1) u)) := by with_unfolding_all rfl) :
    wpAny (model prog w) A (subscriptTail value slice (.ref l) (.int (-1) u)) Q E s := by
  have hsz : ((xs ++ [v]).toArray.size : Int) = xs.length + 1 := by simp
  exact subscriptTail_builtinR (isList_of N hm).typeIs slot_list_getitem.lookup (wpAny_getItem_list_neg (Q := fun r s' => r = _ ∧ Q r s') (isList_of N hm) (by omega) (by omega) (by omega) (by rw [hsz, show (-1 + ((xs.length : Int) + 1)).toNat = xs.length by omega]; simp) ⟨rfl, hq⟩) hs
end
section
variable {prog : Program} {w : World} {A : Around} {E : Value → Shared → Prop} {s : Shared}
theorem replace_none {x y z : Str} {t u v : Tok} {Q : Value → Shared → Prop} (hn : (occurrences x y 0 x.length (x.length + 1)).isEmpty = true) (hq : Q (.str x t) s) :
    wpAny (model prog w) A (call (.builtin "str.replace") [.str x t, .str y u, .str z v]) Q E s := by
  refine call_gives F.slot_str_replace (typeIs_str _ _ _) F.entry_str_replace (F.args_str_replace_3 _ _ _)
    (gives_str_replace x y z t u v fun h => by rw [hn] at h; simp at h) ?_
  rw [hn]
  simp only [Bool.true_or, if_true]
  exact hq
theorem notIn_is {x y : Str} {t u : Tok} {b : Bool} {Q : Value → Shared → Prop} (hb : (occurrences x y 0 x.length 1).isEmpty = b) (hq : Q (.bool b) s) : wpAny (model prog w) A (compareOp .NotIn (.str y u) (.str x t)) Q E s := by
  refine P.notIn_str ?_
  rw [hb, Bool.not_not]; exact hq
end
/-- a code object's table of the code objects made within it -/
def TabOk (ps : Array Value) : Prop := TriplesOk ps.toList ∧ ∀ pos cv, codeAmong pos ps.toList = some cv → ∃ c' : Addr, cv = .ref c'
theorem TabOk.nil : TabOk #[] := ⟨trivial, fun pos cv h => by cases h⟩
theorem among_snoc (pos : Pos) (a b : Int) (c' : Addr) (l : List Value) (h : TriplesOk l) (hl : ∀ cv, codeAmong pos l = some cv → ∃ c' : Addr, cv = .ref c') :
    ∀ cv, codeAmong pos (l ++ [rawInt a, rawInt b, .ref c']) = some cv → ∃ c' : Addr, cv = .ref c' := by
  fun_induction TriplesOk l with
  | case1 =>
    intro cv e
    simp only [List.nil_append, codeAmong, rawInt] at e
    split at e
    · cases e; exact ⟨_, rfl⟩
    · cases e
  | case2 a t b u x rest ih =>
    intro cv e
    simp only [List.cons_append, codeAmong] at e hl
    split at e
    · rename_i hc; rw [if_pos hc] at hl; exact hl _ e
    · rename_i hc; rw [if_neg hc] at hl; exact ih h hl _ e
  | case3 l h1 h2 => exact h.elim
theorem TabOk.snoc {ps : Array Value} (h : TabOk ps) (a b : Int) (c' : Addr) : TabOk (ps ++ #[rawInt a, rawInt b, .ref c']) := by
  have e : (ps ++ #[rawInt a, rawInt b, .ref c']).toList = ps.toList ++ [rawInt a, rawInt b, .ref c'] := by simp
  exact ⟨by rw [e]; exact TriplesOk_snoc _ _ _ _ h.1, fun pos cv q => by rw [e] at q; exact among_snoc pos a b c' _ h.1 (h.2 pos) cv q⟩
section
variable {M : Model} {A : Around} {E : Value → Shared → Prop} {s : Shared} {h₀ : Heap} {L a c P : Addr} {m mg mb : Str → Option Value} {cn : Str} {cs : Scope} {ccd : Value} {cl : List (Str × Addr)} {news : List (Addr × Obj)} {g : Obj → List (Addr × Obj)}
  {p : Program} {loose : List Str} {mean : ExcName → Option Value} {name qual : Str} {params : Arguments} {body : Expr} {scope : Scope} {ps : Array Value} {pos : Pos} {firstLine : Nat} {clos : List (Str × Addr)}
/-- a lambda is made, its code object new or known -/
theorem lam_any {lo : Nat} {Q : Value → Shared → Prop} (hl : Lo lo s.toks) (F : Fr h₀ L s.heap m) (N : News h₀ L s.heap news) (T : Top p loose mean mg mb h₀) (C : CodeHd h₀ c P) (hcd : ccd = .ref c) (U : UpdF P (tabObj ps) news g) (ht : TabOk ps)
    (hcl : closureFor scope (envX cn cs L a ccd cl) = pure clos)
    (h : ∀ f fo ps' h' tk, Lo lo tk → Fr h₀ L h' m → News h₀ L h' ((f, fo) :: g (tabObj ps')) → fo.cls = .type "function" → TabOk ps' → (∀ q ∈ news, q.1 < f) → Q (.ref f) { s with heap := h', toks := tk }) :
    wpAny M A (makeFunction name qual params (.expr body) scope (envX cn cs L a ccd cl) [] [] [] pos firstLine) Q E s := by
  refine toks_keep (n := lo) hl ?_
  cases hc : codeAmong pos ps.toList with
  | none =>
    refine kla_nest F N T C hcd U ht.1 hc hcl fun f c' oc vs t ctv h' tk F' N' _ _ h1 h2 hle => ?_
    exact h f _ _ h' tk hle F' (cb_drop N' (by intro q hq; simp only [List.mem_cons] at hq ⊢; exact hq.elim .inl fun hq => .inr (.inr hq))) rfl (ht.snoc _ _ _) fun q hq => Nat.lt_trans (h1 q hq) h2
  | some cv =>
    obtain ⟨c', rfl⟩ := ht.2 _ _ hc
    obtain ⟨own, rest, hn, hg, _, _⟩ := U.split
    have e : g (tabObj ps) = news := by rw [hg, hn]
    exact kla_hit F N T C hcd (by rw [hn]; exact List.mem_append_right _ (.head _)) ht.1 hc hcl fun f ctv h' tk F' N' h1 hle => h f _ ps h' tk hle F' (by rw [e]; exact N') rfl ht h1
end
section
variable {prog : Program} {w : World} {A : Around} {E : Value → Shared → Prop} {s : Shared}
theorem sub_S {lo c : Nat} {u : Tok} {f : Addr} {fo : Obj} {Q : Value → Shared → Prop} (hl : Lo lo s.toks) (hp : s.heap.get? 36 = some patObj) (hc : s.heap.get? 35 = some codeObj) (hf : s.heap.get? f = some fo) (hfc : fo.cls = .type "function") (h : c = 42 ∨ c = 63 ∨ c = 91)
    (hq : ∀ h' t' k, Lo lo k → (∀ b o, s.heap.get? b = some o → h'.get? b = some o) → Q (.str (S [c]) t') { s with heap := h', toks := k }) :
    wpAny (model prog w) A (PySem.call (.builtin "re.Pattern.sub") [.ref 36, .ref f, .str (S [c]) u]) Q E s := by
  refine toks_keep (n := lo) hl ?_
  refine sub_call (c := c) (u := u) hp hc hf hfc ?_ fun h' t' k hk hle => hq h' t' k hle hk
  rcases h with rfl | rfl | rfl
  · exact fails42
  · exact fails63
  · exact fails91
end
theorem truthy_S1 {prog : Program} {w : World} {A : Around} {E : Value → Shared → Prop} {s : Shared} {c : Nat} {t : Tok} {Q : Bool → Shared → Prop} (hq : Q true { s with toks := s.toks + 1 + 1 }) : wpAny (model prog w) A (truthy (.str (S [c]) t)) Q E s := by
  refine P.truthy_str (by rw [S_len]; simp) ?_
  rw [S_len]; exact hq
section
variable {prog : Program} {w : World} {A : Around} {E : Value → Shared → Prop} {s : Shared} {lo : Nat} {x y : Str} {t u : Tok} {Q : Value → Shared → Prop}
theorem add_L (hl : Lo lo s.toks) (hsz : x.length + y.length ≤ sizeLine) (hq : ∀ t' k, Lo lo k → Q (.str (x ++ y) t') { s with toks := k }) : wpAny (model prog w) A (binaryOp .Add (.str x t) (.str y u)) Q E s :=
  toks_keep (n := lo) hl (PyProof.Rows.add_str (fun t' k hle => hq t' k hle) hsz)
theorem field_L (hl : Lo lo s.toks) (hsz : x.length ≤ sizeLine) (hq : ∀ t' k, Lo lo k → Q (.str x t') { s with toks := k }) : wpAny (model prog w) A (formatField (.str x t) Str.empty) Q E s :=
  toks_keep (n := lo) hl (formatField_str (fun t' k hle => hq t' k hle) hsz)
end
theorem drop1 {h₀ h : Heap} {L : Addr} {p : Addr × Obj} {news : Led} (N : News h₀ L h (p :: news)) : News h₀ L h news := cb_drop N fun _ hq => .tail _ hq
theorem in_is {prog : Program} {w : World} {A : Around} {E : Value → Shared → Prop} {s : Shared} {x y : Str} {t u : Tok} {b : Bool} {Q : Value → Shared → Prop} (hb : (occurrences x y 0 x.length 1).isEmpty = b) (hq : Q (.bool (!b)) s) : wpAny (model prog w) A (compareOp .In (.str y u) (.str x t)) Q E s := by
  refine P.in_str ?_
  rw [hb]; exact hq
/-- a cut of a text -/
theorem slice_S {l : List Nat} {i j : Nat} (h1 : i ≤ j) (h2 : j ≤ l.length) : Txt.slice (S l) (some (i : Int)) (some (j : Int)) = S ((l.drop i).take (j - i)) := by
  refine (StrLaws.sliceText_nat (S l) h1 (by rw [S_len]; exact h2)).trans ?_
  rw [S_list]; rfl
theorem slice_S_from {l : List Nat} {i : Nat} (h1 : i ≤ l.length) : Txt.slice (S l) (some (i : Int)) none = S (l.drop i) := by
  have e := StrLaws.sliceText_from (x := S l) (i := (i : Int)) ⟨by omega, by rw [S_list]; omega⟩
  refine Eq.trans (show Txt.slice (S l) (some (i : Int)) none = StrLaws.sliceText (S l) (some (i : Int)) none from rfl) (e.trans ?_)
  rw [S_list, Int.toNat_natCast]
  have e2 : ((l.length : Int) - (i : Int)).toNat = (l.drop i).length := by rw [List.length_drop]; omega
  rw [e2, List.take_length]; rfl
end Mine

end
section
open PySem PySem.W PyProof.Rows
set_option Elab.async false
set_option maxRecDepth 100000
namespace Mine
def evens {α : Type} : List α → List α
  | [] => []
  | [a] => [a]
  | a :: _ :: r => a :: evens r
def odds {α : Type} : List α → List α
  | [] => []
  | _ :: r => evens r
theorem evens_at {α : Type} : ∀ (vs : List α), ((List.range ((vs.length + 1) / 2)).map (fun k => 2 * k)).filterMap (vs[·]?) = evens vs
  | [] => by simp [evens]
  | [a] => by simp [evens, List.range_succ]
  | a :: b :: r => by
    have ih := evens_at r
    have e : ((a :: b :: r).length + 1) / 2 = (r.length + 1) / 2 + 1 := by simp only [List.length_cons]; omega
    rw [e, List.range_succ_eq_map, List.map_cons, List.map_map, List.filterMap_cons]
    simp only [Nat.mul_zero, List.getElem?_cons_zero, evens]
    rw [← ih, List.filterMap_map, List.filterMap_map]
    congr 1
theorem pick_evens (vs : List Value) : (slicePick vs.toArray none none (some 2)).toList = evens vs := by
  rw [← evens_at vs]
  unfold slicePick sliceBounds sliceRange
  simp only [Option.getD_some, List.size_toArray, show (2 : Int) > 0 by decide, if_true]
  have e : (if (0 : Int) < (vs.length : Int) then ((vs.length : Int) - 0 + 2 - 1) / 2 else 0).toNat = (vs.length + 1) / 2 := by
    split <;> omega
  rw [e]
  congr 1
  · funext i; simp
  · congr 1; funext k; omega
theorem pick_odds (vs : List Value) (h : 1 ≤ vs.length) : (slicePick vs.toArray (some 1) none (some 2)).toList = odds vs := by
  obtain ⟨a, r, rfl⟩ : ∃ a r, vs = a :: r := by
    cases vs with
    | nil => simp at h
    | cons a r => exact ⟨a, r, rfl⟩
  show _ = evens r
  rw [← evens_at r]
  unfold slicePick sliceBounds sliceRange
  simp only [Option.getD_some, List.size_toArray, show (2 : Int) > 0 by decide, if_true, List.length_cons, show ¬ ((1 : Int) < 0) by decide, if_false]
  have e0 : max (0 : Int) (min 1 ((r.length + 1 : Nat) : Int)) = 1 := by omega
  rw [e0]
  have e : (if (1 : Int) < ((r.length + 1 : Nat) : Int) then (((r.length + 1 : Nat) : Int) - 1 + 2 - 1) / 2 else 0).toNat = (r.length + 1) / 2 := by
    split <;> omega
  rw [e, List.filterMap_map, List.filterMap_map]
  congr 1
  funext k
  have : ((1 : Int) + 2 * (k : Int)).toNat = 2 * k + 1 := by omega
  simp [this]
theorem strsAre_evensN : ∀ (n : Nat) {vs : List Value} {ys : List Str}, vs.length ≤ n → StrsAre vs ys → StrsAre (evens vs) (evens ys) := by
  intro n
  induction n using Nat.strongRecOn with
  | ind n ih =>
    intro vs ys hn h
    cases h with
    | nil => exact .nil
    | cons x t r =>
      cases r with
      | nil => exact .cons x t .nil
      | cons y u r => exact .cons x t (ih (n - 2) (by simp at hn; omega) (by simp at hn; omega) r)
theorem strsAre_evens {vs : List Value} {ys : List Str} (h : StrsAre vs ys) : StrsAre (evens vs) (evens ys) := strsAre_evensN _ (Nat.le_refl _) h
theorem strsAre_odds {vs : List Value} {ys : List Str} (h : StrsAre vs ys) : StrsAre (odds vs) (odds ys) := by
  cases h with
  | nil => exact .nil
  | cons x t r => exact strsAre_evens r
end Mine

end
section
open PySem PySem.W PyProof.Rows PyProof.Rows.LCg
set_option Elab.async false
set_option maxRecDepth 100000
set_option maxHeartbeats 2000000
namespace Mine
section
variable {prog : Program} {w : World} {A : Around} {E : Value → Shared → Prop} {s : Shared} {h₀ : Heap} {L : Addr} {m : Str → Option Value} {env : Env}
theorem pyIter_strT {X : Str} {t : Tok} {Q : Value → Shared → Prop}
    (hQ : ∀ (o : Obj) (St : Nat → Heap → Prop), (∀ A' : Around, A'.handled = none → Walks prog w A' s.heap.objs.size [s.heap.objs.size] [s.heap.objs.size] X.cps.size (SignAt X) St) → St 0 (s.heap.push o) →
      (∀ i h, St i h → ∃ o, h.get? s.heap.objs.size = some o) → (∀ i h h' o, St i h → h.get? s.heap.objs.size = some o → h'.get? s.heap.objs.size = some o → St i h') → Q (.ref s.heap.objs.size) { s with heap := s.heap.push o }) : wpAny (model prog w) A (pyIter (.str X t)) Q E s := by
  have st : ∀ {P : Obj → Prop} (h h' : Heap) (o : Obj), (∃ o, h.get? s.heap.objs.size = some o ∧ P o) → h.get? s.heap.objs.size = some o → h'.get? s.heap.objs.size = some o → ∃ o, h'.get? s.heap.objs.size = some o ∧ P o := by
    rintro P h h' o ⟨o', e', hp⟩ e e2
    rw [e'] at e; cases e; exact ⟨_, e2, hp⟩
  cases ha : X.cps.all (· < 128)
  · exact wpAny_pyIter_wide ha (hQ _ _ (fun A' hA => Walks.strWide hA _ X t) ⟨_, Heap.get?_push_size _ rfl, rfl, rfl⟩ (fun _ _ ⟨o, e, _⟩ => ⟨o, e⟩) fun i h h' o a b c => st h h' o a b c)
  · exact wpAny_pyIter_ascii ha (hQ _ _ (fun A' hA => Walks.strAscii hA _ X t) ⟨_, Heap.get?_push_size _ rfl, rfl, rfl⟩ (fun _ _ ⟨o, e, _⟩ => ⟨o, e⟩) fun i h h' o a b c => st h h' o a b c)
/-- the source of a comprehension that is a text -/
def StrSrc (prog : Program) (w : World) (A : Around) (h₀ : Heap) (L : Addr) (m : Str → Option Value) (env : Env) (elt : Expr) (x : Str) (scope : Scope) (cl : List (Str × Addr)) (Fin : Shared → List Value → Led → Prop) (xv : Value) (s₁ : Shared) : Prop :=
  ∃ X t news, xv = .str X t ∧ A.handled = none ∧ Fr h₀ L s₁.heap m ∧ News h₀ L s₁.heap news ∧ X.cps.size ≤ sizeLine ∧
    ∀ g, CompRest prog w A h₀ L m env elt x scope cl { s₁ with heap := g } (fun _ => True) (SignAt X) (Fin { s₁ with heap := g }) X.cps.size 0 [] news
theorem StrSrc.text {elt : Expr} {x : Str} {scope : Scope} {cl : List (Str × Addr)} {Fin : Shared → List Value → Led → Prop} {l : List Nat} {t : Tok} {news : Led} {s₁ : Shared}
    (hh : A.handled = none) (F : Fr h₀ L s₁.heap m) (N : News h₀ L s₁.heap news) (hsz : l.length ≤ 1000000)
    (h : ∀ g, CompRest prog w A h₀ L m env elt x scope cl { s₁ with heap := g } (fun _ => True) (SignAt (S l)) (Fin { s₁ with heap := g }) l.length 0 [] news) :
    StrSrc prog w A h₀ L m env elt x scope cl Fin (.str (S l) t) s₁ := ⟨S l, t, news, rfl, hh, F, N, by rw [S_size, sizeLine_eq]; omega, by rw [S_size]; exact h⟩
/-- x = [.. for c in text]: by the turns -/
theorem Assign_comp_str {elt iter : Expr} {x y : Str} {px py : Pos} {scope : Scope} {cl : List (Str × Addr)} {pos spos : Pos} {Q : Flow → Shared → Prop} (F₀ : Fr h₀ L s.heap m) (hLe : env.locals = L)
    (hsw : swapsWith (.ListComp elt [⟨.Name x px, iter, [], 0⟩] scope pos) (some (.Name y py)) spos.line env = pure true)
    (hclos : closureFor scope env = pure cl) (hcell : ∀ z ∈ scope.names, z.2 ≠ .cell) (hkind : scope.kind = .function)
    (hnames : ∀ z ∈ scope.names, z.2 = .local → scope.names.lookup z.1 = some .local) (hx : scope.names.lookup x = some .local)
    (hy : env.kindOf y = some .local) (hp : (env.scope.kind == .class || (env.scope.kind == .module && env.locals != env.globals)) = false)
    (h : wpAny (model prog w) A (eval iter env) (StrSrc prog w A h₀ L m env elt x scope cl (fun s₂ => FinA h₀ L m s₂ y Q)) E s)
    (hs : ∀ x, foldedSetIterable iter env x = pure x := by intro _; rfl) :
    wpAny (model prog w) A (exec (.Assign [.Name y py] (.ListComp elt [⟨.Name x px, iter, [], 0⟩] scope pos) spos) env) Q E s := by
  subst hLe
  rw [exec_Assign_Name_used _ _ _ _ hsw]
  refine wpAny_bind (wpAny_standAt (wpAny_bind ?_))
  show wpAny _ A (do let _ ← comprehension (.ListComp elt [⟨.Name x px, iter, [], 0⟩] scope pos) scope env _ (newList []) false (eval iter env) (some (assign (.Name y py) env))) _ _ s
  refine wpAny_bind (wpAny_mono (wpAny_comprehension_free (use := some (assign (.Name y py) env)) (Q := fun _ s' => Q .next s') rfl hs hclos hkind hnames
    (wpAny_mono h (fun xv s₁ h₁ => ?_) fun _ _ e => e)) (fun _ s' hq => wpAny_pure (wpAny_pure hq)) fun _ _ e => e)
  obtain ⟨X, t, news, rfl, hh, F, N, hsz, R⟩ := h₁
  refine pyIter_strT fun o St W st0 hSt hst => ?_
  refine block_U (W _ hh) hsz hSt (fun i h h' o _ a b c _ _ _ => hst i h h' o a b c) hcell hkind hx st0 (fun b hb => ?_)
    (F.keeps fun _ _ e => Heap.get?_push_of_some _ e) (N.grown fun _ _ e => Heap.get?_push_of_some _ e) (Nat.ne_of_lt F.ns.lt) (next_is_new F) (fun p hp => Nat.ne_of_lt (Heap.lt_size (N p hp).1)) trivial (R _) ?_
  · rw [List.mem_singleton.mp hb]
    show s₁.heap.objs.size < (s₁.heap.push _).objs.size
    rw [Heap.size_push]; exact Nat.lt_succ_self _
  · intro D C h' tk m' ys news' F' N' o1 hn hC₀ hD₀ hCL hDL hCD offC fin
    show wpAny _ A (assign (.Name y py) env (.ref D)) _ _ _
    refine wpAny_assign_Name (wpAny_storeName_local hy F'.ns (fun h₂ hn₂ hs₂ => ?_) hp)
    have hL₀ : h₀.get? env.locals = none := Heap.get?_none_of_le F'.above
    have F₂ : Fr h₀ env.locals h₂ (fun z => if z = y then some (.ref D) else m z) := ⟨hn₂, fun b o e => hs₂.extBut b o (fun q => by rw [q, hL₀] at e; cases e) (F'.keep b o e), F'.above⟩
    refine ⟨m', hn.sameBut hs₂ hCL, fun h'' hs'' => fin D h'' _ (F₂.change hs'' hCL hC₀) (fun p hp => ?_) o1⟩
    have z : h₂.get? p.1 = some p.2 := hs₂.extBut _ _ (N' p hp).2.1 (N' p hp).1
    refine ⟨hs''.extBut _ _ ?_ z, (N' p hp).2⟩
    rcases List.mem_cons.mp hp with rfl | hp
    · exact Ne.symm hCD
    · exact offC p hp
end
theorem join_empty : ∀ ws : List (List Nat), Str.join (S []) (ws.map S) = S ws.flatten
  | [] => rfl
  | [a] => by simp [Str.join]
  | a :: b :: r => by
    have ih := join_empty (b :: r)
    simp only [List.map_cons] at ih
    simp only [List.map_cons, Str.join, ih, S_app, List.flatten_cons, List.nil_append, List.append_nil]
theorem join_S {prog : Program} {w : World} {A : Around} {E : Value → Shared → Prop} {s : Shared} {h₀ : Heap} {L : Addr} {news : Led} {D : Addr} {ys : List Value} {k : Nat} {ws : List (List Nat)} {t : Tok} {Q : Value → Shared → Prop}
    (N : News h₀ L s.heap news) (hm : (D, listOf ys.toArray k) ∈ news) (hi : StrsAre ys (ws.map S)) (hok : ws.flatten.length ≤ 1000000) (h : ∀ t' k, Q (.str (S ws.flatten) t') { s with toks := k }) :
    wpAny (model prog w) A (call (.builtin "str.join") [.str (Str.ofString "") t, .ref D]) Q E s := by
  refine PyProof.Rows.join_list (ys := ws.map S) (isList_of N hm) hi ?_ fun t' k => ?_
  · have e : ((ws.map S).map (·.length)).sum = ws.flatten.length := by
      rw [List.map_map, List.length_flatten]; exact congrArg List.sum (List.map_congr_left fun a _ => S_len a)
    rw [e, show (Str.ofString "").length = 0 from rfl]; omega
  · have e : Txt.join (Str.ofString "") (ws.map S) = S ws.flatten := by
      show PySem.Builtin.Str.glued _ _ = _
      rw [StrLaws.glued_eq_join]; exact join_empty ws
    rw [e]; exact h t' k
end Mine

end
section
set_option Elab.async false
namespace Mine
/-- a word and its price -/
abbrev Ent := Nat × List Nat
def elt (p q : Ent) : Bool := decide (p.1 < q.1) || (decide (p.1 = q.1) && decide (p.2 < q.2))
theorem elt_irrefl (p : Ent) : elt p p = false := by simp [elt, List.lt_irrefl]
theorem elt_trans {p q r : Ent} (h1 : elt p q = true) (h2 : elt q r = true) : elt p r = true := by
  simp only [elt, Bool.or_eq_true, Bool.and_eq_true, decide_eq_true_eq] at *
  rcases h1 with h1 | ⟨e1, h1⟩ <;> rcases h2 with h2 | ⟨e2, h2⟩
  · exact .inl (by omega)
  · exact .inl (by omega)
  · exact .inl (by omega)
  · exact .inr ⟨by omega, List.lt_trans h1 h2⟩
theorem elt_asymm {p q : Ent} (h1 : elt p q = true) : elt q p = false := by
  cases h : elt q p with
  | false => rfl
  | true => have := elt_trans h1 h; rw [elt_irrefl] at this; exact absurd this (by decide)
theorem elt_anti {p q : Ent} (h1 : elt p q = false) (h2 : elt q p = false) : p = q := by
  simp only [elt, Bool.or_eq_false_iff, Bool.and_eq_false_iff, decide_eq_false_iff_not] at *
  have e : p.1 = q.1 := by omega
  have h3 : ¬ p.2 < q.2 := h1.2.resolve_left (fun h => h e)
  have h4 : ¬ q.2 < p.2 := h2.2.resolve_left (fun h => h e.symm)
  exact Prod.ext e (List.le_antisymm (List.not_lt.mp h4) (List.not_lt.mp h3))
/-- p is not behind q -/
def ele (p q : Ent) : Prop := elt q p = false
theorem ele_refl (p : Ent) : ele p p := elt_irrefl p
theorem ele_of_lt {p q : Ent} (h : elt p q = true) : ele p q := elt_asymm h
theorem ele_trans {p q r : Ent} (h1 : ele p q) (h2 : ele q r) : ele p r := by
  unfold ele at *
  cases h : elt r p with
  | false => rfl
  | true =>
    cases h3 : elt p q with
    | true => have := elt_trans h h3; rw [h2] at this; exact absurd this (by decide)
    | false => have := elt_anti h1 h3; subst this; rw [h2] at h; exact absurd h (by decide)
theorem ele_anti {p q : Ent} (h1 : ele p q) (h2 : ele q p) : p = q := elt_anti h2 h1

def g (xs : List Ent) (i : Nat) : Ent := xs.getD i (0, [])
theorem g_set (xs : List Ent) (i j : Nat) (a : Ent) (hi : i < xs.length) : g (xs.set i a) j = if j = i then a else g xs j := by
  unfold g
  simp only [List.getD_eq_getElem?_getD, List.getElem?_set]
  by_cases h : j = i
  · subst h; simp [hi]
  · rw [if_neg (Ne.symm h), if_neg h]
theorem g_at {xs : List Ent} {i : Nat} (h : i < xs.length) : xs[i] = g xs i := by simp [g, h]
def sdown (new : Ent) (xs : List Ent) (pos : Nat) : List Ent :=
  if h : 0 < pos then
    if elt new (g xs ((pos - 1) / 2)) then sdown new (xs.set pos (g xs ((pos - 1) / 2))) ((pos - 1) / 2) else xs.set pos new
  else xs.set pos new
termination_by pos
decreasing_by omega
theorem sdown_zero {new : Ent} {xs : List Ent} : sdown new xs 0 = xs.set 0 new := by rw [sdown, dif_neg (by omega)]
theorem sdown_up {new : Ent} {xs : List Ent} {n : Nat} (h0 : 0 < n) (h : elt new (g xs ((n - 1) / 2)) = true) : sdown new xs n = sdown new (xs.set n (g xs ((n - 1) / 2))) ((n - 1) / 2) := by
  conv => lhs; rw [sdown, dif_pos h0, if_pos h]
theorem sdown_stop {new : Ent} {xs : List Ent} {n : Nat} (h : elt new (g xs ((n - 1) / 2)) = false) : sdown new xs n = xs.set n new := by
  rw [sdown]
  split
  · rw [if_neg (by rw [h]; decide)]
  · rfl
/-- the child that goes up -/
def child (xs : List Ent) (pos : Nat) : Nat := if 2 * pos + 2 < xs.length ∧ elt (g xs (2 * pos + 1)) (g xs (2 * pos + 2)) = false then 2 * pos + 2 else 2 * pos + 1
theorem child_lt {xs : List Ent} {pos : Nat} (h : 2 * pos + 1 < xs.length) : child xs pos < xs.length := by unfold child; split <;> omega
theorem child_par (xs : List Ent) (pos : Nat) : (child xs pos - 1) / 2 = pos := by unfold child; split <;> omega
theorem child_gt (xs : List Ent) (pos : Nat) : pos < child xs pos := by unfold child; split <;> omega
def sup (xs : List Ent) (pos : Nat) : List Ent × Nat :=
  if h : 2 * pos + 1 < xs.length then sup (xs.set pos (g xs (child xs pos))) (child xs pos) else (xs, pos)
termination_by xs.length - pos
decreasing_by rw [List.length_set]; have := child_gt xs pos; omega
def siftup (xs : List Ent) : List Ent := sdown (g xs 0) ((sup xs 0).1.set (sup xs 0).2 (g xs 0)) (sup xs 0).2
def hpush (xs : List Ent) (e : Ent) : List Ent := sdown e (xs ++ [e]) xs.length
/-- what is left when the first is taken: xs without its last, the last in the first's place, sifted -/
def hrest (xs : List Ent) : List Ent := if xs.length ≤ 1 then [] else siftup ((xs.dropLast).set 0 (g xs (xs.length - 1)))
def Hp (xs : List Ent) : Prop := ∀ i, 0 < i → i < xs.length → ele (g xs ((i - 1) / 2)) (g xs i)
/-- but for the hole at pos -/
def HpA (xs : List Ent) (pos : Nat) : Prop := ∀ i, 0 < i → i < xs.length → i ≠ pos → (i - 1) / 2 ≠ pos → ele (g xs ((i - 1) / 2)) (g xs i)
def HpC (xs : List Ent) (pos : Nat) : Prop := ∀ i, 0 < i → i < xs.length → (i - 1) / 2 = pos → 0 < pos → ele (g xs ((pos - 1) / 2)) (g xs i)
theorem swap_perm {xs : List Ent} {i j : Nat} (hi : i < xs.length) (hj : j < xs.length) (hij : i ≠ j) (v : Ent) : ((xs.set i (g xs j)).set j v).Perm (xs.set i v) := by
  have hi' : i < (xs.set i v).length := by rw [List.length_set]; exact hi
  have hj' : j < (xs.set i v).length := by rw [List.length_set]; exact hj
  have h := List.set_set_perm (as := xs.set i v) hi' hj'
  have e1 : (xs.set i v)[i] = v := by simp
  have e2 : (xs.set i v)[j] = g xs j := by rw [List.getElem_set_ne hij]; exact g_at hj
  rw [e1, e2, List.set_set] at h
  exact h
theorem sdown_len (new : Ent) (xs : List Ent) (pos : Nat) : (sdown new xs pos).length = xs.length := by
  fun_induction sdown new xs pos with
  | case1 xs pos h hn ih => rw [ih, List.length_set]
  | case2 xs pos h hn => rw [List.length_set]
  | case3 xs pos h => rw [List.length_set]
theorem sdown_perm (new : Ent) (xs : List Ent) (pos : Nat) (hp : pos < xs.length) : (sdown new xs pos).Perm (xs.set pos new) := by
  fun_induction sdown new xs pos with
  | case1 xs pos h hn ih =>
    have := ih (by rw [List.length_set]; omega)
    exact this.trans (swap_perm hp (by omega) (by omega) new)
  | case2 xs pos h hn => exact .refl _
  | case3 xs pos h => exact .refl _
theorem sdown_hp (new : Ent) (xs : List Ent) (pos : Nat) (hp : pos < xs.length) (hA : HpA xs pos) (hB : ∀ i, 0 < i → i < xs.length → (i - 1) / 2 = pos → ele new (g xs i)) (hC : HpC xs pos) : Hp (sdown new xs pos) := by
  have stop : ∀ (xs : List Ent) (pos : Nat), pos < xs.length → HpA xs pos → (∀ i, 0 < i → i < xs.length → (i - 1) / 2 = pos → ele new (g xs i)) → (0 < pos → ele (g xs ((pos - 1) / 2)) new) → Hp (xs.set pos new) := by
    intro xs pos hp hA hB hD i h0 hi
    rw [List.length_set] at hi
    rw [g_set _ _ _ _ hp, g_set _ _ _ _ hp]
    by_cases e1 : i = pos
    · subst e1
      rw [if_pos rfl, if_neg (by omega)]
      exact hD h0
    · rw [if_neg e1]
      by_cases e2 : (i - 1) / 2 = pos
      · rw [if_pos e2]; exact hB i h0 hi e2
      · rw [if_neg e2]; exact hA i h0 hi e1 e2
  fun_induction sdown new xs pos with
  | case1 xs pos h hn ih =>
    have hlt : (pos - 1) / 2 < pos := by omega
    refine ih (by rw [List.length_set]; omega) ?_ ?_ ?_
    · intro i h0 hi n1 n2
      rw [List.length_set] at hi
      rw [g_set _ _ _ _ hp, g_set _ _ _ _ hp]
      by_cases e1 : i = pos
      · subst e1; exact absurd rfl n2
      · rw [if_neg e1]
        by_cases e2 : (i - 1) / 2 = pos
        · rw [if_pos e2]; exact hC i h0 hi e2 h
        · rw [if_neg e2]; exact hA i h0 hi e1 e2
    · intro i h0 hi e
      rw [List.length_set] at hi
      rw [g_set _ _ _ _ hp]
      by_cases e1 : i = pos
      · rw [if_pos e1]; exact ele_of_lt hn
      · rw [if_neg e1]
        exact ele_trans (ele_of_lt hn) (e ▸ hA i h0 hi e1 (by omega))
    · intro i h0 hi e hp0
      rw [List.length_set] at hi
      have hpp : ele (g xs (((pos - 1) / 2 - 1) / 2)) (g xs ((pos - 1) / 2)) := hA _ hp0 (by omega) (by omega) (by omega)
      rw [g_set _ _ _ _ hp, g_set _ _ _ _ hp, if_neg (show ((pos - 1) / 2 - 1) / 2 ≠ pos by omega)]
      by_cases e1 : i = pos
      · rw [if_pos e1]; exact hpp
      · rw [if_neg e1]
        exact ele_trans hpp (e ▸ hA i h0 hi e1 (by omega))
  | case2 xs pos h hn => exact stop xs pos hp hA hB fun _ => by simpa [ele] using hn
  | case3 xs pos h => exact stop xs pos hp hA hB fun h' => absurd h' h
theorem sup_ok (xs : List Ent) (pos : Nat) (hp : pos < xs.length) (hA : HpA xs pos) (hC : HpC xs pos) :
    (sup xs pos).1.length = xs.length ∧ (sup xs pos).2 < xs.length ∧ xs.length ≤ 2 * (sup xs pos).2 + 1 ∧ HpA (sup xs pos).1 (sup xs pos).2 ∧ ∀ v, ((sup xs pos).1.set (sup xs pos).2 v).Perm (xs.set pos v) := by
  fun_induction sup xs pos with
  | case1 xs pos h ih =>
    have hc := child_lt h
    have hcp := child_par xs pos
    have hcg := child_gt xs pos
    have hL : (xs.set pos (g xs (child xs pos))).length = xs.length := List.length_set ..
    rw [hL] at ih
    obtain ⟨h1, h2, h3, h4, h5⟩ := ih hc (by
      intro i h0 hi n1 n2
      rw [List.length_set] at hi
      rw [g_set _ _ _ _ hp, g_set _ _ _ _ hp]
      by_cases e1 : i = pos
      · subst e1
        rw [if_pos rfl, if_neg (by omega)]
        exact hC _ (by omega) hc hcp h0
      · rw [if_neg e1]
        by_cases e2 : (i - 1) / 2 = pos
        · rw [if_pos e2]
          unfold child at n1 ⊢
          split at n1
          · rename_i hh
            have : i = 2 * pos + 1 := by omega
            rw [if_pos hh, this]; exact hh.2
          · rename_i hh
            have : i = 2 * pos + 2 := by omega
            rw [if_neg hh]; subst this
            have : elt (g xs (2 * pos + 1)) (g xs (2 * pos + 2)) = true := by
              cases hq : elt (g xs (2 * pos + 1)) (g xs (2 * pos + 2)) with
              | true => rfl
              | false => exact absurd ⟨hi, hq⟩ hh
            exact ele_of_lt this
        · rw [if_neg e2]; exact hA i h0 hi e1 e2) (by
      intro i h0 hi e h0'
      rw [List.length_set] at hi
      rw [g_set _ _ _ _ hp, g_set _ _ _ _ hp, if_pos hcp, if_neg (by omega)]
      exact e ▸ hA i h0 hi (by omega) (by omega))
    refine ⟨h1, h2, h3, h4, fun v => (h5 v).trans (swap_perm hp hc (by omega) v)⟩
  | case2 xs pos h => exact ⟨rfl, hp, by omega, hA, fun v => .refl _⟩
theorem set_self {xs : List Ent} {i : Nat} (h : i < xs.length) : xs.set i (g xs i) = xs := by rw [← g_at h]; exact List.set_getElem_self h
theorem sup_go {xs : List Ent} {n : Nat} (h : 2 * n + 1 < xs.length) : sup xs n = sup (xs.set n (g xs (child xs n))) (child xs n) := by
  conv => lhs; rw [sup, dif_pos h]
theorem sup_end {xs : List Ent} {n : Nat} (h : ¬ 2 * n + 1 < xs.length) : sup xs n = (xs, n) := by rw [sup, dif_neg h]
theorem siftup_ok (xs : List Ent) (h0 : 0 < xs.length) (hA : HpA xs 0) : Hp (siftup xs) ∧ (siftup xs).Perm xs := by
  obtain ⟨h1, h2, h3, h4, h5⟩ := sup_ok xs 0 h0 hA (fun i _ _ _ h => absurd h (Nat.lt_irrefl _))
  unfold siftup
  have hL : ((sup xs 0).1.set (sup xs 0).2 (g xs 0)).length = xs.length := by rw [List.length_set, h1]
  refine ⟨sdown_hp _ _ _ (by omega) ?_ ?_ ?_, ?_⟩
  · intro i i0 hi n1 n2
    rw [hL] at hi
    rw [g_set _ _ _ _ (by omega), g_set _ _ _ _ (by omega), if_neg n1, if_neg n2]
    exact h4 i i0 (by omega) n1 n2
  · intro i i0 hi e; omega
  · intro i i0 hi e; omega
  · refine (sdown_perm _ _ _ (by omega)).trans ?_
    rw [List.set_set]
    refine (h5 _).trans ?_
    rw [set_self h0]
theorem hp_min {xs : List Ent} (h : Hp xs) : ∀ i, i < xs.length → ele (g xs 0) (g xs i) := by
  intro i
  induction i using Nat.strongRecOn with
  | _ i ih =>
    intro hi
    by_cases h0 : i = 0
    · subst h0; exact ele_refl _
    · exact ele_trans (ih ((i - 1) / 2) (by omega) (by omega)) (h i (by omega) hi)
theorem hp_min_mem {xs : List Ent} (h : Hp xs) {e : Ent} (he : e ∈ xs) : ele (g xs 0) e := by
  obtain ⟨i, hi, rfl⟩ := List.getElem_of_mem he
  rw [g_at hi]; exact hp_min h i hi
theorem hpush_ok {xs : List Ent} (h : Hp xs) (e : Ent) : Hp (hpush xs e) ∧ (hpush xs e).Perm (e :: xs) := by
  have hL : (xs ++ [e]).length = xs.length + 1 := by simp
  have hg : ∀ i, i < xs.length → g (xs ++ [e]) i = g xs i := fun i hi => by simp [g, List.getElem?_append_left hi]
  unfold hpush
  refine ⟨sdown_hp _ _ _ (by omega) ?_ ?_ ?_, ?_⟩
  · intro i i0 hi n1 n2
    rw [hg i (by omega), hg _ (by omega)]
    exact h i i0 (by omega)
  · intro i i0 hi e; omega
  · intro i i0 hi e; omega
  · refine (sdown_perm _ _ _ (by omega)).trans ?_
    rw [List.set_append_right _ _ (Nat.le_refl _), Nat.sub_self]
    exact List.perm_append_comm
theorem hrest_ok {xs : List Ent} (h : Hp xs) (h0 : 0 < xs.length) : Hp (hrest xs) ∧ (g xs 0 :: hrest xs).Perm xs := by
  unfold hrest
  split
  · rename_i h1
    have : xs.length = 1 := by omega
    obtain ⟨a, rfl⟩ := List.length_eq_one_iff.mp this
    exact ⟨(fun i _ hi => by simp at hi), .refl _⟩
  · rename_i h1
    obtain ⟨ys, l, rfl⟩ : ∃ ys l, xs = ys ++ [l] := ⟨xs.dropLast, xs.getLast (by intro e; subst e; simp at h0), (List.dropLast_concat_getLast _).symm⟩
    have hyl : 0 < ys.length := by rw [List.length_append, List.length_singleton] at h1; omega
    have hl : g (ys ++ [l]) ((ys ++ [l]).length - 1) = l := by simp [g]
    have hg : ∀ i, i < ys.length → g (ys ++ [l]) i = g ys i := fun i hi => by simp [g, List.getElem?_append_left hi]
    rw [hl, List.dropLast_concat]
    obtain ⟨k1, k2⟩ := siftup_ok (ys.set 0 l) (by rw [List.length_set]; exact hyl) (by
      intro i i0 hi n1 n2
      rw [List.length_set] at hi
      rw [g_set _ _ _ _ hyl, g_set _ _ _ _ hyl, if_neg n1, if_neg n2, ← hg i hi, ← hg _ (by omega)]
      exact h i i0 (by simp; omega))
    refine ⟨k1, ?_⟩
    rw [hg 0 hyl]
    refine (List.Perm.cons _ k2).trans ?_
    cases ys with
    | nil => simp at hyl
    | cons y r =>
      show (y :: l :: r).Perm (y :: (r ++ [l]))
      exact List.Perm.cons _ (List.perm_append_comm (l₁ := [l]))
end Mine

end
section
set_option Elab.async false
namespace Mine
/-- what is asked: two signs, their prices, the names -/
structure Ask where
  x0 : Nat
  x1 : Nat
  p0 : Nat
  p1 : Nat
  ne : x0 ≠ x1
  h0 : 0 < p0
  h1 : 0 < p1
def Ask.price (K : Ask) (c : Nat) : Nat := if c = K.x0 then K.p0 else K.p1
def Ask.cost (K : Ask) (w : List Nat) : Nat := (w.map K.price).sum
def Ask.ent (K : Ask) (w : List Nat) : Ent := (K.cost w, w)
def Ask.ok (K : Ask) (w : List Nat) : Prop := ∀ c ∈ w, c = K.x0 ∨ c = K.x1
theorem Ask.price_pos (K : Ask) (c : Nat) : 0 < K.price c := by unfold Ask.price; split; exact K.h0; exact K.h1
theorem Ask.cost_snoc (K : Ask) (w : List Nat) (c : Nat) : K.cost (w ++ [c]) = K.cost w + K.price c := by simp [Ask.cost]
theorem Ask.cost_cons (K : Ask) (w : List Nat) (c : Nat) : K.cost (c :: w) = K.price c + K.cost w := by simp [Ask.cost]
theorem Ask.cost_append (K : Ask) (a b : List Nat) : K.cost (a ++ b) = K.cost a + K.cost b := by simp [Ask.cost]
theorem Ask.price0 (K : Ask) : K.price K.x0 = K.p0 := by simp [Ask.price]
theorem Ask.price1 (K : Ask) : K.price K.x1 = K.p1 := by simp [Ask.price, Ne.symm K.ne]
/-- a word that some names hold and some do not -/
def Ask.dist (K : Ask) (ns : List (List Nat)) (w : List Nat) : Prop := K.ok w ∧ (∃ n ∈ ns, takes w n = true) ∧ ∃ n ∈ ns, takes w n = false
/-- the cheapest of them, of equal ones the first -/
def Ask.best (K : Ask) (ns : List (List Nat)) (w : List Nat) : Prop := K.dist ns w ∧ ∀ v, K.dist ns v → ele (K.ent w) (K.ent v)
theorem Ask.best_unique {K : Ask} {ns : List (List Nat)} {v w : List Nat} (h1 : K.best ns v) (h2 : K.best ns w) : v = w := congrArg Prod.snd (ele_anti (h1.2 w h2.1) (h2.2 v h1.1))
theorem takes_nil (n : List Nat) : takes [] n = true := rfl
theorem takes_cons (c : Nat) (w n : List Nat) : takes (c :: w) n = ((after c n).map (takes w)).getD false := by
  unfold takes
  simp only [rest]
  cases after c n <;> rfl
theorem takes_append {a b n : List Nat} (h : takes (a ++ b) n = true) : takes a n = true := by
  unfold takes at *
  rw [rest_append] at h
  cases e : rest a n with
  | none => rw [e] at h; simp at h
  | some _ => rfl
theorem ele_prefix {K : Ask} (q r : List Nat) : ele (K.ent q) (K.ent (q ++ r)) := by
  cases r with
  | nil => rw [List.append_nil]; exact ele_refl _
  | cons c r =>
    refine ele_of_lt ?_
    have h := K.price_pos c
    simp only [elt, Ask.ent, Ask.cost_append, Ask.cost_cons, Bool.or_eq_true, decide_eq_true_eq]
    left; omega
theorem after_len {c : Nat} : ∀ {n t : List Nat}, after c n = some t → t.length < n.length
  | x :: r, t, h => by
    unfold after at h
    split at h
    · cases h; simp
    · have := after_len h; simp; omega
theorem takes_len : ∀ {w n : List Nat}, takes w n = true → w.length ≤ n.length
  | [], n, _ => Nat.zero_le _
  | c :: w, n, h => by
    rw [takes_cons] at h
    cases e : after c n with
    | none => rw [e] at h; simp at h
    | some t =>
      rw [e] at h
      have := takes_len (w := w) (n := t) (by simpa using h)
      have := after_len e
      simp; omega

/-- the search between its turns -/
structure Ask.Inv (K : Ask) (ns : List (List Nat)) (H : List Ent) : Prop where
  hp : Hp H
  has : ∀ e ∈ H, K.ok e.2 ∧ e = K.ent e.2 ∧ e.2.length ≤ 5
  cov : ∀ w, K.dist ns w → ∃ q r, w = q ++ r ∧ K.ent q ∈ H
theorem Ask.inv_start (K : Ask) (ns : List (List Nat)) : K.Inv ns [(0, [])] := by
  refine ⟨fun i h0 hi => by simp at hi; omega, ?_, fun w _ => ⟨[], w, rfl, ?_⟩⟩
  · intro e he
    simp at he; subst he
    exact ⟨fun c hc => by simp at hc, rfl, by simp⟩
  · simp [Ask.ent, Ask.cost]
theorem Ask.inv_empty {K : Ask} {ns : List (List Nat)} (h : K.Inv ns []) (w : List Nat) : ¬ K.dist ns w := fun hw => by
  obtain ⟨q, _, _, hq⟩ := h.cov w hw
  simp at hq
theorem Ask.inv_top {K : Ask} {ns : List (List Nat)} {H : List Ent} (h : K.Inv ns H) (h0 : 0 < H.length) : g H 0 = K.ent (g H 0).2 ∧ K.ok (g H 0).2 ∧ (g H 0).2.length ≤ 5 := by
  have hm : g H 0 ∈ H := by rw [← g_at h0]; exact List.getElem_mem h0
  have := h.has _ hm
  exact ⟨this.2.1, this.1, this.2.2⟩
theorem Ask.inv_best {K : Ask} {ns : List (List Nat)} {H : List Ent} (h : K.Inv ns H) (h0 : 0 < H.length) (hd : K.dist ns (g H 0).2) : K.best ns (g H 0).2 := by
  refine ⟨hd, fun v hv => ?_⟩
  obtain ⟨q, r, rfl, hq⟩ := h.cov v hv
  rw [← (Ask.inv_top h h0).1]
  exact ele_trans (hp_min_mem h.hp hq) (ele_prefix q r)
theorem Ask.inv_rest {K : Ask} {ns : List (List Nat)} {H : List Ent} (h : K.Inv ns H) (h0 : 0 < H.length) : Hp (hrest H) ∧ (∀ e ∈ hrest H, K.ok e.2 ∧ e = K.ent e.2 ∧ e.2.length ≤ 5) ∧ ∀ e ∈ H, e = g H 0 ∨ e ∈ hrest H := by
  obtain ⟨h1, h2⟩ := hrest_ok h.hp h0
  refine ⟨h1, fun e he => h.has e (h2.mem_iff.mp (.tail _ he)), fun e he => ?_⟩
  exact List.mem_cons.mp (h2.mem_iff.mpr he)
/-- no name holds it: it goes -/
theorem Ask.inv_drop {K : Ask} {ns : List (List Nat)} {H : List Ent} (h : K.Inv ns H) (h0 : 0 < H.length) (hno : ∀ n ∈ ns, takes (g H 0).2 n = false) : K.Inv ns (hrest H) := by
  obtain ⟨h1, h2, h3⟩ := Ask.inv_rest h h0
  refine ⟨h1, h2, fun w hw => ?_⟩
  obtain ⟨q, r, rfl, hq⟩ := h.cov w hw
  rcases h3 _ hq with e | hm
  · obtain ⟨n, hn, ht⟩ := hw.2.1
    have := hno n hn
    rw [← e, show (K.ent q).2 = q from rfl, show takes q n = true from takes_append ht] at this
    exact absurd this (by decide)
  · exact ⟨q, r, rfl, hm⟩
/-- all names hold it: its two followers come in -/
theorem Ask.inv_push {K : Ask} {ns : List (List Nat)} {H : List Ent} (h : K.Inv ns H) (h0 : 0 < H.length) (hall : ∀ n ∈ ns, takes (g H 0).2 n = true) (h4 : (g H 0).2.length ≤ 4) :
    K.Inv ns (hpush (hpush (hrest H) ((g H 0).1 + K.p0, (g H 0).2 ++ [K.x0])) ((g H 0).1 + K.p1, (g H 0).2 ++ [K.x1])) := by
  obtain ⟨h1, h2, h3⟩ := Ask.inv_rest h h0
  obtain ⟨e1, e2, _⟩ := Ask.inv_top h h0
  have ec : (g H 0).1 = K.cost (g H 0).2 := congrArg Prod.fst e1
  generalize hG : (g H 0).2 = p at *
  obtain ⟨a1, a2⟩ := hpush_ok h1 ((g H 0).1 + K.p0, p ++ [K.x0])
  obtain ⟨b1, b2⟩ := hpush_ok a1 ((g H 0).1 + K.p1, p ++ [K.x1])
  have f0 : ((g H 0).1 + K.p0, p ++ [K.x0]) = K.ent (p ++ [K.x0]) := by rw [Ask.ent, K.cost_snoc, K.price0, ec]
  have f1 : ((g H 0).1 + K.p1, p ++ [K.x1]) = K.ent (p ++ [K.x1]) := by rw [Ask.ent, K.cost_snoc, K.price1, ec]
  rw [f0] at a1 a2 b1 b2
  rw [f1] at b1 b2
  rw [f0, f1]
  have hm : ∀ e, e ∈ hpush (hpush (hrest H) (K.ent (p ++ [K.x0]))) (K.ent (p ++ [K.x1])) ↔ e = K.ent (p ++ [K.x1]) ∨ e = K.ent (p ++ [K.x0]) ∨ e ∈ hrest H := fun e => by
    rw [b2.mem_iff, List.mem_cons, a2.mem_iff, List.mem_cons]
  have okc : ∀ c, c = K.x0 ∨ c = K.x1 → K.ok (p ++ [c]) := fun c hc d hd => by
    rcases List.mem_append.mp hd with hd | hd
    · exact e2 d hd
    · rw [List.mem_singleton.mp hd]; exact hc
  refine ⟨b1, fun e he => ?_, fun w hw => ?_⟩
  · rcases (hm e).mp he with rfl | rfl | he
    · exact ⟨okc _ (.inr rfl), rfl, by simp [Ask.ent]; omega⟩
    · exact ⟨okc _ (.inl rfl), rfl, by simp [Ask.ent]; omega⟩
    · exact h2 e he
  · obtain ⟨q, r, rfl, hq⟩ := h.cov w hw
    rcases h3 _ hq with e | hm'
    · have eq : q = p := by rw [← hG, ← e]; rfl
      subst eq
      cases r with
      | nil =>
        obtain ⟨n, hn, ht⟩ := hw.2.2
        rw [List.append_nil, hall n hn] at ht
        exact absurd ht (by decide)
      | cons c r =>
        have hc := hw.1 c (by simp)
        refine ⟨q ++ [c], r, by simp, (hm _).mpr ?_⟩
        rcases hc with rfl | rfl
        · exact .inr (.inl rfl)
        · exact .inl rfl
    · exact ⟨q, r, rfl, (hm _).mpr (.inr (.inr hm'))⟩
/-- how much is still to do -/
def wgt (H : List Ent) : Nat := (H.map fun e => 3 ^ (5 - e.2.length)).sum
theorem wgt_perm {a b : List Ent} (h : a.Perm b) : wgt a = wgt b := (h.map _).sum_nat
theorem wgt_len (H : List Ent) : H.length ≤ wgt H := by
  induction H with
  | nil => simp [wgt]
  | cons e r ih =>
    have : 0 < 3 ^ (5 - e.2.length) := Nat.pow_pos (by decide)
    simp only [wgt, List.map_cons, List.sum_cons, List.length_cons] at ih ⊢
    omega
theorem wgt_rest {H : List Ent} (h : Hp H) (h0 : 0 < H.length) : wgt (hrest H) + 3 ^ (5 - (g H 0).2.length) = wgt H := by
  have := wgt_perm (hrest_ok h h0).2
  simp only [wgt, List.map_cons, List.sum_cons] at this ⊢
  omega
theorem wgt_push {H : List Ent} (h : Hp H) (e : Ent) : wgt (hpush H e) = 3 ^ (5 - e.2.length) + wgt H := by
  have := wgt_perm (hpush_ok h e).2
  simp only [wgt, List.map_cons, List.sum_cons] at this ⊢
  omega
theorem wgt_drop {H : List Ent} (h : Hp H) (h0 : 0 < H.length) : wgt (hrest H) < wgt H := by
  have := wgt_rest h h0
  have : 0 < 3 ^ (5 - (g H 0).2.length) := Nat.pow_pos (by decide)
  omega
theorem wgt_two {H : List Ent} (h : Hp H) (h0 : 0 < H.length) (h4 : (g H 0).2.length ≤ 4) (a b : Ent) (ha : a.2.length = (g H 0).2.length + 1) (hb : b.2.length = (g H 0).2.length + 1) : wgt (hpush (hpush (hrest H) a) b) < wgt H := by
  have h1 := (hrest_ok h h0).1
  rw [wgt_push (hpush_ok h1 a).1, wgt_push h1, ha, hb, ← wgt_rest h h0]
  have e : 5 - (g H 0).2.length = (5 - ((g H 0).2.length + 1)) + 1 := by omega
  rw [e, Nat.pow_succ]
  have : 0 < 3 ^ (5 - ((g H 0).2.length + 1)) := Nat.pow_pos (by decide)
  omega

/-- the other reckoning: from the names' fronts -/
def emin (a b : Option Ent) : Option Ent := match a, b with
  | none, b => b
  | a, none => a
  | some a, some b => if elt b a then some b else some a
def hasAll (ends : List (List Nat)) (c : Nat) : Bool := ends.all fun e => (after c e).isSome
def hasAny (ends : List (List Nat)) (c : Nat) : Bool := ends.any fun e => (after c e).isSome
def behind (ends : List (List Nat)) (c : Nat) : List (List Nat) := ends.map fun e => (after c e).getD []
def Ask.way (c p : Nat) (ends : List (List Nat)) (below : Option Ent) : Option Ent :=
  if hasAll ends c then below.map fun q => (p + q.1, c :: q.2) else if hasAny ends c then some (p, [c]) else none
def Ask.leastF (K : Ask) : Nat → List (List Nat) → Option Ent
  | 0, _ => none
  | n + 1, ends => emin (Ask.way K.x0 K.p0 ends (K.leastF n (behind ends K.x0))) (Ask.way K.x1 K.p1 ends (K.leastF n (behind ends K.x1)))
/-- a way's answer, among the words that begin with c -/
def Ask.bestOn (K : Ask) (P : List Nat → Prop) (o : Option Ent) : Prop := match o with
  | none => ∀ w, ¬ P w
  | some e => P e.2 ∧ e = K.ent e.2 ∧ ∀ v, P v → ele e (K.ent v)
theorem Ask.bestOn_emin {K : Ask} {P Q R : List Nat → Prop} {a b : Option Ent} (h1 : K.bestOn P a) (h2 : K.bestOn Q b) (hR : ∀ w, R w ↔ P w ∨ Q w) : K.bestOn R (emin a b) := by
  cases a with
  | none =>
    cases b with
    | none => exact fun w hw => ((hR w).mp hw).elim (h1 w) (h2 w)
    | some b => exact ⟨(hR _).mpr (.inr h2.1), h2.2.1, fun v hv => h2.2.2 v (((hR v).mp hv).resolve_left (h1 v))⟩
  | some a =>
    cases b with
    | none => exact ⟨(hR _).mpr (.inl h1.1), h1.2.1, fun v hv => h1.2.2 v (((hR v).mp hv).resolve_right (h2 v))⟩
    | some b =>
      show K.bestOn R (if elt b a then some b else some a)
      split
      · rename_i hlt
        exact ⟨(hR _).mpr (.inr h2.1), h2.2.1, fun v hv => ((hR v).mp hv).elim (fun q => ele_trans (ele_of_lt hlt) (h1.2.2 v q)) (h2.2.2 v)⟩
      · rename_i hlt
        exact ⟨(hR _).mpr (.inl h1.1), h1.2.1, fun v hv => ((hR v).mp hv).elim (h1.2.2 v) (fun q => ele_trans (by unfold ele; simpa using hlt) (h2.2.2 v q))⟩
theorem ele_add {k c : Nat} {a b : Nat} {v w : List Nat} (h : ele (a, v) (b, w)) : ele (k + a, c :: v) (k + b, c :: w) := by
  unfold ele at *
  cases e : elt (k + b, c :: w) (k + a, c :: v) with
  | false => rfl
  | true =>
    refine absurd (?_ : elt (b, w) (a, v) = true) (by rw [h]; decide)
    simp only [elt, Bool.or_eq_true, Bool.and_eq_true, decide_eq_true_eq] at e ⊢
    rcases e with e | ⟨e1, e2⟩
    · exact .inl (by omega)
    · refine .inr ⟨by omega, ?_⟩
      rcases List.cons_lt_cons_iff.mp e2 with h3 | ⟨_, h3⟩
      · exact absurd h3 (Nat.lt_irrefl _)
      · exact h3
theorem Ask.way_ok {K : Ask} {c : Nat} (hc : c = K.x0 ∨ c = K.x1) {ends : List (List Nat)} (hne : ends ≠ []) {below : Option Ent} (hb : hasAll ends c = true → K.bestOn (K.dist (behind ends c)) below) :
    K.bestOn (fun w => ∃ r, w = c :: r ∧ K.dist ends w) (Ask.way c (K.price c) ends below) := by
  unfold Ask.way
  split
  · rename_i hall
    have hb := hb hall
    have hdist : ∀ r, K.dist ends (c :: r) ↔ K.dist (behind ends c) r := by
      intro r
      have hok : K.ok (c :: r) ↔ K.ok r := ⟨fun h d hd => h d (.tail _ hd), fun h d hd => by
        rcases List.mem_cons.mp hd with rfl | hd
        · exact hc
        · exact h d hd⟩
      have ht : ∀ n ∈ ends, takes (c :: r) n = takes r ((after c n).getD []) := fun n hn => by
        have := List.all_eq_true.mp hall n hn
        rw [takes_cons]
        cases e : after c n with
        | none => rw [e] at this; simp at this
        | some t => rfl
      have up : ∀ n ∈ ends, (after c n).getD [] ∈ behind ends c := fun n hn => List.mem_map.mpr ⟨n, hn, rfl⟩
      constructor
      · rintro ⟨h0, ⟨n, hn, h1⟩, ⟨n', hn', h2⟩⟩
        exact ⟨hok.mp h0, ⟨_, up n hn, (ht n hn).symm.trans h1⟩, ⟨_, up n' hn', (ht n' hn').symm.trans h2⟩⟩
      · rintro ⟨h0, ⟨m, hm, h1⟩, ⟨m', hm', h2⟩⟩
        obtain ⟨n, hn, rfl⟩ := List.mem_map.mp hm
        obtain ⟨n', hn', rfl⟩ := List.mem_map.mp hm'
        exact ⟨hok.mpr h0, ⟨n, hn, (ht n hn).trans h1⟩, ⟨n', hn', (ht n' hn').trans h2⟩⟩
    cases below with
    | none =>
      rintro w ⟨r, rfl, hd⟩
      exact hb r ((hdist r).mp hd)
    | some q =>
      obtain ⟨b1, b2, b3⟩ := hb
      refine ⟨⟨q.2, rfl, (hdist _).mpr b1⟩, ?_, ?_⟩
      · show (K.price c + q.1, c :: q.2) = (K.cost (c :: q.2), c :: q.2)
        rw [K.cost_cons, congrArg Prod.fst b2]; rfl
      · rintro v ⟨r, rfl, hd⟩
        have h := b3 r ((hdist r).mp hd)
        show ele (K.price c + q.1, c :: q.2) (K.cost (c :: r), c :: r)
        rw [K.cost_cons]
        exact ele_add h
  · rename_i hall
    have t1 : ∀ n, takes [c] n = (after c n).isSome := fun n => by rw [takes_cons]; cases after c n <;> rfl
    split
    · rename_i hany
      refine ⟨⟨[], rfl, ⟨fun d hd => by rw [List.mem_singleton.mp hd]; exact hc, ?_, ?_⟩⟩, ?_, ?_⟩
      · obtain ⟨n, hn, h⟩ := List.any_eq_true.mp hany
        exact ⟨n, hn, by rw [t1]; exact h⟩
      · have hall' : hasAll ends c = false := by simpa using hall
        unfold hasAll at hall'
        obtain ⟨n, hn, h⟩ := List.all_eq_false.mp hall'
        exact ⟨n, hn, by rw [t1]; simpa using h⟩
      · show (K.price c, [c]) = (K.cost [c], [c]); simp [Ask.cost]
      · rintro v ⟨r, rfl, hd⟩
        have := ele_prefix (K := K) [c] r
        rw [show K.ent [c] = (K.price c, [c]) by simp [Ask.ent, Ask.cost]] at this
        exact this
    · rename_i hany
      rintro w ⟨r, rfl, hd⟩
      obtain ⟨n, hn, h⟩ := hd.2.1
      have hany' : hasAny ends c = false := by simpa using hany
      have := List.any_eq_false.mp hany' n hn
      rw [takes_cons] at h
      cases e : after c n with
      | none => rw [e] at h; simp at h
      | some t => rw [e] at this; simp at this
theorem Ask.least_ok {K : Ask} : ∀ (n : Nat) (ends : List (List Nat)), ends ≠ [] → (∀ e ∈ ends, e.length < n) → K.bestOn (K.dist ends) (K.leastF n ends)
  | 0, ends, hne, hl => by
    cases ends with
    | nil => exact absurd rfl hne
    | cons e r => exact absurd (hl e (.head _)) (Nat.not_lt_zero _)
  | n + 1, ends, hne, hl => by
    have below : ∀ c, hasAll ends c = true → K.bestOn (K.dist (behind ends c)) (K.leastF n (behind ends c)) := fun c hall => by
      refine Ask.least_ok n _ (by unfold behind; simpa using hne) fun e he => ?_
      unfold behind at he
      obtain ⟨x, hx, rfl⟩ := List.mem_map.mp he
      have h1 := List.all_eq_true.mp hall x hx
      have h2 := hl x hx
      cases q : after c x with
      | none => rw [q] at h1; simp at h1
      | some t => have := after_len q; show t.length < n; omega
    refine Ask.bestOn_emin (by have := Ask.way_ok (K := K) (c := K.x0) (.inl rfl) hne (below _); rw [K.price0] at this; exact this) (by have := Ask.way_ok (K := K) (c := K.x1) (.inr rfl) hne (below _); rw [K.price1] at this; exact this) ?_
    intro w
    constructor
    · intro hw
      cases w with
      | nil =>
        obtain ⟨n, hn, h⟩ := hw.2.2
        rw [takes_nil] at h
        exact absurd h (by decide)
      | cons c r =>
        rcases hw.1 c (.head _) with rfl | rfl
        · exact .inl ⟨r, rfl, hw⟩
        · exact .inr ⟨r, rfl, hw⟩
    · rintro (⟨r, rfl, h⟩ | ⟨r, rfl, h⟩)
      · exact h
      · exact h

theorem after_sub {c : Nat} : ∀ {n t : List Nat}, after c n = some t → (c :: t).Sublist n
  | x :: r, t, h => by
    unfold after at h
    split at h
    · rename_i e; cases h; rw [e]; exact List.Sublist.refl _
    · exact (after_sub h).cons _
theorem takes_sub : ∀ {w n : List Nat}, takes w n = true → w.Sublist n
  | [], n, _ => List.nil_sublist _
  | c :: w, n, h => by
    rw [takes_cons] at h
    cases e : after c n with
    | none => rw [e] at h; simp at h
    | some t =>
      rw [e] at h
      exact ((takes_sub (w := w) (n := t) (by simpa using h)).cons_cons c).trans (after_sub e)
theorem rest_some_of_sub : ∀ {w n : List Nat}, w.Sublist n → takes w n = true
  | [], n, _ => rfl
  | c :: w, [], h => by cases h
  | c :: w, x :: n, h => by
    rw [takes_cons]
    unfold after
    by_cases hx : x = c
    · rw [if_pos hx]
      subst hx
      have : w.Sublist n := by
        cases h with
        | cons _ h => exact (List.sublist_cons_self _ _).trans h
        | cons_cons _ h => exact h
      exact rest_some_of_sub this
    · rw [if_neg hx]
      have h' : (c :: w).Sublist n := by
        cases h with
        | cons _ h => exact h
        | cons_cons _ h => exact absurd rfl hx
      have := rest_some_of_sub h'
      rw [takes_cons] at this
      exact this
theorem takes_iff {w n : List Nat} : takes w n = true ↔ w.Sublist n := ⟨takes_sub, rest_some_of_sub⟩
theorem takes_self (n : List Nat) : takes n n = true := takes_iff.mpr (List.Sublist.refl _)
/-- names of one length that differ: there is a word -/
theorem Ask.none_iff {K : Ask} {ns : List (List Nat)} {k : Nat} (hok : ∀ n ∈ ns, K.ok n ∧ n.length = k) : (∀ w, ¬ K.dist ns w) ↔ ∀ a ∈ ns, ∀ b ∈ ns, a = b := by
  constructor
  · intro h a ha b hb
    cases e : takes a b with
    | true => exact (takes_sub e).eq_of_length (by rw [(hok a ha).2, (hok b hb).2])
    | false => exact absurd ⟨(hok a ha).1, ⟨a, ha, takes_self a⟩, ⟨b, hb, e⟩⟩ (h a)
  · rintro h w ⟨_, ⟨a, ha, h1⟩, ⟨b, hb, h2⟩⟩
    rw [h a ha b hb, h2] at h1
    exact absurd h1 (by decide)
end Mine

end
section
open PySem PySem.W PyProof.Rows PySem.Calls
set_option Elab.async false
set_option maxRecDepth 100000
set_option maxHeartbeats 2000000
namespace Mine
/-- a price and a word, as a tuple -/
def EntO (e : Ent) (o : Obj) : Prop := o.cls = .type "tuple" ∧ ∃ t u n, o.data = .seq #[.int (e.1 : Int) t, .str (S e.2) u] n
section
variable {prog : Program} {w : World} {A : Around} {E : Value → Shared → Prop} {s : Shared}
theorem lt_ent {x y : Addr} {ox oy : Obj} {e f : Ent} {Q : Value → Shared → Prop} (hx : s.heap.get? x = some ox) (he : EntO e ox) (hy : s.heap.get? y = some oy) (hf : EntO f oy) (hu : A.units + 64 < cLine)
    (h : Q (.bool (elt e f)) s) : wpAny (model prog w) A (compareOp .Lt (.ref x) (.ref y)) Q E s := by
  obtain ⟨cx, tx, ux, nx, dx⟩ := he
  obtain ⟨cy, ty, uy, ny, dy⟩ := hf
  have hTx : s.TypeIs (.ref x) "tuple" := (show ∃ o, s.heap.get? x = some o ∧ o.cls = .type "tuple" from ⟨_, hx, cx⟩)
  have hTy : s.TypeIs (.ref y) "tuple" := (show ∃ o, s.heap.get? y = some o ∧ o.cls = .type "tuple" from ⟨_, hy, cy⟩)
  show wpAny _ _ (richCompare .Lt (.ref x) (.ref y)) _ _ _
  refine wpAny_richCompare_same_room hTx hTy F.slot_tuple_lt (wpAny_call_entry F.slot_tuple_lt hTx F.entry_tuple_lt ?_ (F.args_tuple_lt_2 _ _)) (by omega)
  show wpAny _ _ (isInstance (.ref y) (.type "tuple") >>= _) _ _ s
  refine wpAny_bind (wpAny_isInstance hTy isSubtype_tuple_tuple ?_)
  simp only [Bool.not_true, Bool.false_eq_true, if_false]
  refine wpAny_bind (wpAny_tupleItemsOf hx dx ?_)
  refine wpAny_bind (wpAny_tupleItemsOf hy dy ?_)
  refine wpAny_bind ?_
  simp only [List.zip_cons_cons, List.zip_nil_right]
  rw [List.forIn_cons]
  refine wpAny_bind ?_
  refine wpAny_bind ((intKind prog w).eqBool (a := (e.1 : Int)) (b := (f.1 : Int)) (by simp [intKind, Value.isInt]) (by simp [intKind, Value.isInt]) ?_)
  by_cases hp : (e.1 : Int) = (f.1 : Int)
  · rw [decide_eq_true hp]
    simp only [Bool.not_true, Bool.false_eq_true, if_false]
    refine wpAny_pure ?_
    dsimp only
    rw [List.forIn_cons]
    refine wpAny_bind ?_
    refine wpAny_bind ((PySem.strKind prog w).eqBool (a := S e.2) (b := S f.2) (by simp [PySem.strKind, Value.isStrOf]) (by simp [PySem.strKind, Value.isStrOf]) ?_)
    by_cases hw : S e.2 = S f.2
    · rw [decide_eq_true hw]
      simp only [Bool.not_true, Bool.false_eq_true, if_false]
      refine wpAny_pure ?_
      dsimp only
      rw [List.forIn_nil]
      refine wpAny_pure (wpAny_pure ⟨_, rfl, by simp [Builtin.Tuple.tupleCompareSizes], ?_⟩)
      have e0 : e = f := Prod.ext (by omega) (S_inj hw)
      subst e0
      rw [elt_irrefl] at h
      exact h
    · rw [decide_eq_false hw]
      simp only [Bool.not_false, if_true]
      refine wpAny_bind (wpAny_rule (wpAny_bind (lt_str (A := A.in1) (wpAny_bind (wpAny_pure (wpAny_pure (wpAny_pure (wpAny_pure ⟨_, rfl, by simp, ?_⟩))))))))
      have e1 : (decide ((S e.2).cps.toList < (S f.2).cps.toList)) = elt e f := by
        rw [S_list, S_list]
        have : e.1 = f.1 := by omega
        simp [elt, this]
      exact (congrArg (fun b => Q (.bool b) s) e1).mpr h
  · rw [decide_eq_false hp]
    simp only [Bool.not_false, if_true]
    refine wpAny_bind (wpAny_rule (wpAny_bind (lt_int (A := A.in1) (wpAny_bind (wpAny_pure (wpAny_pure (wpAny_pure (wpAny_pure ⟨_, rfl, by simp, ?_⟩))))))))
    have e1 : decide ((e.1 : Int) < (f.1 : Int)) = elt e f := by
      have : ¬ e.1 = f.1 := by omega
      simp [elt, this]
    exact (congrArg (fun b => Q (.bool b) s) e1).mpr h
end
end Mine

end
section
open PySem PySem.W PyProof.Rows PySem.Calls
set_option Elab.async false
set_option maxRecDepth 100000
set_option maxHeartbeats 2000000
namespace Mine
section
variable {prog : Program} {w : World} {A : Around} {E : Value → Shared → Prop} {s : Shared} {h₀ : Heap} {L : Addr} {news : Led}
theorem len_N {l : Addr} {xs : Array Value} {k : Nat} {n : Int} {Q : Value → Shared → Prop} (N : News h₀ L s.heap news) (hm : (l, listOf xs k) ∈ news) (hsz : xs.size ≤ 1000000) (hn : (xs.size : Int) = n)
    (hq : Q (.int n (s.toks + 1)) { s with toks := s.toks + 1 + 1 }) : wpAny (model prog w) A (call (.builtin "len") [.ref l]) Q E s :=
  len_list (isList_of N hm) (by omega) (by rw [hn]; exact hq)
theorem slice_ev {m : Str → Option Value} {value slice : Expr} {l : Addr} {vs : List Value} {k : Nat} {u : Tok} {ops : List Value} {Q : Value → Shared → Prop} (F : Fr h₀ L s.heap m) (N : News h₀ L s.heap news) (hm : (l, listOf vs.toArray k) ∈ news) (hsz : vs.length ≤ 1000000)
    (h : ∀ D h', Fr h₀ L h' m → News h₀ L h' ((D, listOf (evens vs).toArray 0) :: news) → (∀ p ∈ news, p.1 < D) → Q (.ref D) { s with heap := h' })
    (hs : subscripted slice false (.ref l) (.ref s.heap.objs.size) = operate ops (getItem (.ref l) (.ref s.heap.objs.size))) (ht : ∀ r, letTemporaryGo value (.ref l) r = pure ()) :
    wpAny (model prog w) A (subscriptTail value slice (.ref l) (.ref s.heap.objs.size)) Q E { s with heap := s.heap.push { cls := .type "slice", data := .fields #[.none, .none, .int 2 u] } } :=
  kmk_slice3_lit F N (isList_of N hm) .none .none (.int _ _) (by decide) (pick_evens vs) h hs ht (by rw [sizeLine_eq, List.size_toArray]; omega)
theorem slice_od {m : Str → Option Value} {value slice : Expr} {l : Addr} {vs : List Value} {k : Nat} {u v : Tok} {ops : List Value} {Q : Value → Shared → Prop} (F : Fr h₀ L s.heap m) (N : News h₀ L s.heap news) (hm : (l, listOf vs.toArray k) ∈ news) (h1 : 1 ≤ vs.length) (hsz : vs.length ≤ 1000000)
    (h : ∀ D h', Fr h₀ L h' m → News h₀ L h' ((D, listOf (odds vs).toArray 0) :: news) → (∀ p ∈ news, p.1 < D) → Q (.ref D) { s with heap := h' })
    (hs : subscripted slice false (.ref l) (.ref s.heap.objs.size) = operate ops (getItem (.ref l) (.ref s.heap.objs.size))) (ht : ∀ r, letTemporaryGo value (.ref l) r = pure ()) :
    wpAny (model prog w) A (subscriptTail value slice (.ref l) (.ref s.heap.objs.size)) Q E { s with heap := s.heap.push { cls := .type "slice", data := .fields #[.int 1 v, .none, .int 2 u] } } :=
  kmk_slice3_lit F N (isList_of N hm) (.int _ _) .none (.int _ _) (by decide) (pick_odds vs h1) h hs ht (by rw [sizeLine_eq, List.size_toArray]; omega)
end
end Mine

end
section
open PySem PySem.W PyProof.Rows PySem.Calls
set_option Elab.async false
set_option maxRecDepth 100000
set_option maxHeartbeats 2000000
namespace Mine
/-- values that are a list's entries, their tuples on the ledger -/
def Ents (news : Led) (vs : List Value) (xs : List Ent) : Prop := vs.length = xs.length ∧ ∀ i v, vs[i]? = some v → ∃ a o, v = .ref a ∧ (a, o) ∈ news ∧ EntO (g xs i) o
theorem Ents.get {news : Led} {vs : List Value} {xs : List Ent} (H : Ents news vs xs) {i : Nat} (hi : i < xs.length) : ∃ a o, vs[i]? = some (.ref a) ∧ (a, o) ∈ news ∧ EntO (g xs i) o := by
  have h1 : i < vs.length := by rw [H.1]; exact hi
  obtain ⟨a, o, e, hm, ho⟩ := H.2 i vs[i] (List.getElem?_eq_getElem h1)
  exact ⟨a, o, by rw [List.getElem?_eq_getElem h1, e], hm, ho⟩
theorem Ents.set {news : Led} {vs : List Value} {xs : List Ent} (H : Ents news vs xs) {i : Nat} (hi : i < xs.length) {a : Addr} {o : Obj} {e : Ent} (hm : (a, o) ∈ news) (ho : EntO e o) : Ents news (vs.set i (.ref a)) (xs.set i e) := by
  refine ⟨by rw [List.length_set, List.length_set, H.1], fun j v hj => ?_⟩
  rw [g_set _ _ _ _ hi]
  rw [List.getElem?_set] at hj
  by_cases hij : i = j
  · subst hij
    rw [if_pos rfl, if_pos (by rw [H.1]; exact hi)] at hj
    cases hj
    rw [if_pos rfl]
    exact ⟨a, o, rfl, hm, ho⟩
  · rw [if_neg hij] at hj
    rw [if_neg (Ne.symm hij)]
    exact H.2 j v hj
theorem Ents.snoc {news : Led} {vs : List Value} {xs : List Ent} (H : Ents news vs xs) {a : Addr} {o : Obj} {e : Ent} (hm : (a, o) ∈ news) (ho : EntO e o) : Ents news (vs ++ [.ref a]) (xs ++ [e]) := by
  refine ⟨by simp [H.1], fun j v hj => ?_⟩
  rcases Nat.lt_trichotomy j vs.length with h | h | h
  · rw [List.getElem?_append_left h] at hj
    have e1 : g (xs ++ [e]) j = g xs j := by simp [g, List.getElem?_append_left (H.1 ▸ h)]
    rw [e1]; exact H.2 j v hj
  · subst h
    rw [List.getElem?_concat_length] at hj
    cases hj
    have e1 : g (xs ++ [e]) vs.length = e := by simp [g, H.1]
    rw [e1]; exact ⟨a, o, rfl, hm, ho⟩
  · rw [List.getElem?_eq_none (by simp; omega)] at hj; cases hj
theorem Ents.mono {news news' : Led} {vs : List Value} {xs : List Ent} (H : Ents news vs xs) (h : ∀ p ∈ news, p ∈ news') : Ents news' vs xs :=
  ⟨H.1, fun i v hv => let ⟨a, o, e, hm, ho⟩ := H.2 i v hv; ⟨a, o, e, h _ hm, ho⟩⟩
theorem Ents.pop {news : Led} {vs : List Value} {xs : List Ent} (H : Ents news vs xs) : Ents news vs.dropLast xs.dropLast := by
  refine ⟨by simp [H.1], fun j v hj => ?_⟩
  have hlt : j < vs.length - 1 := by have := (List.getElem?_eq_some_iff.mp hj).1; simpa using this
  have e1 : g xs.dropLast j = g xs j := by
    have : j < xs.length - 1 := by rw [← H.1]; exact hlt
    unfold g
    simp only [List.getD_eq_getElem?_getD, List.getElem?_dropLast, if_pos this]
  rw [e1]
  rw [List.getElem?_dropLast, if_pos hlt] at hj
  exact H.2 j v hj
section
variable {prog : Program} {w : World} {A : Around} {E : Value → Shared → Prop} {s : Shared} {h₀ : Heap} {L : Addr} {m : Str → Option Value} {news news' : Led}
theorem set_L {l : Addr} {vs : List Value} {k i : Nat} {u : Tok} {v : Value} {Q : Unit → Shared → Prop} (F : Fr h₀ L s.heap m) (N : News h₀ L s.heap news) (U : Upd l (listOf vs.toArray k) (listOf (vs.set i v).toArray k) news news') (hi : i < vs.length) (hz : vs.length ≤ 1000000)
    (h : ∀ h', Fr h₀ L h' m → News h₀ L h' news' → Q () { s with heap := h' }) : wpAny (model prog w) A (setItem (.ref l) (.int (i : Int) u) v) Q E s := by
  obtain ⟨pre, post, rfl, rfl, a, b⟩ := U.split
  have z := N (l, listOf vs.toArray k) (List.mem_append.mpr (.inr (.head _)))
  have hs : vs.toArray.size = vs.length := List.size_toArray
  refine ki_setAt z.1 (by omega) (by omega) (by omega) (h _ (F.change (Heap.SameBut.update ..) z.2.1 z.2.2) (ki_turn _ N a b ?_ ?_))
  · show vs.toArray.setIfInBounds (i : Int).toNat v = (vs.set i v).toArray
    apply Array.toList_inj.mp
    simp
  · simp
end
section
variable {prog : Program} {w : World} {A : Around} {E : Value → Shared → Prop} {Q : Flow → Shared → Prop} {s : Shared} {env : Env} {h₀ : Heap} {L : Addr}
theorem set_H {m : Str → Option Value} {E' : Value → Shared → Prop} {news : Led} {l : Addr} {vs : List Value} {k i : Nat} {u : Tok} {v : Value} {Q' : Unit → Shared → Prop} (F : Fr h₀ L s.heap m) (N : News h₀ L s.heap ((l, listOf vs.toArray k) :: news)) (hl : ∀ p ∈ news, p.1 ≠ l) (hi : i < vs.length) (hz : vs.length ≤ 1000000)
    (h : ∀ h', Fr h₀ L h' m → News h₀ L h' ((l, listOf (vs.set i v).toArray k) :: news) → Q' () { s with heap := h' }) : wpAny (model prog w) A (setItem (.ref l) (.int (i : Int) u) v) Q' E' s :=
  set_L F N (Upd.head hl) hi hz h
theorem pop_H {m : Str → Option Value} {E' : Value → Shared → Prop} {news : Led} {l : Addr} {vs : List Value} {k : Nat} {y : Value} {Q' : Value → Shared → Prop} (F : Fr h₀ L s.heap m) (N : News h₀ L s.heap ((l, listOf (vs ++ [y]).toArray k) :: news)) (hl : ∀ p ∈ news, p.1 ≠ l) (hz : vs.length ≤ 1000000)
    (h : ∀ h', Fr h₀ L h' m → News h₀ L h' ((l, listOf vs.toArray (k + 1)) :: news) → Q' y { s with heap := h' }) : wpAny (model prog w) A (call (.builtin "list.pop") [.ref l]) Q' E' s :=
  kl_pop F N (by rw [List.toList_toArray]; exact kpa_last y vs) (Upd.head hl) (by rw [sizeLine_eq, List.toList_toArray, List.length_append, List.length_singleton]; omega) h
/-- the state at a loop's end -/
def EndAt (h₀ : Heap) (L : Addr) (s : Shared) (Jx : (Str → Option Value) → Led → Prop) (s₂ : Shared) : Prop := ∃ h' tk m₂ news₂, s₂ = { s with heap := h', toks := tk } ∧ Fr h₀ L h' m₂ ∧ News h₀ L h' news₂ ∧ Jx m₂ news₂
theorem EndAt.mk {Jx : (Str → Option Value) → Led → Prop} {h' : Heap} {tk : Nat} {m₂ : Str → Option Value} {news₂ : Led} (F : Fr h₀ L h' m₂) (N : News h₀ L h' news₂) (h : Jx m₂ news₂) : EndAt h₀ L s Jx { s with heap := h', toks := tk } := ⟨h', tk, m₂, news₂, rfl, F, N, h⟩
def WStepJ (h₀ : Heap) (L : Addr) (s : Shared) (J : Nat → (Str → Option Value) → Led → Prop) (Jx : (Str → Option Value) → Led → Prop) (Q : Flow → Shared → Prop) (n : Nat) (f : Flow) (s₂ : Shared) : Prop :=
  match f with
  | .ret v => Q (.ret v) s₂
  | .brk => EndAt h₀ L s Jx s₂
  | _ => ∃ n', n' < n ∧ EndAt h₀ L s (J n') s₂
/-- a while whose two ends meet -/
theorem While_J {test : Expr} {body : List Stmt} {pos : Pos} {m : Str → Option Value} {news : Led} (J : Nat → (Str → Option Value) → Led → Prop) (Jx : (Str → Option Value) → Led → Prop) {n₀ : Nat}
    (F : Fr h₀ L s.heap m) (N : News h₀ L s.heap news) (hJ : J n₀ m news)
    (turn : ∀ n m₁ news₁ h₁ tk₁, Fr h₀ L h₁ m₁ → News h₀ L h₁ news₁ → J n m₁ news₁ →
      wpAny (model prog w) A (isTrue test env (eval test env)) (fun b s₂ =>
        if b = true then wpAny (model prog w) A (execs body env) (WStepJ h₀ L s J Jx Q n) E s₂ else EndAt h₀ L s Jx s₂) E { s with heap := h₁, toks := tk₁ })
    (fin : ∀ h' tk m₂ news₂, Fr h₀ L h' m₂ → News h₀ L h' news₂ → Jx m₂ news₂ → Q .next { s with heap := h', toks := tk })
    (hE : PassesOwn (model prog w) A env E := by passes_own) : wpAny (model prog w) A (exec (.While test body [] pos) env) Q E s := by
  have ends : ∀ s₂, EndAt h₀ L s Jx s₂ → Q .next s₂ := by
    rintro s₂ ⟨h', tk, m₂, news₂, rfl, F₂, N₂, J₂⟩
    exact fin h' tk m₂ news₂ F₂ N₂ J₂
  refine While_invT (lo := 0) (n₀ := n₀) J (Nat.zero_le _) F N hJ (fun n m₁ news₁ h₁ tk₁ _ F₁ N₁ J₁ => wpAny_mono (turn n m₁ news₁ h₁ tk₁ F₁ N₁ J₁) (fun b s₂ h₂ => ?_) fun _ _ e => e) hE
  cases b with
  | false =>
    simp only [Bool.false_eq_true, if_false] at h₂ ⊢
    exact ends _ h₂
  | true =>
    simp only [if_true] at h₂ ⊢
    refine wpAny_mono h₂ (fun f s₃ h₃ => ?_) fun _ _ e => e
    cases f with
    | next =>
      obtain ⟨n', hn, h', tk, m₂, news₂, e, F₂, N₂, J₂⟩ := h₃
      exact ⟨h', tk, m₂, news₂, n', e, F₂, N₂, hn, J₂⟩
    | cont =>
      obtain ⟨n', hn, h', tk, m₂, news₂, e, F₂, N₂, J₂⟩ := h₃
      exact ⟨h', tk, m₂, news₂, n', e, F₂, N₂, hn, J₂⟩
    | brk => exact ends _ h₃
    | ret v => exact h₃
end
end Mine

end
section
open PySem PySem.W PyProof.Rows PySem.Calls
set_option Elab.async false
set_option maxRecDepth 100000
set_option maxHeartbeats 2000000
namespace Mine
theorem slot_wd_get : Slot "wrapper_descriptor" "__get__" "wrapper_descriptor.__get__" :=
  .of (owner := "wrapper_descriptor") (n := "__get__") (by rw [typeLookup_type, builtinLookup_eq_fast]; kernel_rfl) (by decide +kernel) (by decide +kernel) (by decide +kernel)
    (by first | exact .inl (by decide +kernel) | exact .inr (by decide +kernel)) (by rw [isSubtype_type]; kernel_rfl)
theorem wd_noset : typeLookup (.type "wrapper_descriptor") "__set__" = pure none := by rw [typeLookup_type, builtinLookup_eq_fast]; kernel_rfl
theorem wd_nodel : typeLookup (.type "wrapper_descriptor") "__delete__" = pure none := by rw [typeLookup_type, builtinLookup_eq_fast]; kernel_rfl
theorem entry_wd_get : entryFor table "wrapper_descriptor.__get__" = some Builtin.«wrapper_descriptor.__get__» := entryFor_of_tree (by kernel_rfl)
theorem args_wd_get (a b c : Value) : argsOk "wrapper_descriptor.__get__" ⟨[a, b, c], []⟩ := by unfold argsOk; kernel_rfl
theorem lk_list_has : typeLookup (.type "list") "__contains__" = pure (some (.builtin "list.__contains__")) := by rw [typeLookup_type, builtinLookup_eq_fast]; kernel_rfl
theorem type_list_has : typeOf (.builtin "list.__contains__") = pure (.type "wrapper_descriptor") := by show builtinType _ = _; rw [builtinType_eq_fast]; kernel_rfl
/-- a built-in slot bound to its object -/
def wrapObj (id : String) (a : Addr) : Obj := { cls := .type "method-wrapper", data := .fields #[.builtin id, .ref a] }
section
variable {prog : Program} {w : World} {A : Around} {E : Value → Shared → Prop} {h : Heap} {g : Array GenState} {d : Drawn} {t : Nat} {os : OsState} {a : Addr} {o : Obj}
theorem own_has : (".".intercalate ("list.__contains__".cutAt '.').dropLast) = "list" := by
  have e0 : "list.__contains__".cutAt '.' = ["list", "__contains__"] := by first | rfl | decide +kernel
  rw [e0]; decide +kernel
theorem sub_has : isSubtype (.type "list") (.type (".".intercalate ("list.__contains__".cutAt '.').dropLast)) = pure true := by rw [own_has]; exact sub_list_list
theorem has_get {P : Fin → Shared → Prop} (hx : h.get? a = some o) (hc : o.cls = .type "list")
    (hq : P (.done (.ret (.ref h.objs.size))) ⟨h.push (wrapObj "list.__contains__" a), g, d, t, os⟩) :
    wpAny (model prog w) A (Builtin.«wrapper_descriptor.__get__» ⟨[.builtin "list.__contains__", .ref a, .type "list"], []⟩) P E ⟨h, g, d, t, os⟩ := by
  have hT : (⟨h, g, d, t, os⟩ : Shared).TypeIs (.ref a) "list" := ⟨_, hx, hc⟩
  have f1 := sub_has
  repeat (any_goals (first | assumption | wp_step))
theorem has_call {P : Result → Shared → Prop} (hx : h.get? a = some o) (hc : o.cls = .type "list")
    (hq : P (.ok (.ret (.ref h.objs.size))) ⟨h.push (wrapObj "list.__contains__" a), g, d, t, os⟩) :
    codeAny (model prog w) A (.call (.builtin "wrapper_descriptor.__get__") ⟨[.builtin "list.__contains__", .ref a, .type "list"], []⟩) P ⟨h, g, d, t, os⟩ :=
  codeAny_call_builtin slot_wd_get.plain entry_wd_get (slot_wd_get.check _ _ _ _ _ _ _ _ (show (⟨h, g, d, t, os⟩ : Shared).TypeIs (.builtin "list.__contains__") "wrapper_descriptor" from type_list_has) (args_wd_get _ _ _) (has_get hx hc hq))
theorem has_entry {tk : Tok} {xs : Array Value} {k : Nat} {Q : Fin → Shared → Prop} (hx : h.get? a = some (listOf xs k))
    (hq : Q (.done (.ret (.ref h.objs.size))) ⟨h.push (wrapObj "list.__contains__" a), g, d, t, os⟩) :
    wpAny (model prog w) A (Builtin.«object.__getattribute__» ⟨[.ref a, .str "__contains__" tk], []⟩) Q E ⟨h, g, d, t, os⟩ := by
  have hT : (⟨h, g, d, t, os⟩ : Shared).TypeIs (.ref a) "list" := ⟨_, hx, rfl⟩
  have f4 := lk_list_has
  have f5 := type_list_has
  have f6 := slot_wd_get.lookup
  have f7 := wd_noset
  have f8 := wd_nodel
  repeat (any_goals (first | assumption | with_reducible refine has_call hx rfl ?_ | wp_step))
theorem has_by {tk : Tok} {xs : Array Value} {k : Nat} {b e : Bool} {Q : Value → Shared → Prop} (hx : h.get? a = some (listOf xs k))
    (hq : Q (.ref h.objs.size) ⟨h.push (wrapObj "list.__contains__" a), g, d, t, os⟩) : wpAny (model prog w) A (getAttrBy (.ref a) (.str "__contains__" tk) b e) Q E ⟨h, g, d, t, os⟩ := by
  have hT : (⟨h, g, d, t, os⟩ : Shared).TypeIs (.ref a) "list" := ⟨_, hx, rfl⟩
  have f2 := F.slot_list_getattribute.lookup
  have f3 := F.slot_list_getattribute.bind (.ref a)
  have gc : ∀ {A' : Around} {R : Result → Shared → Prop}, R (.ok (.ret (.ref h.objs.size))) ⟨h.push (wrapObj "list.__contains__" a), g, d, t, os⟩ → codeAny (model prog w) A' (.call (.builtin "list.__getattribute__") ⟨[.ref a, .str "__contains__" tk], []⟩) R ⟨h, g, d, t, os⟩ := fun hR =>
    codeAny_call_builtin F.slot_list_getattribute.plain F.entry_list_ga (F.slot_list_getattribute.check _ _ _ _ _ _ _ _ hT (F.args_list_getattribute_2 _ _) (has_entry hx hR))
  cases e <;> (repeat (any_goals (first | assumption | ((with_reducible show codeAny _ _ _ _ _); refine gc ?_) | wp_step)))
theorem has_attr {xs : Array Value} {k : Nat} {e : Bool} {s : Shared} {Q : Value → Shared → Prop} (hx : s.heap.get? a = some (listOf xs k))
    (hq : Q (.ref s.heap.objs.size) { s with heap := s.heap.push (wrapObj "list.__contains__" a), toks := s.toks + 1 }) : wpAny (model prog w) A (getAttr (.ref a) "__contains__" e) Q E s := by
  unfold getAttr
  refine wpAny_bind ?_
  unfold mkText
  refine wpAny_bind (wpAny_fresh ?_)
  exact wpAny_pure (has_by hx hq)
theorem has_attrN {h₀ : Heap} {L : Addr} {m : Str → Option Value} {news : Led} {l : Addr} {its : Array Value} {n : Nat} {e : Bool} {s : Shared} {Q : Value → Shared → Prop} (F : Fr h₀ L s.heap m) (N : News h₀ L s.heap news) (hm : (l, listOf its n) ∈ news)
    (h : ∀ x h', Fr h₀ L h' m → News h₀ L h' ((x, wrapObj "list.__contains__" l) :: news) → (∀ p ∈ news, p.1 < x) → Q (.ref x) { s with heap := h', toks := s.toks + 1 }) : wpAny (model prog w) A (getAttr (.ref l) "__contains__" e) Q E s :=
  has_attr (N _ hm).1 (h _ _ (F.push _) (N.push F _) fun p hp => Heap.lt_size (N p hp).1)
theorem quiet_has {as : Args} : (Code.builtin "list.__contains__" as).quiet = true := Code.quiet_builtin _ (by decide +kernel)
theorem check_has (l : Addr) (v : Value) {xs : Array Value} {k : Nat} {Q : Unit → Shared → Prop} (hx : h.get? l = some (listOf xs k)) (hq : Q () ⟨h, g, d, t, os⟩) : wpAny (model prog w) A (checkBoundCall "list.__contains__" ⟨[.ref l, v], []⟩) Q E ⟨h, g, d, t, os⟩ := by
  have hT : (⟨h, g, d, t, os⟩ : Shared).TypeIs (.ref l) "list" := ⟨_, hx, rfl⟩
  have f1 := sub_list_module
  have f2 := sub_list_type
  unfold checkBoundCall
  repeat (any_goals (first | assumption | wp_step))
theorem eqgives_str (x y : Str) (t u : Tok) : MeetsSeq.EqGives (.str x t) (.str y u) (decide (x = y)) := fun prog w A E s Q h =>
  (PySem.strKind prog w).eqBool (a := x) (b := y) (by simp [PySem.strKind, Value.isStrOf]) (by simp [PySem.strKind, Value.isStrOf]) h
theorem bound_has_call {x l : Addr} {v : Value} {xs : Array Value} {k : Nat} {s : Shared} {e : Value → Bool} {Q : Value → Shared → Prop} (hb : s.heap.get? x = some (wrapObj "list.__contains__" l)) (hx : s.heap.get? l = some (listOf xs k)) (he : ∀ y, y ∈ xs → MeetsSeq.EqGives y v (e y))
    (hq : Q (.bool (xs.any e)) s) : wpAny (model prog w) A (call (.ref x) [v]) Q E s := by
  refine wpAny_call (codeAny_of_tree ?_)
  show wpAny _ A.in1 (callAny (.ref x) ⟨[v], []⟩) _ _ s
  simp only [callAny]
  refine wpAny_bind (wpAny_load hb ?_)
  simp only [wrapObj, show (Value.type "method-wrapper" == Value.type "method" || Value.type "method-wrapper" == Value.type "builtin_function_or_method" || Value.type "method-wrapper" == Value.type "method-wrapper") = true by decide, if_true]
  refine KFB.if_so (by decide) ?_
  refine wpAny_bind (check_has l v hx ?_)
  refine wpAny_bind (wpAny_pure (wpAny_pure ?_))
  refine ⟨quiet_has, codeAny_builtin F.entry_list_contains ?_⟩
  exact MeetsSeq.list_contains l xs k v e he _ _ _ _ _ ⟨hx, hq⟩
end
end Mine

end
section
open PySem PySem.W PyProof.Rows PySem.Calls
set_option Elab.async false
set_option maxRecDepth 100000
set_option maxHeartbeats 2000000
namespace Mine
/-- a list's iterator at a place -/
def iterObj (l : Addr) (i : Nat) : Obj := { cls := .type "list_iterator", data := .fields #[.ref l, .int (i : Int) 0] }
section
variable {prog : Program} {w : World} {A : Around} {E : Value → Shared → Prop} {s : Shared} {h₀ : Heap} {L : Addr} {m : Str → Option Value} {news : Led}
theorem iter_L {l : Addr} {xs : Array Value} {k : Nat} {Q : Value → Shared → Prop} (F : Fr h₀ L s.heap m) (N : News h₀ L s.heap news) (hm : (l, listOf xs k) ∈ news)
    (h : ∀ I h', Fr h₀ L h' m → News h₀ L h' ((I, iterObj l 0) :: news) → (∀ p ∈ news, p.1 < I) → Q (.ref I) { s with heap := h' }) : wpAny (model prog w) A (call (.builtin "iter") [.ref l]) Q E s := by
  refine call_function_entry (by decide +kernel) (by decide +kernel) kdk_entry_iter (kdk_args_iter _) ?_
  unfold Builtin.«iter»
  refine wpAny_bind (m := someArgs "iter" 1 2 _) (wpAny_of_eq (a := [Value.ref l]) (by first | rfl | kernel_rfl!) ?_)
  show wpAny _ _ (pyIter (.ref l) >>= _) _ _ _
  refine wpAny_bind (wpAny_pyIter_list (isList_of N hm) ?_)
  exact wpAny_pure ⟨_, rfl, h _ _ (F.push _) (News.push F N _ rfl) (fun q hq => Heap.lt_size (N q hq).1)⟩
theorem special_item {it l : Addr} {i : Nat} {xs : Array Value} {k : Nat} {v : Value} {Q : Option Value → Shared → Prop} (hit : s.heap.get? it = some (iterObj l i)) (hl : s.heap.get? l = some (listOf xs k)) (hx : xs[i]? = some v)
    (hQ : ∀ h', h'.get? it = some (iterObj l (i + 1)) → Heap.SameBut it s.heap h' → Q (some v) { s with heap := h' }) : wpAny (model prog w) A (callSpecial? (.ref it) (Str.ofString "__next__")) Q E s := by
  have hT : s.TypeIs (.ref it) "list_iterator" := ⟨_, hit, rfl⟩
  refine wpAny_callSpecial?_slot (name := Str.ofString "__next__") hT slot_listiter_next (wpAny_call_entry slot_listiter_next hT entry_listiter_next ?_ (args_listiter_next _))
  show wpAny _ _ (field (.ref it) 0 >>= _) _ _ s
  refine wpAny_bind (wpAny_field hit rfl (x := .ref l) rfl ?_)
  show wpAny _ _ (if (Value.ref l == Value.none) = true then _ else _) _ _ s
  rw [if_neg (show ¬ ((Value.ref l == Value.none) = true) from Bool.false_ne_true)]
  show wpAny _ _ (field (.ref it) 1 >>= _) _ _ s
  refine wpAny_bind (wpAny_field hit rfl (x := .int i 0) rfl ?_)
  show wpAny _ _ (seqItems? (.ref l) >>= _) _ _ s
  refine wpAny_bind (wpAny_seqItems hl rfl ?_)
  simp only [Int.toNat_natCast, hx]
  refine wpAny_bind (wpAny_setField hit rfl (by simp) (wpAny_pure ⟨v, rfl, hQ _ ?_ (Heap.SameBut.update ..)⟩))
  rw [Heap.get?_update_self _ hit rfl]
  simp [iterObj, Obj.mapFields, rawInt]
theorem next_item {it l : Addr} {i : Nat} {xs : Array Value} {k : Nat} {v : Value} {news' : Led} {Q : Value → Shared → Prop} (F : Fr h₀ L s.heap m) (N : News h₀ L s.heap news) (U : Upd it (iterObj l i) (iterObj l (i + 1)) news news') (hm : (l, listOf xs k) ∈ news) (hx : xs[i]? = some v)
    (h : ∀ h', Fr h₀ L h' m → News h₀ L h' news' → Q v { s with heap := h' }) : wpAny (model prog w) A (call (.builtin "next") [.ref it]) Q E s := by
  obtain ⟨pre, post, rfl, rfl, a, b⟩ := U.split
  have hit := N (it, iterObj l i) (List.mem_append_right _ (.head _))
  have hT : s.TypeIs (.ref it) "list_iterator" := ⟨_, hit.1, rfl⟩
  refine call_function_entry (by decide +kernel) (by decide +kernel) kdk_entry_next (kdk_args_next _) ?_
  unfold Builtin.«next»
  refine wpAny_bind (m := someArgs "next" 1 2 _) (wpAny_of_eq (a := [Value.ref it]) (by first | rfl | kernel_rfl!) ?_)
  dsimp only
  refine wpAny_bind (wpAny_specialOf (name := Str.ofString "__next__") hT slot_listiter_next.lookup ?_)
  refine wpAny_ite_split (fun hab => absurd hab (by decide)) (fun _ => ?_)
  refine wpAny_bind (special_item hit.1 (N _ hm).1 hx fun h' hi' hs => ?_)
  exact wpAny_pure ⟨_, rfl, h h' (F.change hs hit.2.1 hit.2.2) (news_set N a b hs hi')⟩
theorem next_end {it l : Addr} {i : Nat} {xs : Array Value} {k : Nat} {Q : Value → Shared → Prop} (hh : A.handled = none) (F : Fr h₀ L s.heap m) (N : News h₀ L s.heap news) (hit : (it, iterObj l i) ∈ news) (hm : (l, listOf xs k) ∈ news) (hx : xs[i]? = none)
    (h : ∀ h₁ h' e, Heap.NewExc h₁ h' e "StopIteration" → Fr h₀ L h₁ m → (∀ p ∈ news, p.1 ≠ it → h₁.get? p.1 = some p.2) → E (.ref e) { s with heap := h' }) : wpAny (model prog w) A (call (.builtin "next") [.ref it]) Q E s := by
  have hi := N _ hit
  have hT : s.TypeIs (.ref it) "list_iterator" := ⟨_, hi.1, rfl⟩
  refine call_function_entry (by decide +kernel) (by decide +kernel) kdk_entry_next (kdk_args_next _) ?_
  unfold Builtin.«next»
  refine wpAny_bind (m := someArgs "next" 1 2 _) (wpAny_of_eq (a := [Value.ref it]) (by first | rfl | kernel_rfl!) ?_)
  dsimp only
  refine wpAny_bind (wpAny_specialOf (name := Str.ofString "__next__") hT slot_listiter_next.lookup ?_)
  refine wpAny_ite_split (fun hab => absurd hab (by decide)) (fun _ => ?_)
  refine wpAny_bind (wpAny_callSpecial?_slot (name := Str.ofString "__next__") hT slot_listiter_next (wpAny_call_entry slot_listiter_next hT entry_listiter_next ?_ (args_listiter_next _)))
  show wpAny _ _ (field (.ref it) 0 >>= _) _ _ s
  refine wpAny_bind (wpAny_field hi.1 rfl (x := .ref l) rfl ?_)
  show wpAny _ _ (if (Value.ref l == Value.none) = true then _ else _) _ _ s
  rw [if_neg (show ¬ ((Value.ref l == Value.none) = true) from Bool.false_ne_true)]
  show wpAny _ _ (field (.ref it) 1 >>= _) _ _ s
  refine wpAny_bind (wpAny_field hi.1 rfl (x := .int i 0) rfl ?_)
  show wpAny _ _ (seqItems? (.ref l) >>= _) _ _ s
  refine wpAny_bind (wpAny_seqItems (N _ hm).1 rfl ?_)
  simp only [Int.toNat_natCast, hx]
  refine wpAny_bind (wpAny_rule (wpAny_bind (wpAny_setField hi.1 rfl (by simp) ?_)))
  show wpAny _ _ (newExc (.type "StopIteration") [] >>= _) _ _ _
  refine wpAny_bind ?_
  simp only [newExc, newTuple]
  refine wpAny_bind (wpAny_newObj_type ?_ (by size_fits))
  refine wpAny_bind (m := firstArgMember _ _) (wpAny_of_eq (a := Value.none) (by first | rfl | (simp only [firstArgMember]; rfl)) ?_)
  refine wpAny_newObj_type ?_ (by size_fits)
  simp only [raiseNew]
  refine wpAny_bind (wpAny_handled ?_)
  rw [show A.in1.in1.handled = none from hh]
  refine wpAny_bind (wpAny_pure (wpAny_throw ?_))
  have sb := Heap.SameBut.update s.heap it (Obj.mapFields (·.setIfInBounds 0 Value.none))
  refine h (s.heap.update it (Obj.mapFields (·.setIfInBounds 0 Value.none))) _ _ ⟨fun b o e => Heap.get?_push_of_some _ (Heap.get?_push_of_some _ e), ?_, ⟨_, _, Heap.get?_push_size _ rfl, rfl, rfl⟩⟩ (F.change sb hi.2.1 hi.2.2) fun p hp hne => sb.extBut _ _ hne (N p hp).1
  exact Heap.get?_none_of_le (by rw [Heap.size_push]; exact Nat.le_succ _)
end
end Mine

end
section
open PySem PySem.W PyProof.Rows PySem.Calls
set_option Elab.async false
set_option maxRecDepth 100000
set_option maxHeartbeats 400000
namespace Mine
section
variable {prog : Program} {w : World} {A : Around} {E : Value → Shared → Prop} {s : Shared}
/-- the loop that fills a new list from an iterator -/
theorem extend_own {R : Result → Shared → Prop} {S I : Addr} {res : Value} (Inv : Nat → Shared → Prop)
    (turn : ∀ n s, Inv n s → wpAny (model prog w) A.in1 (pyNext (.ref I)) (fun r s' => match r with
      | none => R (.ok (.ret res)) s'
      | some v => ∃ acc c n', s'.heap.get? S = some (listOf acc c) ∧ acc.size ≤ 1000000 ∧ n' < n ∧ Inv n' { s' with heap := s'.heap.update S (Obj.mapSeq (·.push v)) }) (fun e s' => R (.error e) s') s) :
    ∀ n s, Inv n s → codeAny (model prog w) A (.builtin "list.extend.loop" ⟨[.ref S, .ref I, res], []⟩) R s := by
  intro n
  induction n using Nat.strongRecOn with
  | _ n ih =>
    intro s hs
    refine codeAny_builtin F.entry_extend_loop ?_
    rw [Around.under_plainId F.plain_extend_loop _]
    show wpAny _ A.in1 (pyNext (.ref I) >>= _) _ _ s
    refine wpAny_bind (wpAny_mono (turn n s hs) (fun r s' hr => ?_) fun _ _ e => e)
    cases r with
    | none => exact wpAny_pure hr
    | some v =>
      obtain ⟨acc, c, n', hS, hz, hn, hI⟩ := hr
      show wpAny _ A.in1 (updateSeq S (·.push v) >>= _) _ _ _
      refine wpAny_bind ?_
      exact wpAny_updateSeq hS rfl (wpAny_pure ⟨plainId_quiet F.plain_extend_loop _, ih n' hn _ hI⟩) (by rw [sizeLine_eq]; omega) (by show (acc.push v).size ≤ sizeLine + 1; rw [Array.size_push, sizeLine_eq]; omega)
theorem own_turn {h₀ h : Heap} {L D : Addr} {its its' : Array Value} {n n' : Nat} {post : Led} (f : Array Value → Array Value) (N : News h₀ L h ((D, listOf its n) :: post)) (b : ∀ p ∈ post, p.1 ≠ D) (he : f its = its') (hn : (if its'.size == its.size then n else n + 1) = n') :
    News h₀ L (h.update D (Obj.mapSeq f)) ((D, listOf its' n') :: post) := ki_turn (pre := []) f N (fun p hp => by cases hp) b he hn
/-- list() of an iterator of the text's own -/
theorem list_own {K : Frag} {h₀ : Heap} {L x C : Addr} {m : Str → Option Value} {ox : Obj} {od : Option Obj} {news : Led} {Q : Value → Shared → Prop} (Inv' : (Str → Option Value) → Led → Addr → Nat → Shared → Prop) {n₀ : Nat}
    (F0 : Fr h₀ L s.heap m) (N : News h₀ L s.heap news) (X₀ : K.In h₀) (inst : ∀ h, News h₀ L h news → InstAt h x ox C od) (hl : findIn K (.ref C) "__len__" = some none) (hh : findIn K (.ref C) "__length_hint__" = some none) (hx : ∃ o, (x, o) ∈ news)
    (iter : ∀ S k h' (E' : Value → Shared → Prop) (Q' : Value → Shared → Prop), Fr h₀ L h' m → News h₀ L h' ((S, listOf #[] k) :: news) → (∀ p ∈ news, p.1 < S) →
      (∀ h'' tk, Fr h₀ L h'' m → News h₀ L h'' ((S, listOf #[] k) :: news) → Q' (.ref x) { s with heap := h'', toks := tk }) → wpAny (model prog w) A.in1.in1 (pyIter (.ref x)) Q' E' { s with heap := h' })
    (start : ∀ S k h' tk, Fr h₀ L h' m → News h₀ L h' ((S, listOf #[] k) :: news) → (∀ p ∈ news, p.1 < S) → Inv' m news S n₀ { s with heap := h', toks := tk })
    (turn : ∀ S n s₁, Inv' m news S n s₁ → wpAny (model prog w) A.in1.in1 (pyNext (.ref x)) (fun r s' => match r with
      | none => Q (.ref S) s'
      | some v => ∃ acc c n', s'.heap.get? S = some (listOf acc c) ∧ acc.size ≤ 1000000 ∧ n' < n ∧ Inv' m news S n' { s' with heap := s'.heap.update S (Obj.mapSeq (·.push v)) }) (fun e s' => E e s') s₁) :
    wpAny (model prog w) A (call (.type "list") [.ref x]) Q E s := by
  refine callType_codes (Q₁ := fun obj s₁ => obj = .ref s.heap.objs.size ∧ s₁ = { s with heap := s.heap.push { cls := .type "list", data := .seq #[] } }) PySem.F.called_list (PySem.F.typeCall_list_1 _) PySem.F.entry_list_init
    (code_list_new _ ⟨rfl, rfl⟩) fun obj s₁ h₁ => ?_
  obtain ⟨rfl, rfl⟩ := h₁
  generalize hSe : s.heap.objs.size = S
  have hS : (s.heap.push { cls := .type "list", data := .seq #[] }).get? S = some (listOf #[] 0) := hSe ▸ Heap.get?_push_size _ rfl
  have hlt : ∀ p ∈ news, p.1 < S := fun p hp => hSe ▸ Heap.lt_size (N p hp).1
  have N1 : News h₀ L (s.heap.push { cls := .type "list", data := .seq #[] }) ((S, listOf #[] 0) :: news) := hSe ▸ N.push F0 _ rfl
  have F1 : Fr h₀ L (s.heap.push { cls := .type "list", data := .seq #[] }) m := F0.push _
  have hne : ∀ p ∈ news, p.1 ≠ S := fun p hp => Nat.ne_of_lt (hlt p hp)
  refine ⟨⟨_, hS, rfl⟩, PySem.F.args_list_init_2 _ _, ?_⟩
  show wpAny _ A.in1.in1 (do let old ← Builtin.List.listItems (.ref S); Builtin.List.listUpdate (.ref S) (fun _ => #[]); letGo old.toList.reverse; Builtin.List.listExtendWith (.ref S) (.ref x) .none) _ _ _
  refine wpAny_bind ?_
  unfold Builtin.List.listItems
  refine wpAny_bind (wpAny_seqItems hS rfl (wpAny_pure ?_))
  show wpAny _ _ (updateSeq S (fun _ => #[]) >>= fun _ => letGo (#[] : Array Value).toList.reverse >>= fun _ => Builtin.List.listExtendWith (.ref S) (.ref x) .none) _ _ _
  refine wpAny_bind (wpAny_updateSeq hS rfl ?_ (by show (0 : Nat) ≤ _; exact Nat.zero_le _) (by show (0 : Nat) ≤ _; exact Nat.zero_le _))
  have z1 := N1 _ (.head _)
  have N2 := own_turn (its' := #[]) (n' := 0) (fun _ => (#[] : Array Value)) N1 hne rfl rfl
  have F2 := F1.change (Heap.SameBut.update _ S (Obj.mapSeq fun _ => (#[] : Array Value))) z1.2.1 z1.2.2
  refine wpAny_bind (wpAny_letGo ?_)
  generalize (s.heap.push { cls := .type "list", data := .seq #[] }).update S (Obj.mapSeq fun _ => (#[] : Array Value)) = hp2 at F2 N2
  unfold Builtin.List.listExtendWith
  have I2 := inst _ (drop1 N2)
  refine wpAny_bind (I2.type.here ?_)
  have hsx : S ≠ x := by
    obtain ⟨o, ho⟩ := hx
    exact fun e => hne _ ho e.symm
  have h1 : Builtin.List.listSameRef (.ref S) (.ref x) = false := by simp [Builtin.List.listSameRef, hsx]
  have h2 : (Value.ref C == Value.type "list") = false := rfl
  have h3 : (Value.ref C == Value.type "tuple") = false := rfl
  simp only [h1, h2, h3, Bool.or_false, Bool.false_eq_true, if_false]
  refine wpAny_bind (iter S 0 hp2 _ _ F2 N2 hlt fun hp3 tk3 F3 N3 => ?_)
  refine wpAny_bind (wpAny_holding ?_)
  unfold Builtin.List.listLengthHint
  have I3 := inst _ (drop1 N3)
  have X3 := X₀.keeps F3.keep
  refine wpAny_bind (wpAny_bind (I3.type.here ((looks_findIn X3 hl).here ?_)))
  show wpAny _ _ (specialOf (.ref x) (Str.ofString "__length_hint__") >>= _) _ _ _
  refine wpAny_bind (wpAny_bind (I3.type.here ((looks_findIn X3 hh).here ?_)))
  refine wpAny_pure ?_
  show wpAny _ _ (rule "list.extend.makes-room" >>= fun _ => Builtin.List.listTouch (.ref S) >>= fun _ => again (.builtin "list.extend.loop" ⟨[.ref S, .ref x, .none], []⟩)) _ _ _
  refine wpAny_bind (wpAny_rule ?_)
  refine wpAny_bind ?_
  show wpAny _ _ (updateSeq S (·.push .none) >>= fun _ => updateSeq S (·.pop)) _ _ _
  have z3 := N3 _ (.head _)
  have N4 := own_turn (its' := #[Value.none]) (n' := 1) (·.push Value.none) N3 hne rfl rfl
  have F4 := F3.change (Heap.SameBut.update _ S (Obj.mapSeq (·.push Value.none))) z3.2.1 z3.2.2
  refine wpAny_bind (wpAny_updateSeq z3.1 rfl ?_ (by show (0 : Nat) ≤ _; exact Nat.zero_le _) (by show (1 : Nat) ≤ _; rw [sizeLine_eq]; omega))
  have z4 := N4 _ (.head _)
  have N5 := own_turn (its' := #[]) (n' := 2) (·.pop) N4 hne rfl rfl
  have F5 := F4.change (Heap.SameBut.update _ S (Obj.mapSeq (·.pop))) z4.2.1 z4.2.2
  refine wpAny_updateSeq z4.1 rfl ?_ (by show (1 : Nat) ≤ _; rw [sizeLine_eq]; omega) (by show (0 : Nat) ≤ _; exact Nat.zero_le _)
  refine wpAny_pure ⟨plainId_quiet PySem.F.plain_extend_loop _, extend_own (Inv' m news S) (fun n s₂ h₂ => wpAny_mono (turn S n s₂ h₂) (fun r s₃ hr => ?_) fun _ _ e => e) n₀ _ (start S 2 _ tk3 F5 N5 hlt)⟩
  cases r with
  | none => exact ⟨rfl, hr⟩
  | some v => exact hr
end
section
variable {prog : Program} {w : World} {A : Around} {E : Value → Shared → Prop}
theorem callWith_wrap1 {h₀ : Heap} {L : Addr} {news : Led} {id : String} {pos : Pos} {x l : Addr} {first : List Value} {env : Env} {e : Expr} {rest : List Expr} {s : Shared} {Q : Value → Shared → Prop} (_N : News h₀ L s.heap news) (_hm : (x, wrapObj id l) ∈ news)
    (h : wpAny (model prog w) A (spliced (backTo pos (starEach (e :: rest) env))) (fun vs s₁ => s₁.heap.get? x = some (wrapObj id l) ∧ wpAny (model prog w) A (call (.ref x) (first ++ vs)) Q E s₁) E s)
    (he : starEach (e :: rest) env = (false, eval e env) :: starEach rest env := by rfl) (hplain : (backTo pos (starEach rest env)).any (·.1) = false := by rfl) :
    wpAny (model prog w) A (callWith pos (.ref x) first (backTo pos (starEach (e :: rest) env)) []) Q E s := by
  rw [he] at h ⊢
  have hp : (List.any ((false, eval e env) :: backTo pos (starEach rest env)) (·.1)) = false := by show (false || (backTo pos (starEach rest env)).any (·.1)) = false; rw [hplain]; rfl
  unfold callWith
  refine wpAny_bind (wpAny_holding (wpAny_mono (evalArgs_plain (Q := fun y s₁ => s₁.heap.get? x = some (wrapObj id l) ∧ wpAny (model prog w) A (call (.ref x) (first ++ y.pos) y.kw) Q E s₁) h) (fun y s₁ h₁ => wpAny_bind (wpAny_standAt ?_)) fun _ _ x => x))
  obtain ⟨ho, hcall⟩ := h₁
  have hp' : (backTo pos ((false, eval e env) :: starEach rest env)).any (·.1) = false := hp
  simp only [hp', List.any_nil, Bool.or_false]
  refine wpAny_bind (m := keeperOf (.ref x)) ?_
  unfold keeperOf
  refine wpAny_bind (wpAny_load ho ?_)
  simp only [wrapObj, show (Value.type "method-wrapper" != Value.type "method") = true by decide, show (Value.type "method-wrapper" == Value.type "builtin_function_or_method" || Value.type "method-wrapper" == Value.type "method-wrapper") = true by decide, if_true]
  refine wpAny_pure ?_
  exact wpAny_bind (wpAny_mono hcall (fun r s₂ hr => wpAny_bind (wpAny_holding (wpAny_point (wpAny_pure hr)))) fun _ _ x => x)
end
end Mine

end
section
open PySem PySem.W PyProof.Rows PySem.Calls
set_option Elab.async false
set_option maxRecDepth 100000
set_option maxHeartbeats 1000000
namespace Mine
section
variable {base g h₀ h : Heap} {outer : List Env} {L : Addr} {m : Str → Option Value} {A₀ : Around} {news : Led}
/-- the frames of the callers -/
abbrev fra (outer : List Env) : List Addr := outer.filterMap (·.frame)
/-- a frame's base turned: the base below it turns too -/
theorem turn_down {g₁ : Heap} (B : Below A₀ base outer h₀) (F : Fr h₀ L g m) (T : KtsTurn (L :: fra outer) g g₁) (hk : g₁.StaysIn h) :
    ∃ h₁, Below A₀ base outer h₁ ∧ KtsTurn (fra outer) h₀ h₁ ∧ Fr h₁ L h m ∧ ∀ news, (∀ p ∈ news, h.get? p.1 = some p.2 ∧ g₁.get? p.1 = none) → News h₁ L h news := by
  have hL := kts_self F
  obtain ⟨T1, S1⟩ := kts_turn_at (h := h) (fs := fra outer) (g := h₀)
    (fun b hb => by
      obtain ⟨_, o, ho, _⟩ := B.frames.mem hb
      exact ⟨o, ho⟩)
    (fun b o e nm => hk b o (T.other b o (F.keep b o e) (fun hm => by
      rcases List.mem_cons.mp hm with z | z
      · rw [z, hL] at e; cases e
      · exact nm z)))
    (fun b o e hm => by
      obtain ⟨sl, hs⟩ := T.up (F.keep b o e)
      exact ⟨sl, hk _ _ hs⟩)
  obtain ⟨oL, es, ep, hoL, hd, hkk, hf⟩ := F.ns
  obtain ⟨sl, hsl⟩ := T.up hoL
  have hLh := hk _ _ hsl
  refine ⟨_, ⟨B.stack, fun b o e => T1.other b o (B.stays b o e) (fun hm => by rw [(B.frames.mem hm).1] at e; cases e), B.frames.of_keeps fun b o e _ => ?_⟩, T1, ⟨⟨_, es, ep, hLh, hd, hkk, hf⟩, S1, by rw [T1.size]; exact F.above⟩, fun news hn p hp => ⟨(hn p hp).1, fun q => ?_, ?_⟩⟩
  · obtain ⟨s2, hs2⟩ := T1.up e
    exact ⟨_, hs2, rfl⟩
  · have := (hn p hp).2; rw [q, hsl] at this; cases this
  · refine T1.none_ _ ?_
    cases q : h₀.get? p.1 with
    | none => rfl
    | some o =>
      obtain ⟨s2, hs2⟩ := T.up (F.keep _ _ q)
      have := (hn p hp).2
      rw [hs2] at this; cases this
end
/-- a call's return, its base turned -/
def LeaveS (A₀ : Around) (base : Heap) (outer : List Env) (h₀ : Heap) (L : Addr) (m : Str → Option Value) (g : Heap) (R : Result → Shared → Prop) (v : Value) (s' : Shared) : Prop :=
  ∃ g₁ L' m' news', KtsTurn (L :: fra outer) g g₁ ∧ Fr g₁ L' s'.heap m' ∧ News g₁ L' s'.heap news' ∧
    (∀ h₁, Below A₀ base outer h₁ → KtsTurn (fra outer) h₀ h₁ → Fr h₁ L s'.heap m → News h₁ L s'.heap news' → R (.ok (.ret v)) s')
theorem LeaveS.end_ {A₀ : Around} {base : Heap} {outer : List Env} {h₀ : Heap} {L : Addr} {m : Str → Option Value} {g : Heap} {R : Result → Shared → Prop} {v : Value} {s' : Shared} (B : Below A₀ base outer h₀) (FG : Fr h₀ L g m)
    (h : LeaveS A₀ base outer h₀ L m g R v s') : R (.ok (.ret v)) s' := by
  obtain ⟨g₁, L', m', news', T, F', N', k⟩ := h
  obtain ⟨h₁, B1, T1, F1, N1⟩ := turn_down B FG T F'.keep
  exact k h₁ B1 T1 F1 (N1 news' fun p hp => ⟨(N' p hp).1, (N' p hp).2.2⟩)
section
variable {prog : Program} {w : World} {A A₀ : Around} {s : Shared} {base h₀ : Heap} {outer : List Env} {env : Env} {L : Addr} {m mg mb : Str → Option Value} {news : Led} {K : Frag} {R : Result → Shared → Prop} {p : Program} {loose : List Str} {mean : ExcName → Option Value}
  {name qual : Str} {params : Arguments} {body : List Stmt} {scope : Scope} {dV kV doc pm cdv ct oc : Value} {an od : Option Addr} {osl : Array (Option Value)} {f : Addr} {args : Args} {binds : List (Str × Value)}
theorem code_turn (B : Below A₀ base outer h₀) (F : Fr h₀ L s.heap m) (XB : K.In base) (N : News h₀ L s.heap news) (TB : Top p loose mean mg mb base) (hA : A.frames = some (env :: outer)) (hf : env.frame = some L) (hke : env.scope.kind = .function)
    (ho : K.lookup f = some ⟨oc, od, .func (fnOf name qual params body scope dV kV doc pm an cdv ct), osl⟩) (hcd : codeIn K cdv qual = true) (hroom : A.depth < recursionLimit)
    (hbind : BindsTo s (fnOf name qual params body scope dV kV doc pm an cdv ct) args binds) (hloc : ∀ y ∈ binds, scope.names.lookup y.1 = some .local)
    (h : ∀ g L' h₁, Fr h₀ L g m → Fr g L' h₁ (fun y => binds.reverse.lookup y) → News g L' h₁ news → Below A base (env :: outer) g → K.In g → Top p loose mean mg mb g →
      wpAny (model prog w) (A.deeper (envOf qual scope L' f cdv)) (execs body (envOf qual scope L' f cdv))
        (fun fl s' => LeaveS A₀ base outer h₀ L m g R (match fl with | .ret v => v | _ => .none) s')
        (fun e s' => wpAny (model prog w) (A.deeper (envOf qual scope L' f cdv)) (leaving (envOf qual scope L' f cdv) e) (fun _ s'' => R (.error e) s'') (fun e' s'' => R (.error e') s'') s')
        { s with heap := h₁, toks := s.toks + binds.length })
    (hco : scope.isCoroutine = false) (hgen : scope.isGenerator = false) (hk : scope.kind = .function)
    (hcell : ∀ x ∈ scope.names, x.2 ≠ .cell) : codeAny (model prog w) A (.call (.ref f) args) R s := by
  have X₀ := XB.keeps B.stays
  have T := TB.keeps B.stays
  obtain ⟨FG, BG, st, lv⟩ := groundX (R := R) B F N hA hf hke
  refine codeAny_call_def (fd := fnOf name qual params body scope dV kV doc pm an cdv ct) (body := body) (binds := binds) hroom ((X₀.keeps F.keep) _ _ ho) rfl (T.nolimit.keeps F.keep) (codeRec_of (X₀.keeps F.keep) hcd) rfl hbind hcell hloc (fun h₁ hns hk₁ => ?_) hco hgen hk
  exact wpAny_mono (h _ s.heap.objs.size h₁ FG ⟨hns, fun b o e => hk₁ b o (of_hideAll _ e), Nat.le_of_eq (hideAll_size _ _)⟩
    (fun p hp => ⟨hk₁ _ _ (N p hp).1, Nat.ne_of_lt (Heap.lt_size (N p hp).1), hideAll_none _ (List.mem_map_of_mem hp)⟩) BG (X₀.keeps st) (T.keeps st)) (fun fl s' hl => hl.end_ B FG) fun _ _ y => y
theorem code_turnC (B : Below A₀ base outer h₀) (F : Fr h₀ L s.heap m) (XB : K.In base) (N : News h₀ L s.heap news) (TB : Top p loose mean mg mb base) (hA : A.frames = some (env :: outer)) (hf : env.frame = some L) (hke : env.scope.kind = .function)
    (ho : K.lookup f = some ⟨oc, od, .func (fnOf name qual params body scope dV kV doc pm an cdv ct), osl⟩) (hcd : codeIn K cdv qual = true) (hroom : A.depth < recursionLimit)
    (hbind : BindsTo s (fnOf name qual params body scope dV kV doc pm an cdv ct) args binds) (hkind : (binds.all fun y => scope.names.lookup y.1 == some .local || scope.names.lookup y.1 == some .cell) = true)
    (hnd : ((cellsFrom 0 scope.names []).map (·.1)).Nodup)
    (h : ∀ g L' h₁ tk cells, Fr h₀ L g m → Fr g L' h₁ (bindL (envOfC qual scope L' f cdv).kindOf binds fun _ => none) → News g L' h₁ (cells ++ news) →
      CellsAre (bindC (envOfC qual scope L' f cdv).kindOf binds fun _ => none) (cellsFrom (L' + 1) scope.names []) cells → Below A base (env :: outer) g → K.In g → Top p loose mean mg mb g → (∀ p ∈ news, p.1 < L') →
      wpAny (model prog w) (A.deeper (envOfC qual scope L' f cdv)) (execs body (envOfC qual scope L' f cdv))
        (fun fl s' => LeaveS A₀ base outer h₀ L m g R (match fl with | .ret v => v | _ => .none) s')
        (fun e s' => wpAny (model prog w) (A.deeper (envOfC qual scope L' f cdv)) (leaving (envOfC qual scope L' f cdv) e) (fun _ s'' => R (.error e) s'') (fun e' s'' => R (.error e') s'') s')
        { s with heap := h₁, toks := tk })
    (hco : scope.isCoroutine = false) (hgen : scope.isGenerator = false) (hk : scope.kind = .function) : codeAny (model prog w) A (.call (.ref f) args) R s := by
  have X₀ := XB.keeps B.stays
  have T := TB.keeps B.stays
  obtain ⟨FG, BG, st, lv⟩ := groundX (R := R) B F N hA hf hke
  refine codeAny_call_function (fd := fnOf name qual params body scope dV kV doc pm an cdv ct) hroom ((X₀.keeps F.keep) _ _ ho) rfl hco hgen rfl (codeRec_of (X₀.keeps F.keep) hcd) (hbind _ _ _ _ ?_)
  refine wpAny_newFunctionEnv_cells hk (kindsX hkind _) fun env' he s' x => ?_
  subst he
  refine ⟨(T.nolimit.keeps F.keep).keeps x.toInCall.keep, codeAny_func ?_⟩
  obtain ⟨h₁, tk, rfl, _⟩ := x.done
  have hk₁ := x.toInCall.keep
  obtain ⟨cells, NC, Y⟩ := Cl.news (h₀ := s.heap) (Nat.le_refl _) fun n c hm => ⟨x.cell n c (lookup_of_mem_nodup (cellsFrom_names scope.names 0 (s.heap.objs.size + 1) [] [] rfl ▸ hnd) hm), x.above n c hm⟩
  refine wpAny_mono (h _ s.heap.objs.size h₁ tk cells FG ⟨x.toInCall.ns, fun b o e => hk₁ b o (of_hideAll _ e), Nat.le_of_eq (hideAll_size _ _)⟩ (fun p hp => ?_) Y BG (X₀.keeps st) (T.keeps st) (fun p hp => Heap.lt_size (N p hp).1)) (fun fl s' hl => hl.end_ B FG) fun _ _ y => y
  rcases List.mem_append.mp hp with hp | hp
  · refine ⟨(NC p hp).1, (NC p hp).2.1, ?_⟩
    cases q : (hideAll s.heap (news.map (·.1))).get? p.1 with
    | none => rfl
    | some o => have := of_hideAll _ q; rw [(NC p hp).2.2] at this; cases this
  · exact ⟨hk₁ _ _ (N p hp).1, Nat.ne_of_lt (Heap.lt_size (N p hp).1), hideAll_none _ (List.mem_map_of_mem hp)⟩
end
end Mine

end
section
open PySem PySem.W PyProof.Rows PySem.Calls
set_option Elab.async false
set_option maxRecDepth 100000
set_option maxHeartbeats 1000000
namespace Mine
structure ZApart (z TI TO i1 i2 : Addr) (fp1 fp2 : List Addr) : Prop where
  TIz : TI ≠ z
  TOz : TO ≠ z
  i1z : i1 ≠ z
  i2z : i2 ≠ z
  TITO : TI ≠ TO
  TIi1 : TI ≠ i1
  TIi2 : TI ≠ i2
  TOi1 : TO ≠ i1
  TOi2 : TO ≠ i2
  i12 : i1 ≠ i2
  f1z : z ∉ fp1
  f1o : TO ∉ fp1
  f12 : i2 ∉ fp1
  f2z : z ∉ fp2
  f2o : TO ∉ fp2
  f21 : i1 ∉ fp2
  in1 : i1 ∈ fp1
  in2 : i2 ∈ fp2
theorem draws_same {prog : Program} {w : World} {A : Around} {it : Addr} {fp : List Addr} {n : Nat} {P : Nat → Value → Prop} {St : Nat → Heap → Prop} (D : Draws prog w A it fp n P St) {i : Nat} {h h' : Heap} {c : Addr} (st : St i h) (hs : Heap.ExtBut c h h') (hc : c ∉ fp) : St i h' :=
  D.frame i h h' st fun b hb o e => hs b o (fun x => hc (x ▸ hb)) e
section
variable {prog : Program} {w : World} {A : Around} {E : Value → Shared → Prop} {s : Shared} {z TI TO i1 i2 : Addr} {fp1 fp2 : List Addr} {n : Nat} {P1 P2 : Nat → Value → Prop} {St1 St2 : Nat → Heap → Prop}
/-- one turn of a zip of two that draw -/
theorem zipDD_item {k : Nat} {a b : Value} {Q : Value → Shared → Prop} (D : ZApart z TI TO i1 i2 fp1 fp2) (D1 : Draws prog w A i1 fp1 n P1 St1) (D2 : Draws prog w A i2 fp2 n P2 St2)
    (hz : IsZip s.heap z TI TO .none) (hTI : IsPair s.heap TI (.ref i1) (.ref i2)) (hTO : IsPair s.heap TO a b) (h1 : St1 k s.heap) (h2 : St2 k s.heap) (hk : k < n)
    (hQ : ∀ x y h' tk, P1 k x → P2 k y → IsZip h' z TI TO (rawInt s.heap.objs.size) → IsPair h' TO x y → St1 (k + 1) h' → St2 (k + 1) h' → IsPair h' s.heap.objs.size x y →
      (∀ c o, c ≠ z → c ≠ TO → c ≠ i1 → c ≠ i2 → s.heap.get? c = some o → h'.get? c = some o) → Q (.ref s.heap.objs.size) { s with heap := h', toks := tk }) :
    wpAny (model prog w) A (Builtin.«zip.__next__» ⟨[.ref z], []⟩) (fun fin s' => ∃ v, fin = .done (.ret v) ∧ Q v s') E s := by
  show wpAny _ _ (field (.ref z) 2 >>= _) _ _ _
  refine wpAny_bind (wpAny_field hz rfl (x := .bool false) rfl ?_)
  show wpAny _ _ (field (.ref z) 3 >>= _) _ _ _
  refine wpAny_bind (wpAny_field hz rfl (x := .ref TI) rfl ?_)
  refine wpAny_bind (wpAny_seqItems hTI rfl ?_)
  show wpAny _ _ (Builtin.SmallTypes.ownedTupleIsFree (.ref z) >>= _) _ _ _
  refine wpAny_bind ?_
  unfold Builtin.SmallTypes.ownedTupleIsFree
  refine wpAny_bind (wpAny_field hz rfl (x := .none) rfl (wpAny_pure ?_))
  simp only [if_true]
  refine wpAny_bind (wpAny_rule ?_)
  refine wpAny_bind (wpAny_field hz rfl (x := .ref TO) rfl ?_)
  refine wpAny_bind (wpAny_setField_rec hz (by simp) fun h₁ hz₁ hs₁ => ?_)
  replace hz₁ : IsZip h₁ z TI TO .ellipsis := hz₁
  refine wpAny_bind ?_
  simp only [List.zipIdx_cons, List.zipIdx_nil, List.forIn_cons, List.forIn_nil]
  refine wpAny_bind (wpAny_bind (wpAny_onRaise ?_))
  show wpAny _ _ (Builtin.SmallTypes.nextOf (.ref i1) >>= _) _ _ _
  refine wpAny_bind (D1.item k _ _ _ hk (draws_same D1 h1 hs₁.extBut D.f1z) fun x h₂ tk₂ hx h1₂ hs₂ => wpAny_pure ?_)
  have hTO₂ : IsPair h₂ TO a b := hs₂.extBut _ _ D.TOi1 (hs₁.extBut _ _ D.TOz hTO)
  refine wpAny_bind (wpAny_seqItems hTO₂ rfl ?_)
  refine wpAny_bind (wpAny_updateSeq_pair hTO₂ fun h₃ hTO₃ hs₃ => ?_)
  replace hTO₃ : IsPair h₃ TO x b := hTO₃
  refine wpAny_bind (wpAny_letGo (wpAny_pure ?_))
  refine wpAny_bind (wpAny_bind (wpAny_onRaise ?_))
  show wpAny _ _ (Builtin.SmallTypes.nextOf (.ref i2) >>= _) _ _ _
  refine wpAny_bind (D2.item k _ _ _ hk (draws_same D2 (draws_same D2 (draws_same D2 h2 hs₁.extBut D.f2z) hs₂.extBut D.f21) hs₃.extBut D.f2o) fun y h₄ tk₄ hy h2₄ hs₄ => wpAny_pure ?_)
  have hTO₄ : IsPair h₄ TO x b := hs₄.extBut _ _ D.TOi2 hTO₃
  refine wpAny_bind (wpAny_seqItems hTO₄ rfl ?_)
  refine wpAny_bind (wpAny_updateSeq_pair hTO₄ fun h₅ hTO₅ hs₅ => ?_)
  replace hTO₅ : IsPair h₅ TO x y := hTO₅
  refine wpAny_bind (wpAny_letGo (wpAny_pure (wpAny_pure ?_)))
  refine wpAny_bind (wpAny_seqItems hTO₅ rfl ?_)
  refine wpAny_bind (wpAny_newTuple ?_)
  have hsz : h₅.objs.size = s.heap.objs.size := by rw [hs₅.1, hs₄.1, hs₃.1, hs₂.1, hs₁.1]
  have hz₅ : IsZip h₅ z TI TO .ellipsis := hs₅.extBut _ _ D.TOz.symm (hs₄.extBut _ _ D.i2z.symm (hs₃.extBut _ _ D.TOz.symm (hs₂.extBut _ _ D.i1z.symm hz₁)))
  have hk₅ : ∀ c o, c ≠ z → c ≠ TO → c ≠ i1 → c ≠ i2 → s.heap.get? c = some o → h₅.get? c = some o := fun c o c1 c2 c3 c4 e =>
    hs₅.extBut _ _ c2 (hs₄.extBut _ _ c4 (hs₃.extBut _ _ c2 (hs₂.extBut _ _ c3 (hs₁.extBut _ _ c1 e))))
  have h1₅ : St1 (k + 1) h₅ := draws_same D1 (draws_same D1 (draws_same D1 h1₂ hs₃.extBut D.f1o) hs₄.extBut D.f12) hs₅.extBut D.f1o
  have h2₅ : St2 (k + 1) h₅ := draws_same D2 h2₄ hs₅.extBut D.f2o
  have hzlt : z < h₅.objs.size := Heap.lt_size hz₅
  show wpAny _ _ (Builtin.SmallTypes.ownedTupleHandOut (.ref z) (.ref h₅.objs.size) >>= _) _ _ _
  refine wpAny_bind ?_
  unfold Builtin.SmallTypes.ownedTupleHandOut
  have hz₆ : IsZip (h₅.push { cls := .type "tuple", data := .seq #[x, y] }) z TI TO .ellipsis := Heap.get?_push_of_some _ hz₅
  refine wpAny_bind (wpAny_setField_rec hz₆ (by simp) fun h₇ hz₇ hs₇ => ?_)
  replace hz₇ : IsZip h₇ z TI TO (rawInt h₅.objs.size) := hz₇
  refine wpAny_setField_rec hz₇ (by simp) fun h₈ hz₈ hs₈ => ?_
  replace hz₈ : IsZip h₈ z TI TO (rawInt h₅.objs.size) := hz₈
  have up : ∀ c o, c ≠ z → h₅.get? c = some o → h₈.get? c = some o := fun c o c1 e => hs₈.extBut _ _ c1 (hs₇.extBut _ _ c1 (Heap.get?_push_of_some _ e))
  have hT₈ : IsPair h₈ h₅.objs.size x y := hs₈.extBut _ _ (Nat.ne_of_gt hzlt) (hs₇.extBut _ _ (Nat.ne_of_gt hzlt) (Heap.get?_push_size _ rfl))
  rw [hsz] at hz₈ hT₈
  refine wpAny_pure ⟨_, rfl, ?_⟩
  show Q (.ref h₅.objs.size) _
  rw [hsz]
  exact hQ x y h₈ _ hx hy hz₈ (up _ _ D.TOz hTO₅) (draws_same D1 h1₅ (fun b o hb e => up b o hb e) D.f1z) (draws_same D2 h2₅ (fun b o hb e => up b o hb e) D.f2z) hT₈ fun c o c1 c2 c3 c4 e => up c o c1 (hk₅ c o c1 c2 c3 c4 e)
theorem zipDD_end {a b : Value} {Q : Fin → Shared → Prop} (D : ZApart z TI TO i1 i2 fp1 fp2) (D1 : Draws prog w A i1 fp1 n P1 St1)
    (hz : IsZip s.heap z TI TO .none) (hTI : IsPair s.heap TI (.ref i1) (.ref i2)) (_hTO : IsPair s.heap TO a b) (h1 : St1 n s.heap)
    (hE : ∀ h' e, (∀ c o, c ≠ z → c ≠ i1 → s.heap.get? c = some o → h'.get? c = some o) → (∃ o, h'.get? e = some o ∧ o.cls = .type "StopIteration") → E (.ref e) { s with heap := h' }) :
    wpAny (model prog w) A (Builtin.«zip.__next__» ⟨[.ref z], []⟩) Q E s := by
  show wpAny _ _ (field (.ref z) 2 >>= _) _ _ _
  refine wpAny_bind (wpAny_field hz rfl (x := .bool false) rfl ?_)
  show wpAny _ _ (field (.ref z) 3 >>= _) _ _ _
  refine wpAny_bind (wpAny_field hz rfl (x := .ref TI) rfl ?_)
  refine wpAny_bind (wpAny_seqItems hTI rfl ?_)
  show wpAny _ _ (Builtin.SmallTypes.ownedTupleIsFree (.ref z) >>= _) _ _ _
  refine wpAny_bind ?_
  unfold Builtin.SmallTypes.ownedTupleIsFree
  refine wpAny_bind (wpAny_field hz rfl (x := .none) rfl (wpAny_pure ?_))
  simp only [if_true]
  refine wpAny_bind (wpAny_rule ?_)
  refine wpAny_bind (wpAny_field hz rfl (x := .ref TO) rfl ?_)
  refine wpAny_bind (wpAny_setField_rec hz (by simp) fun h₁ hz₁ hs₁ => ?_)
  replace hz₁ : IsZip h₁ z TI TO .ellipsis := hz₁
  refine wpAny_bind ?_
  simp only [List.zipIdx_cons, List.zipIdx_nil, List.forIn_cons, List.forIn_nil]
  refine wpAny_bind (wpAny_bind (wpAny_onRaise ?_))
  show wpAny _ _ (Builtin.SmallTypes.nextOf (.ref i1) >>= _) _ _ _
  refine wpAny_bind (D1.done _ _ _ (draws_same D1 h1 hs₁.extBut D.f1z) fun h₂ e hs₂ he => ?_)
  obtain ⟨oe, hoe, hce⟩ := he
  have hz₂ : IsZip h₂ z TI TO .ellipsis := hs₂ _ _ D.i1z.symm hz₁
  have hez : e ≠ z := fun x => by subst x; rw [hz₂] at hoe; cases hoe; simp at hce
  refine wpAny_setField_rec hz₂ (by simp) fun h₃ _ hs₃ => hE h₃ e (fun c o c1 c3 x => hs₃.extBut _ _ c1 (hs₂ _ _ c3 (hs₁.extBut _ _ c1 x))) ⟨oe, hs₃.extBut _ _ hez hoe, hce⟩
end
theorem zipDD {prog : Program} {w : World} {A : Around} {z TI TO i1 i2 : Addr} {fp1 fp2 : List Addr} {n : Nat} {P1 P2 : Nat → Value → Prop} {St1 St2 : Nat → Heap → Prop} (D : ZApart z TI TO i1 i2 fp1 fp2) (D1 : Draws prog w A.in1 i1 fp1 n P1 St1) (D2 : Draws prog w A.in1 i2 fp2 n P2 St2) :
    WalksT prog w A z (z :: TI :: TO :: (fp1 ++ fp2)) [z, TO, i1, i2] n (fun i vals => ∃ x y, P1 i x ∧ P2 i y ∧ vals = #[x, y])
      (fun i h => IsZip h z TI TO .none ∧ IsPair h TI (.ref i1) (.ref i2) ∧ (∃ a b, IsPair h TO a b) ∧ St1 i h ∧ St2 i h)
      (fun i T h => IsZip h z TI TO (rawInt T) ∧ IsPair h TI (.ref i1) (.ref i2) ∧ (∃ a b, IsPair h TO a b) ∧ St1 (i + 1) h ∧ St2 (i + 1) h ∧ T ≠ z ∧ T ≠ TO ∧ T ≠ i1 ∧ T ≠ i2) where
  sub := fun c hc => by
    simp only [List.mem_cons, List.not_mem_nil, or_false, List.mem_append] at hc ⊢
    rcases hc with rfl | rfl | rfl | rfl
    · simp
    · simp
    · exact .inr (.inr (.inr (.inl D.in1)))
    · exact .inr (.inr (.inr (.inr D.in2)))
  frame := fun i h h' hst hk => by
    obtain ⟨hz, hTI, ⟨a, b, hTO⟩, h1, h2⟩ := hst
    exact ⟨hk z (by simp) _ hz, hk TI (by simp) _ hTI, ⟨a, b, hk TO (by simp) _ hTO⟩, D1.frame _ _ _ h1 fun b hb => hk b (by simp [hb]), D2.frame _ _ _ h2 fun b hb => hk b (by simp [hb])⟩
  item := fun i s Q E hi hst hQ => by
    obtain ⟨hz, hTI, ⟨a, b, hTO⟩, h1, h2⟩ := hst
    have hT : s.TypeIs (.ref z) "zip" := ⟨_, hz, rfl⟩
    have lt : ∀ {c o}, s.heap.get? c = some o → s.heap.objs.size ≠ c := fun e => Nat.ne_of_gt (Heap.lt_size e)
    unfold pyNext
    refine wpAny_bind (wpAny_attempt (wpAny_callSpecial?_slot (name := Str.ofString "__next__") hT F.slot_zip_next
      (wpAny_call_entry F.slot_zip_next hT F.entry_zip_next (zipDD_item D D1 D2 hz hTI hTO h1 h2 hi fun x y h' tk hx hy a1 a2 a3 a4 a5 hk => wpAny_pure ?_) (F.args_zip_next_1 _))))
    exact hQ s.heap.objs.size #[x, y] h' tk ⟨x, y, hx, hy, rfl⟩ (Nat.le_refl _) ⟨_, a5, rfl, _, rfl⟩
      ⟨a1, hk _ _ D.TIz D.TITO D.TIi1 D.TIi2 hTI, ⟨_, _, a2⟩, a3, a4, lt hz, lt hTO, (by obtain ⟨_, e⟩ := D1.live _ _ h1; exact lt e), (by obtain ⟨_, e⟩ := D2.live _ _ h2; exact lt e)⟩
      fun c o hc e => hk c o (fun x => hc (by simp [x])) (fun x => hc (by simp [x])) (fun x => hc (by simp [x])) (fun x => hc (by simp [x])) e
  go := fun elts k pos i T s Q E hm hQ => by
    obtain ⟨hz, hTI, ⟨a, b, hTO⟩, h1, h2, _⟩ := hm
    exact wpAny_letOwnedTupleGo_zip hz fun h' hz' hs' => hQ h' ⟨hz', hs'.extBut _ _ D.TIz hTI, ⟨a, b, hs'.extBut _ _ D.TOz hTO⟩, draws_same D1 h1 hs'.extBut D.f1z, draws_same D2 h2 hs'.extBut D.f2z⟩
      fun c o hc e => hs'.extBut _ _ (fun x => hc (by simp [x])) e
  apart := fun i T h hm hT => by
    obtain ⟨_, _, _, _, _, t1, t2, t3, t4⟩ := hm
    simp at hT
    rcases hT with rfl | rfl | rfl | rfl
    · exact t1 rfl
    · exact t2 rfl
    · exact t3 rfl
    · exact t4 rfl
  done := fun s Q E hst hQ => by
    obtain ⟨hz, hTI, ⟨a, b, hTO⟩, h1, h2⟩ := hst
    have hT : s.TypeIs (.ref z) "zip" := ⟨_, hz, rfl⟩
    unfold pyNext
    refine wpAny_bind (wpAny_attempt (wpAny_callSpecial?_slot (name := Str.ofString "__next__") hT F.slot_zip_next
      (wpAny_call_entry F.slot_zip_next hT F.entry_zip_next (zipDD_end D D1 hz hTI hTO h1 fun h' e hk he => ?_) (F.args_zip_next_1 _))))
    obtain ⟨o, ho, hc⟩ := he
    refine wpAny_bind (wpAny_isInstance (T := "StopIteration") (b := true) ⟨o, ho, hc⟩ isSubtype_stop ?_)
    exact wpAny_pure (hQ h' s.toks fun c o hc e => hk c o (fun x => hc (by simp [x])) (fun x => hc (by simp [x])) e)
  self := fun i s Q E hst hQ => wpAny_pyIter_zip hst.1 hQ
end Mine

end
section
open PySem PySem.W PyProof.Rows PySem.Calls
open Sem (wp)
set_option Elab.async false
set_option maxRecDepth 100000
set_option maxHeartbeats 1000000
namespace Mine
abbrev zS1 (h : Heap) (x : Str) (t : Tok) : Heap := h.push { cls := .type "str_ascii_iterator", data := .fields #[.str x t, .int 0 0] }
abbrev zS2 (h : Heap) (x : Str) (t : Tok) (l : Addr) : Heap := (zS1 h x t).push { cls := .type "list_iterator", data := .fields #[.ref l, .int 0 0] }
abbrev zS3 (h : Heap) (x : Str) (t : Tok) (l : Addr) : Heap := (zS2 h x t l).push { cls := .type "tuple", data := .seq #[.ref h.objs.size, .ref (zS1 h x t).objs.size] }
abbrev zS4 (h : Heap) (x : Str) (t : Tok) (l : Addr) : Heap := (zS3 h x t l).push { cls := .type "tuple", data := .seq #[.none, .none] }
abbrev zS5 (h : Heap) (x : Str) (t : Tok) (l : Addr) : Heap := (zS4 h x t l).push { cls := .type "zip", data := .fields #[.none, .bool false, .bool false, .ref (zS2 h x t l).objs.size, .ref (zS3 h x t l).objs.size] }
theorem meets_zipS (x : Str) (t : Tok) (l : Addr) (ys : Array Value) (ha : x.cps.all (· < 128) = true) :
    Meets (Builtin.«zip.__new__» ⟨[.type "zip", .str x t, .ref l], []⟩) (fun _ R s => s.heap.IsList l ys ∧ R (.ok (.ret (.ref (zS4 s.heap x t l).objs.size))) { s with heap := zS5 s.heap x t l }) :=
  .of_wp fun prog w A R s h => by
    obtain ⟨hp, g, d, tk, os⟩ := s; obtain ⟨hl2, h⟩ := h
    have hsub := sub_zip
    have hL2 : Heap.IsList (Shared.heap ⟨hp.push { cls := .type "str_ascii_iterator", data := .fields #[.str x t, .int 0 0] }, g, d, tk, os⟩) l ys := Heap.IsList.push hl2 _
    wp_walk using wpAny_pyIter_ascii ha, wpAny_pyIter_list hL2
    exact ⟨_, rfl, h⟩
section
variable {prog : Program} {w : World} {A : Around} {E : Value → Shared → Prop} {s : Shared}
theorem call_zipS {x : Str} {t : Tok} {l : Addr} {ys : Array Value} {Q : Value → Shared → Prop} (ha : x.cps.all (· < 128) = true) (hl : s.heap.IsList l ys)
    (h : ∀ h', IsZip h' (s.heap.objs.size + 4) (s.heap.objs.size + 2) (s.heap.objs.size + 3) .none → IsPair h' (s.heap.objs.size + 2) (.ref s.heap.objs.size) (.ref (s.heap.objs.size + 1)) →
      IsPair h' (s.heap.objs.size + 3) .none .none → h'.IsStrIter s.heap.objs.size "str_ascii_iterator" x t 0 → h'.IsListIter (s.heap.objs.size + 1) l 0 →
      (∀ c o, s.heap.get? c = some o → h'.get? c = some o) → Q (.ref (s.heap.objs.size + 4)) { s with heap := h' }) :
    wpAny (model prog w) A (call (.type "zip") [.str x t, .ref l]) Q E s := by
  refine callType_new F.called_zip (by decide) (F.typeCall_zip_2 _ _) (F.newCall_zip_2 _ _) (fun obj => F.args_object_init_3 obj _ _) F.entry_zip_new
    (meets_zipS x t l ys ha) ⟨hl, ?_⟩
  have z1 : (zS1 s.heap x t).objs.size = s.heap.objs.size + 1 := Heap.size_push ..
  have z2 : (zS2 s.heap x t l).objs.size = s.heap.objs.size + 2 := by rw [Heap.size_push, z1]
  have z3 : (zS3 s.heap x t l).objs.size = s.heap.objs.size + 3 := by rw [Heap.size_push, z2]
  have z4 : (zS4 s.heap x t l).objs.size = s.heap.objs.size + 4 := by rw [Heap.size_push, z3]
  have g5 : (zS5 s.heap x t l).get? (zS4 s.heap x t l).objs.size = some _ := Heap.get?_push_size _ rfl
  have g4 : (zS5 s.heap x t l).get? (zS3 s.heap x t l).objs.size = some _ := Heap.get?_push_of_some _ (Heap.get?_push_size _ rfl)
  have g3 : (zS5 s.heap x t l).get? (zS2 s.heap x t l).objs.size = some _ := Heap.get?_push_of_some _ (Heap.get?_push_of_some _ (Heap.get?_push_size _ rfl))
  have g2 : (zS5 s.heap x t l).get? (zS1 s.heap x t).objs.size = some _ := Heap.get?_push_of_some _ (Heap.get?_push_of_some _ (Heap.get?_push_of_some _ (Heap.get?_push_size _ rfl)))
  have g1 : (zS5 s.heap x t l).get? s.heap.objs.size = some _ := Heap.get?_push_of_some _ (Heap.get?_push_of_some _ (Heap.get?_push_of_some _ (Heap.get?_push_of_some _ (Heap.get?_push_size _ rfl))))
  show _ ∧ _
  rw [z2, z3, z4] at g5
  rw [z1, z2] at g3
  rw [z3] at g4
  rw [z1] at g2
  rw [z4]
  exact ⟨⟨_, g5, rfl⟩, h _ g5 g3 g4 ⟨_, g1, rfl, rfl⟩ ⟨_, g2, rfl, rfl⟩ fun c o x =>
    Heap.get?_push_of_some _ (Heap.get?_push_of_some _ (Heap.get?_push_of_some _ (Heap.get?_push_of_some _ (Heap.get?_push_of_some _ x))))⟩
end
section
variable {prog : Program} {w : World} {A : Around} {E : Value → Shared → Prop} {s : Shared} {env : Env} {h₀ : Heap} {body : List Stmt} {Q : Flow → Shared → Prop}
theorem mem_4 {b x y z w : Addr} (h : b ∈ [x, y, z, w]) : b = x ∨ b = y ∨ b = z ∨ b = w := by simpa using h
theorem mem_5 {b x y z w v : Addr} (h : b ∈ [x, y, z, w, v]) : b = x ∨ b = y ∨ b = z ∨ b = w ∨ b = v := by simpa using h
theorem mem_6 {b x y z w v u : Addr} (h : b ∈ [x, y, z, w, v, u]) : b = x ∨ b = y ∨ b = z ∨ b = w ∨ b = v ∨ b = u := by simpa using h
theorem mem_7 {b x y z w v u t : Addr} (h : b ∈ [x, y, z, w, v, u, t]) : b = x ∨ b = y ∨ b = z ∨ b = w ∨ b = v ∨ b = u ∨ b = t := by simpa using h
/-- a for over zip(text of two signs, list of two) -/
theorem ktu_zipS {elts : List Expr} {k : Nat} {pos : Pos} {l : Addr} {lo : Obj} {c0 c1 : Nat} {t : Tok} {v0 v1 : Value} {n2 : Nat} {m₀ : Str → Option Value} {news : Led}
    (hh : A.handled = none) (F : Fr h₀ env.locals s.heap m₀) (N : News h₀ env.locals s.heap news) (hc0 : c0 < 128) (hc1 : c1 < 128) (hm2 : (l, lo) ∈ news) (hc2 : lo.cls = .type "list") (hd2 : lo.data = .seq #[v0, v1] n2)
    (rest₀ : ∀ I : Addr, (∀ p ∈ news, p.1 < I) → ItemsRest prog w A E h₀ env (.Tuple elts k pos) body Q s [(I + 4, "zip"), (I + 2, "tuple"), (I + 3, "tuple"), (I, "str_ascii_iterator"), (I + 1, "list_iterator")] [(l, lo)] [.pair (fun u => .str ⟨#[c0]⟩ u) v0, .pair (fun u => .str ⟨#[c1]⟩ u) v1] m₀ news) :
    wpAny (model prog w) A (call (.type "zip") [.str (S [c0, c1]) t, .ref l]) (fun xv s₁ => wpAny (model prog w) A (pyIter xv) (fun it s₂ => TurnsAt prog w A h₀ env (.Tuple elts k pos) body Q E it s₂) E s₁) E s := by
  have hax2 := N _ hm2
  have hl2 : s.heap.IsList l #[v0, v1] := ⟨lo, hax2.1, hc2, n2, hd2⟩
  have hlt2 : @LT.lt Nat _ l s.heap.objs.size := Heap.lt_size hax2.1
  have hLs : @LT.lt Nat _ env.locals s.heap.objs.size := F.ns.lt
  refine call_zipS (by simp [S, hc0, hc1]) hl2 fun h' hz hTI hTO hi1 hi2 hk => ?_
  refine wpAny_pyIter_zip hz ?_
  have D : ZApart (s.heap.objs.size + 4) (s.heap.objs.size + 2) (s.heap.objs.size + 3) s.heap.objs.size (s.heap.objs.size + 1) [s.heap.objs.size] [s.heap.objs.size + 1, l] := by
    generalize s.heap.objs.size = I at *
    constructor <;> first
      | (refine neN ?_; omega)
      | (simp only [List.mem_cons, List.not_mem_nil, or_false, not_or]; first | (refine neN ?_; omega) | exact ⟨neN (by omega), neN (by omega)⟩)
      | exact .head _
  have W := zipDD D (Draws.strAscii (prog := prog) (w := w) (A := A.in1) hh s.heap.objs.size (S [c0, c1]) t) (Draws.list (prog := prog) (w := w) (A := A.in1) hh (s.heap.objs.size + 1) l (Nat.ne_of_lt (Nat.lt_succ_of_lt hlt2)) #[v0, v1])
  refine ktu_core (tk0 := s.toks) (keep := [(l, lo)]) (KTurns.ofWalksU W.toU) rfl ?_ ?_ ?_ ?_ ?_ ?_ ?_ ?_ (F.keeps hk) (N.grown hk) (And.intro hm2 trivial) (rest₀ _ fun p hp => Heap.lt_size (N p hp).1)
  · rintro i v h ⟨T, vals, rfl, ⟨x, y, ⟨c, u, hx, rfl⟩, hy, rfl⟩, hT⟩
    match i with
    | 0 =>
      cases hx; cases hy
      exact ⟨_, rfl, T, u, rfl, hT⟩
    | 1 =>
      cases hx; cases hy
      exact ⟨_, rfl, T, u, rfl, hT⟩
    | i + 2 => simp at hy
  · rintro i h ⟨hz, hTI, ⟨a, b, hTO⟩, ⟨o1, ho1, hc1, _⟩, ⟨o2, ho2, hc2, _⟩, _⟩
    have e1 : ∃ o : Obj, h.get? (s.heap.objs.size + 4) = some o ∧ o.cls = .type "zip" := ⟨_, hz, rfl⟩
    have e2 : ∃ o : Obj, h.get? (s.heap.objs.size + 2) = some o ∧ o.cls = .type "tuple" := ⟨_, hTI, rfl⟩
    have e3 : ∃ o : Obj, h.get? (s.heap.objs.size + 3) = some o ∧ o.cls = .type "tuple" := ⟨_, hTO, rfl⟩
    obtain ⟨q1, g1, k1⟩ := e1
    obtain ⟨q2, g2, k2⟩ := e2
    obtain ⟨q3, g3, k3⟩ := e3
    refine ⟨[(s.heap.objs.size + 4, q1), (s.heap.objs.size + 2, q2), (s.heap.objs.size + 3, q3), (s.heap.objs.size, o1), (s.heap.objs.size + 1, o2)], ⟨⟨rfl, k1⟩, ⟨rfl, k2⟩, ⟨rfl, k3⟩, ⟨rfl, hc1⟩, ⟨rfl, hc2⟩, trivial⟩, fun p hp => ?_⟩
    simp only [List.mem_cons, List.not_mem_nil, or_false] at hp
    rcases hp with rfl | rfl | rfl | rfl | rfl
    · exact g1
    · exact g2
    · exact g3
    · exact ho1
    · exact ho2
  · intro b hb
    have hb' : b = s.heap.objs.size + 4 ∨ b = s.heap.objs.size + 2 ∨ b = s.heap.objs.size + 3 ∨ b = s.heap.objs.size ∨ b = s.heap.objs.size + 1 := mem_5 hb
    rcases hb' with rfl | rfl | rfl | rfl | rfl
    · exact ⟨.head _, ktu_new F (Nat.le_add_right _ _)⟩
    · exact ⟨.tail _ (.head _), ktu_new F (Nat.le_add_right _ _)⟩
    · exact ⟨.tail _ (.tail _ (.head _)), ktu_new F (Nat.le_add_right _ _)⟩
    · exact ⟨.tail _ (.tail _ (.tail _ (.head _))), ktu_new F (Nat.le_refl _)⟩
    · exact ⟨.tail _ (.tail _ (.tail _ (.tail _ (.head _)))), ktu_new F (Nat.le_add_right _ _)⟩
  · intro b hb
    have hb' : b = s.heap.objs.size + 4 ∨ b = s.heap.objs.size + 3 ∨ b = s.heap.objs.size ∨ b = s.heap.objs.size + 1 := mem_4 hb
    rcases hb' with rfl | rfl | rfl | rfl
    · exact .head _
    · exact .tail _ (.tail _ (.head _))
    · exact .tail _ (.tail _ (.tail _ (.head _)))
    · exact .tail _ (.tail _ (.tail _ (.tail _ (.head _))))
  · intro b hb
    have hb' : b = s.heap.objs.size + 4 ∨ b = s.heap.objs.size + 2 ∨ b = s.heap.objs.size + 3 ∨ b = s.heap.objs.size ∨ b = s.heap.objs.size + 1 ∨ b = l := mem_6 hb
    rcases hb' with rfl | rfl | rfl | rfl | rfl | rfl
    · exact .inl (.head _)
    · exact .inl (.tail _ (.head _))
    · exact .inl (.tail _ (.tail _ (.head _)))
    · exact .inl (.tail _ (.tail _ (.tail _ (.head _))))
    · exact .inl (.tail _ (.tail _ (.tail _ (.tail _ (.head _)))))
    · exact .inr ⟨lo, by simp⟩
  · intro hI'
    have hb' : env.locals = s.heap.objs.size + 4 ∨ env.locals = s.heap.objs.size + 2 ∨ env.locals = s.heap.objs.size + 3 ∨ env.locals = s.heap.objs.size ∨ env.locals = s.heap.objs.size + 1 ∨ env.locals = l := by simpa using hI'
    have n2 := hax2.2.1
    rcases hb' with e | e | e | e | e | e
    · exact ktu_ne 4 hLs e
    · exact ktu_ne 2 hLs e
    · exact ktu_ne 3 hLs e
    · exact Nat.ne_of_lt hLs e
    · exact ktu_ne 1 hLs e
    · exact n2 e.symm
  · intro p hp hI'
    have hb' : p.1 = s.heap.objs.size + 4 ∨ p.1 = s.heap.objs.size + 3 ∨ p.1 = s.heap.objs.size ∨ p.1 = s.heap.objs.size + 1 := mem_4 hI'
    have hlp := Heap.lt_size (N p hp).1
    rcases hb' with e | e | e | e
    · exact ktu_ne 4 hlp e
    · exact ktu_ne 3 hlp e
    · exact Nat.ne_of_lt hlp e
    · exact ktu_ne 1 hlp e
  · exact ⟨hz, hTI, ⟨_, _, hTO⟩, hi1, hi2, hl2.at fun o e => hk l o e⟩
end
end Mine

end
section
open PySem PySem.W PyProof.Rows PySem.Calls
set_option Elab.async false
set_option maxRecDepth 100000
set_option maxHeartbeats 1000000
namespace Mine
section
variable {prog : Program} {w : World} {A A₀ : Around} {E : Value → Shared → Prop} {s : Shared} {env : Env} {base h₀ : Heap} {outer : List Env} {Q : Flow → Shared → Prop}
/-- the state at a loop's end, the base turned -/
def EndS (A₀ : Around) (base : Heap) (outer : List Env) (h₀ : Heap) (L : Addr) (s : Shared) (Jx : (Str → Option Value) → Led → Prop) (s₂ : Shared) : Prop :=
  ∃ g h' tk m₂ news₂, s₂ = { s with heap := h', toks := tk } ∧ Below A₀ base outer g ∧ KtsTurn (fra outer) h₀ g ∧ Fr g L h' m₂ ∧ News g L h' news₂ ∧ Jx m₂ news₂
def WStepS (A₀ : Around) (base : Heap) (outer : List Env) (h₀ : Heap) (L : Addr) (s : Shared) (J : Nat → (Str → Option Value) → Led → Prop) (Jx : (Str → Option Value) → Led → Prop) (Q : Flow → Shared → Prop) (n : Nat) (f : Flow) (s₂ : Shared) : Prop :=
  match f with
  | .ret v => Q (.ret v) s₂
  | .brk => EndS A₀ base outer h₀ L s Jx s₂
  | _ => ∃ n', n' < n ∧ EndS A₀ base outer h₀ L s (J n') s₂
theorem While_JS {test : Expr} {body : List Stmt} {pos : Pos} {m : Str → Option Value} {news : Led} (J : Nat → (Str → Option Value) → Led → Prop) (Jx : (Str → Option Value) → Led → Prop) {n₀ : Nat}
    (B : Below A₀ base outer h₀) (F : Fr h₀ env.locals s.heap m) (N : News h₀ env.locals s.heap news) (hJ : J n₀ m news)
    (turn : ∀ n m₁ news₁ g h₁ tk₁, Below A₀ base outer g → KtsTurn (fra outer) h₀ g → Fr g env.locals h₁ m₁ → News g env.locals h₁ news₁ → J n m₁ news₁ →
      wpAny (model prog w) A (isTrue test env (eval test env)) (fun b s₂ =>
        if b = true then wpAny (model prog w) A (execs body env) (WStepS A₀ base outer h₀ env.locals s J Jx Q n) E s₂ else EndS A₀ base outer h₀ env.locals s Jx s₂) E { s with heap := h₁, toks := tk₁ })
    (fin : ∀ g h' tk m₂ news₂, Below A₀ base outer g → KtsTurn (fra outer) h₀ g → Fr g env.locals h' m₂ → News g env.locals h' news₂ → Jx m₂ news₂ → Q .next { s with heap := h', toks := tk })
    (hE : PassesOwn (model prog w) A env E := by passes_own) : wpAny (model prog w) A (exec (.While test body [] pos) env) Q E s := by
  have ends : ∀ s₂, EndS A₀ base outer h₀ env.locals s Jx s₂ → Q .next s₂ := by
    rintro s₂ ⟨g, h', tk, m₂, news₂, rfl, B₂, T₂, F₂, N₂, J₂⟩
    exact fin g h' tk m₂ news₂ B₂ T₂ F₂ N₂ J₂
  refine wpAny_While (codeAny_whileLoop (fun n s' => EndS A₀ base outer h₀ env.locals s (J n) s') (fun n s' hI => ?_) n₀ ⟨h₀, s.heap, s.toks, m, news, rfl, B, KtsTurn.refl, F, N, hJ⟩)
  obtain ⟨g, h₁, tk₁, m₁, news₁, rfl, B₁, T₁, F₁, N₁, J₁⟩ := hI
  refine wpAny_mono (turn n m₁ news₁ g h₁ tk₁ B₁ T₁ F₁ N₁ J₁) (fun b s₂ h₂ => ?_) hE
  cases b with
  | false =>
    simp only [Bool.false_eq_true, if_false] at h₂ ⊢
    exact wpAny_execs_nil (ends _ h₂)
  | true =>
    simp only [if_true] at h₂ ⊢
    refine wpAny_mono h₂ (fun f s₃ h₃ => ?_) hE
    cases f with
    | next => exact h₃
    | cont => exact h₃
    | brk => exact ends _ h₃
    | ret v => exact h₃
end
end Mine

end
section
open PySem PySem.W PyProof.Rows PySem.Calls
set_option Elab.async false
set_option maxRecDepth 100000
set_option maxHeartbeats 1000000
namespace Mine
theorem allObj_mono : ∀ {ws : List (Addr × String)} {k k' : List (Addr × Obj) → Prop}, AllObj ws k → (∀ its, k its → k' its) → AllObj ws k'
  | [], _, _, h, hk => hk _ h
  | _ :: _, _, _, h, hk => fun o ho => allObj_mono (h o ho) fun _ x => hk _ x
theorem unrPost_mono {h₀ : Heap} {L : Addr} {s₁ : Shared} {its : Led} {r r' : (Str → Option Value) → Led → Prop} {Q : Flow → Shared → Prop} {f : Flow} {s₂ : Shared} (h : UnrPostW h₀ L s₁ its r Q f s₂) (hr : ∀ m n, r m n → r' m n) : UnrPostW h₀ L s₁ its r' Q f s₂ := by
  cases f with
  | ret v => exact h
  | brk => exact h
  | next =>
    obtain ⟨h', tk, m', n', e, F, N, o, x⟩ := h
    exact ⟨h', tk, m', n', e, F, N, o, hr _ _ x⟩
  | cont =>
    obtain ⟨h', tk, m', n', e, F, N, o, x⟩ := h
    exact ⟨h', tk, m', n', e, F, N, o, hr _ _ x⟩
section
variable {prog : Program} {w : World} {A : Around} {E : Value → Shared → Prop} {s : Shared} {env : Env} {h₀ : Heap} {target : Expr} {body : List Stmt} {Q : Flow → Shared → Prop}
theorem items_J {ws : List (Addr × String)} {keep : Led} {xs : List (Nat × Value)} (J : Nat → (Str → Option Value) → Led → Prop)
    (turn : ∀ i c v T t h tk m news, xs[i]? = some (c, v) → J i m news → IsTup h T #[.str ⟨#[c]⟩ t, v] → Fr h₀ env.locals h m → AllObj ws (fun its => News h₀ env.locals h (its ++ news) →
      wpAny (model prog w) A (assign target env (.ref T)) (fun _ s₂ => wpAny (model prog w) A (execs body env) (UnrPostW h₀ env.locals { s with heap := h, toks := tk } its (fun m' n' => SubL keep n' ∧ J (i + 1) m' n') Q) E s₂) E { s with heap := h, toks := tk }))
    (fin : ∀ h tk m news, J xs.length m news → Fr h₀ env.locals h m → News h₀ env.locals h news → Q .next { s with heap := h, toks := tk }) :
    ∀ (r : List (Nat × Value)) (i : Nat) (m : Str → Option Value) (news : Led), i ≤ xs.length → xs.drop i = r → J i m news → ItemsRest prog w A E h₀ env target body Q s ws keep (r.map fun x => .pair (fun u => .str ⟨#[x.1]⟩ u) x.2) m news := by
  intro r
  induction r with
  | nil =>
    intro i m news hi he hJ
    obtain rfl : i = xs.length := Nat.le_antisymm hi (by have := congrArg List.length he; rw [List.length_drop] at this; simp at this; omega)
    exact ItemsRest.zero fun h tk F N => fin h tk m news hJ F N
  | cons a r ih =>
    intro i m news hi he hJ
    obtain ⟨c, v⟩ := a
    have hlt : i < xs.length := by
      rcases Nat.lt_or_ge i xs.length with h | h
      · exact h
      · rw [List.drop_eq_nil_of_le h] at he; cases he
    have hc := List.drop_eq_getElem_cons hlt
    rw [he] at hc
    obtain ⟨h1, h2⟩ := List.cons.inj hc
    refine ItemsRest.pair fun T t h tk hT F => allObj_mono (turn i c v T t h tk m news (by rw [List.getElem?_eq_getElem hlt, ← h1]) hJ hT F) fun its x N => ?_
    exact wpAny_mono (x N) (fun _ s₂ h₂ => wpAny_mono h₂ (fun f s₃ h₃ => unrPost_mono h₃ fun m' n' y => ⟨y.1, ih (i + 1) m' n' hlt h2.symm y.2⟩) fun _ _ e => e) fun _ _ e => e
/-- a for over zip(text of two signs, list of two), by an invariant -/
theorem ktu_zipJ {elts : List Expr} {k : Nat} {pos : Pos} {l : Addr} {lo : Obj} {c0 c1 : Nat} {t : Tok} {v0 v1 : Value} {n2 : Nat} {m₀ : Str → Option Value} {news : Led} (J : Addr → Nat → (Str → Option Value) → Led → Prop)
    (hh : A.handled = none) (F : Fr h₀ env.locals s.heap m₀) (N : News h₀ env.locals s.heap news) (hc0 : c0 < 128) (hc1 : c1 < 128) (hm2 : (l, lo) ∈ news) (hc2 : lo.cls = .type "list") (hd2 : lo.data = .seq #[v0, v1] n2)
    (h0 : ∀ I : Addr, (∀ p ∈ news, p.1 < I) → J I 0 m₀ news)
    (turn : ∀ I i c v T t h tk m news₁, [(c0, v0), (c1, v1)][i]? = some (c, v) → J I i m news₁ → IsTup h T #[.str ⟨#[c]⟩ t, v] → Fr h₀ env.locals h m → ∀ z1 z2 z3 z4 z5, News h₀ env.locals h ((I + 4, z1) :: (I + 2, z2) :: (I + 3, z3) :: (I, z4) :: (I + 1, z5) :: news₁) →
      wpAny (model prog w) A (assign (.Tuple elts k pos) env (.ref T)) (fun _ s₂ => wpAny (model prog w) A (execs body env) (UnrPostW h₀ env.locals { s with heap := h, toks := tk } [(I + 4, z1), (I + 2, z2), (I + 3, z3), (I, z4), (I + 1, z5)] (fun m' n' => SubL [(l, lo)] n' ∧ J I (i + 1) m' n') Q) E s₂) E { s with heap := h, toks := tk })
    (fin : ∀ I h tk m news₁, J I 2 m news₁ → Fr h₀ env.locals h m → News h₀ env.locals h news₁ → Q .next { s with heap := h, toks := tk }) :
    wpAny (model prog w) A (call (.type "zip") [.str (S [c0, c1]) t, .ref l]) (fun xv s₁ => wpAny (model prog w) A (pyIter xv) (fun it s₂ => TurnsAt prog w A h₀ env (.Tuple elts k pos) body Q E it s₂) E s₁) E s :=
  ktu_zipS hh F N hc0 hc1 hm2 hc2 hd2 fun I hI => items_J (ws := [(I + 4, "zip"), (I + 2, "tuple"), (I + 3, "tuple"), (I, "str_ascii_iterator"), (I + 1, "list_iterator")]) (keep := [(l, lo)]) (xs := [(c0, v0), (c1, v1)]) (J I)
    (fun i c v T t h tk m news₁ hx hJ hT F => AllObj.cons fun z1 _ => AllObj.cons fun z2 _ => AllObj.cons fun z3 _ => AllObj.cons fun z4 _ => AllObj.cons fun z5 _ => AllObj.nil fun N => turn I i c v T t h tk m news₁ hx hJ hT F z1 z2 z3 z4 z5 N)
    (fun h tk m news₁ hJ F N => fin I h tk m news₁ hJ F N) _ 0 m₀ news (Nat.zero_le _) rfl (h0 I hI)
end
end Mine

end
section
open PySem PySem.W PyProof.Rows PySem.Calls PyProof.Rows.LCg PyProof.Rows.LCp
set_option Elab.async false
set_option maxRecDepth 100000
set_option maxHeartbeats 1000000
namespace Mine
/-- the end of a turn of the comprehension over a zip: the ledger stands as it was -/
def ZEnd (h₀ : Heap) (L : Addr) (m : Str → Option Value) (s₁ : Shared) (led : Led) (R : Value → Prop) (y : Value) (s₂ : Shared) : Prop :=
  ∃ h' tk, s₂ = { s₁ with heap := h', toks := tk } ∧ Fr h₀ L h' m ∧ News h₀ L h' led ∧ R y
section
variable {prog : Program} {w : World} {A : Around} {E : Value → Shared → Prop} {s : Shared} {h₀ : Heap} {L : Addr} {m : Str → Option Value} {env : Env}
theorem block_Z {elt iter : Expr} {x x₂ : Str} {px px₂ tp : Pos} {tk} {scope : Scope} {cl : List (Str × Addr)} {pos : Pos} {s₂ : Shared} {z : Addr} {fp wr own : List Addr} {n : Nat} {Pt : Nat → Array Value → Prop} {P2 : Nat → Value → Value → Prop} {St : Nat → Heap → Prop} {Mid : Nat → Addr → Heap → Prop} {news : Led}
    {R : Nat → Value → Prop} {RR : Value → Addr → Result → Shared → Prop}
    (W : WalksU prog w A z fp wr n Pt St Mid) (hsz : n ≤ sizeLine) (hPt : ∀ i vals, Pt i vals → ∃ v1 v2, vals = #[v1, v2] ∧ P2 i v1 v2)
    (hits : ∀ i h, St i h → ∃ its : Led, its.map (·.1) = own ∧ ∀ p ∈ its, h.get? p.1 = some p.2)
    (hfp : ∀ b ∈ fp, b ∈ own ∨ ∃ o, (b, o) ∈ news) (hown : ∀ b ∈ own, b ∈ fp ∧ h₀.get? b = none ∧ b ≠ L) (hwr : ∀ b ∈ wr, b ∈ own)
    (hcell : ∀ y ∈ scope.names, y.2 ≠ .cell) (hkind : scope.kind = .function) (hx : scope.names.lookup x = some .local) (hx₂ : scope.names.lookup x₂ = some .local) (hxx : x ≠ x₂) (hh : A.handled = none)
    (hst : St 0 s₂.heap) (hlt : ∀ b ∈ fp, @LT.lt Nat _ b s₂.heap.objs.size) (F : Fr h₀ L s₂.heap m) (N : News h₀ L s₂.heap news) (off : ∀ p ∈ news, p.1 ∉ wr)
    (turn : ∀ i v1 v2 its C oC D ys m₂ h tk (E' : Value → Shared → Prop), P2 i v1 v2 → NsObj oC m₂ → m₂ x = some v1 → m₂ x₂ = some v2 → Fr h₀ L h m → News h₀ L h ((C, oC) :: (D, lst ys) :: (its ++ news)) →
      wpAny (model prog w) A (eval elt (compEnvC scope cl C env)) (ZEnd h₀ L m { s₂ with heap := h, toks := tk } ((C, oC) :: (D, lst ys) :: (its ++ news)) (R i)) E' { s₂ with heap := h, toks := tk })
    (hRR : ∀ D C h tk m' ys, ys.length = n → (∀ i y, ys[i]? = some y → R i y) → Fr h₀ L h m → News h₀ L h ((D, lst ys) :: news) → (∀ p ∈ news, p.1 < D) → h.Ns C m' → h₀.get? C = none → C ≠ L → C ≠ D → (∀ p ∈ news, p.1 ≠ C) → RR (.ref D) C (.ok .next) { s₂ with heap := h, toks := tk }) :
    wpAny (model prog w) A (newList []) (fun acc s₃ => wpAny (model prog w) A (newFunctionEnv scope env.globals cl [] env.qual none .none (some env)) (fun cenv s₄ =>
      codeAny (model prog w) A (.compStart (.ListComp elt [⟨.Tuple [.Name x px, .Name x₂ px₂] tk tp, iter, [], 0⟩] scope pos) 0 (.ref z) acc { cenv with scope := relabel scope env }) (RR acc cenv.locals) s₄) E s₃) E s₂ := by
  refine wpAny_newObj_type (wpAny_newFunctionEnv hcell (by intro y hy; simp at hy) (fun h₁ hns₁ hsb₁ => ?_) hkind)
  dsimp only at hns₁ hsb₁ ⊢
  generalize hH2 : s₂.heap.push { cls := .type "list", dict := none, data := .seq ([] : List Value).toArray } = H2 at hns₁ hsb₁ ⊢
  have hC : H2.objs.size = s₂.heap.objs.size + 1 := by rw [← hH2, Heap.size_push]
  have hDC : s₂.heap.objs.size ≠ H2.objs.size := by rw [hC]; exact Nat.ne_of_lt (Nat.lt_succ_self _)
  have below : ∀ b, @LT.lt Nat _ b s₂.heap.objs.size → b ≠ H2.objs.size ∧ b ≠ s₂.heap.objs.size := fun b hb => ⟨by rw [hC]; exact Nat.ne_of_lt (Nat.lt_succ_of_lt hb), Nat.ne_of_lt hb⟩
  have hDf : s₂.heap.objs.size ∉ fp := fun hm => Nat.lt_irrefl _ (hlt _ hm)
  have hCf : H2.objs.size ∉ fp := fun hm => (below _ (hlt _ hm)).1 rfl
  have wf : ∀ b ∈ wr, b ∈ fp := fun b hb => (hown b (hwr b hb)).1
  have old : ∀ b o, s₂.heap.get? b = some o → h₁.get? b = some o := fun b o e => hsb₁.extBut b o (below b (Heap.lt_size e)).1 (Heap.get?_push_of_some _ (hH2 ▸ Heap.get?_push_of_some _ e))
  have hacc : h₁.get? s₂.heap.objs.size = some (lst []) := hsb₁.extBut _ _ hDC (Heap.get?_push_of_some _ (hH2 ▸ Heap.get?_push_size _ rfl))
  have hst₁ : St 0 h₁ := W.frame _ _ _ hst fun b _ o e => old b o e
  have fresh₀ : ∀ a : Nat, s₂.heap.objs.size ≤ a → h₀.get? a = none := fun a ha => by
    cases e : h₀.get? a with
    | none => rfl
    | some o' => exact absurd (Heap.lt_size (F.keep a o' e)) (Nat.not_lt.mpr ha)
  have hD₀ : h₀.get? s₂.heap.objs.size = none := fresh₀ _ (Nat.le_refl _)
  have hC₀ : h₀.get? H2.objs.size = none := fresh₀ _ (by rw [hC]; exact Nat.le_succ _)
  have hLlt : @LT.lt Nat _ L s₂.heap.objs.size := F.ns.lt
  have hDL : s₂.heap.objs.size ≠ L := Ne.symm (below L hLlt).2
  have hCL : H2.objs.size ≠ L := Ne.symm (below L hLlt).1
  have hNn : ∀ p ∈ news, p.1 ≠ H2.objs.size ∧ p.1 ≠ s₂.heap.objs.size := fun p hp => below _ (Heap.lt_size (N p hp).1)
  have frw : ∀ {h h' : Heap}, Fr h₀ L h m → (∀ b o, b ∉ wr → h.get? b = some o → h'.get? b = some o) → Fr h₀ L h' m := fun {h h'} F hk =>
    ⟨F.ns.at' fun o e => hk L o (fun hm => (hown _ (hwr _ hm)).2.2 rfl) e, fun b o e => hk b o (fun hm => by rw [(hown _ (hwr _ hm)).2.1] at e; cases e) (F.keep b o e), F.above⟩
  have offD : ∀ {oD : Obj}, ∀ p ∈ (s₂.heap.objs.size, oD) :: news, p.1 ∉ wr := fun {oD} p hp => by
    rcases List.mem_cons.mp hp with rfl | hp
    · exact fun hm => hDf (wf _ hm)
    · exact off p hp
  have nww : ∀ {h h' : Heap} {oD : Obj}, News h₀ L h ((s₂.heap.objs.size, oD) :: news) → (∀ b o, b ∉ wr → h.get? b = some o → h'.get? b = some o) → News h₀ L h' ((s₂.heap.objs.size, oD) :: news) := fun N hk p hp =>
    ⟨hk _ _ (offD p hp) (N p hp).1, (N p hp).2⟩
  have loop : ∀ s₃ : Shared, s₃ = { s₂ with heap := h₁, toks := s₂.toks + ([] : List (Str × Value)).length } →
      codeAny (model prog w) A (.compLoop (.ListComp elt [⟨.Tuple [.Name x px, .Name x₂ px₂] tk tp, iter, [], 0⟩] scope pos) 0 (.ref z) (.ref s₂.heap.objs.size) (compEnvC scope cl H2.objs.size env))
        (RR (.ref s₂.heap.objs.size) H2.objs.size) s₃ := by
    rintro s₃ rfl
    refine codeAny_compLoop_pair
      (fun k s' => ∃ h' tk i ys m', s' = { s₂ with heap := h', toks := tk } ∧ i ≤ n ∧ k = n + 1 - i ∧ ys.length = i ∧ St i h' ∧ Fr h₀ L h' m ∧ h'.Ns H2.objs.size m' ∧ News h₀ L h' ((s₂.heap.objs.size, lst ys) :: news) ∧ (∀ j y, ys[j]? = some y → R j y)) ?_ (n + 1)
      ⟨h₁, _, 0, [], _, rfl, Nat.zero_le _, rfl, rfl, hst₁, F.keeps old, hns₁, fun p hp => ?_, fun j y hj => by simp at hj⟩
    · rintro k s' ⟨h', tk, i, ys, m', rfl, hi, rfl, hyl, hst', F', hn', N', hR'⟩
      by_cases hlti : i < n
      · refine W.item i _ _ _ hlti hst' fun T vals h₂ tk₂ hPv hT hMid hk₂ => ?_
        obtain ⟨v₁, v₂, rfl, hP2⟩ := hPt i vals hPv
        refine W.go _ _ _ i T _ _ _ hMid fun h₅ hst₅ hk₅ => ?_
        have hT₅ : h₅.IsTuple T #[v₁, v₂] := hT.at fun o e => hk₅ _ _ (W.apart _ _ _ hMid) e
        have hCw : H2.objs.size ∉ wr := fun hm => hCf (wf _ hm)
        have F₅ := frw (frw F' hk₂) hk₅
        have N₅ := nww (nww N' hk₂) hk₅
        have hn₅ := (hn'.at' fun o e => hk₂ _ o hCw e).at' fun o e => hk₅ _ o hCw e
        refine assign_Tuple_tuple hh hT₅ rfl rfl fun h₇ he => ?_
        have he' : ∀ b o, h₅.get? b = some o → h₇.get? b = some o := fun b o e => he b o (Nat.ne_of_lt (Heap.lt_size e)) e
        refine assignInOrder_cons (wpAny_assign_Name (wpAny_storeName_local (lookup_relabel_local hx) (hn₅.at' fun o e => he' _ o e) (fun h₆ hn₆ hs₆ => ?_) (by simp [compEnvC, relabel, hkind])))
        refine assignInOrder_cons (wpAny_assign_Name (wpAny_storeName_local (lookup_relabel_local hx₂) hn₆ (fun h₃ hn₃ hs₃ => ?_) (by simp [compEnvC, relabel, hkind])))
        refine assignInOrder_nil ?_
        have old3 : ∀ b o, b ≠ H2.objs.size → h₅.get? b = some o → h₃.get? b = some o := fun b o hb e => hs₃.extBut b o hb (hs₆.extBut b o hb (he' b o e))
        have hst₃ : St (i + 1) h₃ := W.frame _ _ _ hst₅ fun b hb o e => old3 b o (fun q => hCf (by rw [← q]; exact hb)) e
        obtain ⟨its, hio, hit⟩ := hits _ _ hst₃
        obtain ⟨oC, heC, hoC⟩ := ns_obj hn₃
        have F₃ : Fr h₀ L h₃ m := ((F₅.keeps he').change hs₆ hCL hC₀).change hs₃ hCL hC₀
        have N₃ : News h₀ L h₃ ((H2.objs.size, oC) :: (s₂.heap.objs.size, lst ys) :: (its ++ news)) := fun p hp => by
          rcases List.mem_cons.mp hp with rfl | hp
          · exact ⟨heC, hCL, hC₀⟩
          · rcases List.mem_cons.mp hp with rfl | hp
            · exact ⟨old3 _ _ hDC (N₅ _ (.head _)).1, hDL, hD₀⟩
            · rcases List.mem_append.mp hp with hp | hp
              · have := hown p.1 (hio ▸ List.mem_map_of_mem hp)
                exact ⟨hit p hp, this.2.2, this.2.1⟩
              · exact ⟨old3 _ _ (hNn p hp).1 (N₅ _ (.tail _ hp)).1, (N p hp).2⟩
        refine wpAny_mono (turn i v₁ v₂ its H2.objs.size oC s₂.heap.objs.size ys _ h₃ _ _ hP2 hoC (by simp [hxx]) (by simp) F₃ N₃) (fun y s₄ h₄ => ?_) fun _ _ e => e
        obtain ⟨h₄, tk₄, rfl, F₄, N₄, hRy⟩ := h₄
        have zC := (N₄ _ (.head _)).1
        have zD := (N₄ _ (.tail _ (.head _))).1
        have hst₄ : St (i + 1) h₄ := W.frame _ _ _ hst₃ fun b hb o e => by
          rcases hfp b hb with hb' | ⟨o', ho'⟩
          · obtain ⟨p, hp, rfl⟩ := List.mem_map.mp (hio ▸ hb')
            rw [hit p hp] at e; cases e
            exact (N₄ p (.tail _ (.tail _ (List.mem_append_left _ hp)))).1
          · have z3 := (N₃ _ (.tail _ (.tail _ (List.mem_append_right _ ho')))).1
            rw [z3] at e; cases e
            exact (N₄ _ (.tail _ (.tail _ (List.mem_append_right _ ho')))).1
        refine append_at (hsz := by show ys.toArray.size ≤ sizeLine; rw [List.size_toArray, hyl]; exact Nat.le_trans hi hsz) zD fun h₉ hs₉ hD₉ => ?_
        refine ⟨n + 1 - (i + 1), by omega, h₉, tk₄, i + 1, ys ++ [y], _, rfl, hlti, rfl, by rw [List.length_append, List.length_singleton, hyl], W.frame _ _ _ hst₄ fun b hb o e => hs₉.extBut b o (fun q => hDf (q ▸ hb)) e, F₄.change hs₉ hDL hD₀,
          (hoC.ns zC).sameBut hs₉ (Ne.symm hDC), fun p hp => ?_, fun j y' hj => ?_⟩
        · rcases List.mem_cons.mp hp with rfl | hp
          · exact ⟨hD₉.trans (congrArg some (lst_snoc ys y)), hDL, hD₀⟩
          · exact ⟨hs₉.extBut _ _ (hNn p hp).2 (N₄ p (.tail _ (.tail _ (List.mem_append_right _ hp)))).1, (N p hp).2⟩
        · rcases Nat.lt_or_ge j ys.length with hj' | hj'
          · rw [List.getElem?_append_left hj'] at hj
            exact hR' j y' hj
          · rw [List.getElem?_append_right hj'] at hj
            have hj0 : j - ys.length = 0 := by
              rcases Nat.eq_zero_or_pos (j - ys.length) with h | h
              · exact h
              · rw [List.getElem?_eq_none (by simp; omega)] at hj; cases hj
            rw [hj0] at hj
            cases hj
            have : j = i := by omega
            rw [this]; exact hRy
      · obtain rfl : i = n := Nat.le_antisymm hi (Nat.not_lt.mp hlti)
        refine W.done _ _ _ hst' fun h₂ tk₂ hk₂ => ?_
        exact hRR _ _ h₂ tk₂ _ ys hyl hR' (frw F' hk₂) (nww N' hk₂) (fun p hp => Heap.lt_size (N p hp).1) (hn'.at' fun o e => hk₂ _ o (fun hm => hCf (wf _ hm)) e) hC₀ hCL (Ne.symm hDC) fun p hp => (hNn p hp).1
    · rcases List.mem_cons.mp hp with rfl | hp
      · exact ⟨hacc, hDL, hD₀⟩
      · exact ⟨old _ _ (N p hp).1, (N p hp).2⟩
  exact codeAny_compStart_list (loop _ rfl) (W.self 0 _ _ _ hst₁ (loop _ rfl))
/-- what is left to show at the source of a comprehension that is a zip of two lists -/
def ZSrc (prog : Program) (w : World) (A : Around) (E : Value → Shared → Prop) (env : Env) (elt iter : Expr) (x x₂ y : Str) (px px₂ tp py : Pos) (tk : Nat) (scope : Scope) (cl : List (Str × Addr)) (pos : Pos) (Q : Flow → Shared → Prop) (xv : Value) (s₁ : Shared) : Prop :=
  wpAny (model prog w) A (pyIter xv) (fun it s₂ => wpAny (model prog w) A (newList []) (fun acc s₃ => wpAny (model prog w) A (newFunctionEnv scope env.globals cl [] env.qual none .none (some env)) (fun cenv s₄ =>
    codeAny (model prog w) A (.compStart (.ListComp elt [⟨.Tuple [.Name x px, .Name x₂ px₂] tk tp, iter, [], 0⟩] scope pos) 0 it acc { cenv with scope := relabel scope env }) (compPost (model prog w) A E (some (assign (.Name y py) env)) (fun _ s' => Q .next s') acc cenv.locals) s₄) E s₃) E s₂) E s₁
/-- y = [.. for a, b in zip(..)] -/
theorem Assign_comp_Z {elt iter : Expr} {x x₂ y : Str} {px px₂ tp py : Pos} {tk} {scope : Scope} {cl : List (Str × Addr)} {pos spos : Pos} {Q : Flow → Shared → Prop} (_F₀ : Fr h₀ L s.heap m)
    (hsw : swapsWith (.ListComp elt [⟨.Tuple [.Name x px, .Name x₂ px₂] tk tp, iter, [], 0⟩] scope pos) (some (.Name y py)) spos.line env = pure true)
    (hclos : closureFor scope env = pure cl) (hkind : scope.kind = .function) (hnames : ∀ z ∈ scope.names, z.2 = .local → scope.names.lookup z.1 = some .local)
    (h : wpAny (model prog w) A (eval iter env) (ZSrc prog w A E env elt iter x x₂ y px px₂ tp py tk scope cl pos Q) E s)
    (hs : ∀ x, foldedSetIterable iter env x = pure x := by intro _; rfl) :
    wpAny (model prog w) A (exec (.Assign [.Name y py] (.ListComp elt [⟨.Tuple [.Name x px, .Name x₂ px₂] tk tp, iter, [], 0⟩] scope pos) spos) env) Q E s := by
  rw [exec_Assign_Name_used _ _ _ _ hsw]
  refine wpAny_bind (wpAny_standAt (wpAny_bind ?_))
  show wpAny _ A (do let _ ← comprehension (.ListComp elt [⟨.Tuple [.Name x px, .Name x₂ px₂] tk tp, iter, [], 0⟩] scope pos) scope env _ (newList []) false (eval iter env) (some (assign (.Name y py) env))) _ _ s
  exact wpAny_bind (wpAny_mono (wpAny_comprehension_free (use := some (assign (.Name y py) env)) (Q := fun _ s' => Q .next s') rfl hs hclos hkind hnames h) (fun _ s' hq => wpAny_pure (wpAny_pure hq)) fun _ _ e => e)
theorem zip_run {elt iter : Expr} {x x₂ y : Str} {px px₂ tp py : Pos} {tk : Nat} {scope : Scope} {cl : List (Str × Addr)} {pos : Pos} {Q : Flow → Shared → Prop} {I l1 l2 : Addr} {lo1 lo2 : Obj} {xs ys : List Value} {n1 n2 : Nat} {news : Led} {s₁ : Shared} (R : Nat → Value → Prop)
    (hcell : ∀ z ∈ scope.names, z.2 ≠ .cell) (hkind : scope.kind = .function) (hx : scope.names.lookup x = some .local) (hx₂ : scope.names.lookup x₂ = some .local) (hxx : x ≠ x₂)
    (hy : env.kindOf y = some .local) (hp : (env.scope.kind == .class || (env.scope.kind == .module && env.locals != env.globals)) = false)
    (hh : A.handled = none) (F : Fr h₀ env.locals s₁.heap m) (N : News h₀ env.locals s₁.heap news) (hm1 : (l1, lo1) ∈ news) (hc1 : lo1.cls = .type "list") (hd1 : lo1.data = .seq xs.toArray n1) (hm2 : (l2, lo2) ∈ news) (hc2 : lo2.cls = .type "list") (hd2 : lo2.data = .seq ys.toArray n2) (hlen : xs.length = ys.length) (hsz : xs.length ≤ sizeLine)
    (hz : IsZip s₁.heap (I + 4) (I + 2) (I + 3) .none) (hTI : IsPair s₁.heap (I + 2) (.ref I) (.ref (I + 1))) (hTO : IsPair s₁.heap (I + 3) .none .none) (hi1 : s₁.heap.IsListIter I l1 0) (hi2 : s₁.heap.IsListIter (I + 1) l2 0)
    (hLI : @LT.lt Nat _ env.locals I) (hnI : ∀ p ∈ news, @LT.lt Nat _ p.1 I) (hI0 : ∀ a, @LE.le Nat _ I a → h₀.get? a = none)
    (turn : ∀ g i v1 v2 its C oC D zs m₂ h tk (E' : Value → Shared → Prop), xs[i]? = some v1 → ys[i]? = some v2 → NsObj oC m₂ → m₂ x = some v1 → m₂ x₂ = some v2 → Fr h₀ env.locals h m → News h₀ env.locals h ((C, oC) :: (D, lst zs) :: (its ++ news)) →
      wpAny (model prog w) A (eval elt (compEnvC scope cl C env)) (ZEnd h₀ env.locals m { s₁ with heap := h, toks := tk } ((C, oC) :: (D, lst zs) :: (its ++ news)) (R i)) E' { ({ s₁ with heap := g } : Shared) with heap := h, toks := tk })
    (fin : ∀ D h tk zs, zs.length = xs.length → (∀ i z, zs[i]? = some z → R i z) → Fr h₀ env.locals h (fun z => if z = y then some (.ref D) else m z) → News h₀ env.locals h ((D, lst zs) :: news) → (∀ p ∈ news, @LT.lt Nat _ p.1 D) → Q .next { s₁ with heap := h, toks := tk }) :
    ZSrc prog w A E env elt iter x x₂ y px px₂ tp py tk scope cl pos Q (.ref (I + 4)) s₁ := by
  show wpAny _ _ (pyIter _) _ _ _
  have hlt1 : @LT.lt Nat _ l1 I := hnI _ hm1
  have hlt2 : @LT.lt Nat _ l2 I := hnI _ hm2
  have hl1 : s₁.heap.IsList l1 xs.toArray := ⟨lo1, (N _ hm1).1, hc1, n1, hd1⟩
  have hl2 : s₁.heap.IsList l2 ys.toArray := ⟨lo2, (N _ hm2).1, hc2, n2, hd2⟩
  have D : ZipApart (I + 4) (I + 2) (I + 3) I (I + 1) l1 l2 := ktu_apart _ _ _ hlt1 hlt2
  refine wpAny_pyIter_zip hz ?_
  refine block_Z (own := [I + 4, I + 2, I + 3, I, I + 1]) (P2 := fun i v1 v2 => xs[i]? = some v1 ∧ ys[i]? = some v2) (R := R) (news := news) (WalksT.zip2 (prog := prog) (w := w) hh _ _ _ _ _ _ _ D xs.toArray ys.toArray).toU (by rw [List.size_toArray, List.size_toArray, ← hlen, Nat.min_self]; exact hsz)
    ?hPt ?hits ?hfp ?hown ?hwr hcell hkind hx hx₂ hxx hh ⟨hz, hTI, ⟨_, _, hTO⟩, hi1, hi2, hl1, hl2⟩ ?hlt F N ?off (fun i v1 v2 its C oC D zs m₂ h tk E' hP => turn s₁.heap i v1 v2 its C oC D zs m₂ h tk E' hP.1 hP.2) ?hRR
  case hPt =>
    rintro i vals ⟨a, b, ha, hb, rfl⟩
    exact ⟨a, b, rfl, by simpa using ha, by simpa using hb⟩
  case hits =>
    rintro i h ⟨hz, hTI, ⟨a, b, hTO⟩, ⟨o1, ho1, hc1, _⟩, ⟨o2, ho2, hc2, _⟩, _⟩
    have e1 : ∃ o : Obj, h.get? (I + 4) = some o ∧ o.cls = .type "zip" := ⟨_, hz, rfl⟩
    have e2 : ∃ o : Obj, h.get? (I + 2) = some o ∧ o.cls = .type "tuple" := ⟨_, hTI, rfl⟩
    have e3 : ∃ o : Obj, h.get? (I + 3) = some o ∧ o.cls = .type "tuple" := ⟨_, hTO, rfl⟩
    obtain ⟨q1, g1, k1⟩ := e1
    obtain ⟨q2, g2, k2⟩ := e2
    obtain ⟨q3, g3, k3⟩ := e3
    refine ⟨[(I + 4, q1), (I + 2, q2), (I + 3, q3), (I, o1), (I + 1, o2)], rfl, fun p hp => ?_⟩
    simp only [List.mem_cons, List.not_mem_nil, or_false] at hp
    rcases hp with rfl | rfl | rfl | rfl | rfl
    · exact g1
    · exact g2
    · exact g3
    · exact ho1
    · exact ho2
  case hfp =>
    intro b hb
    have hb' : b = I + 4 ∨ b = I + 2 ∨ b = I + 3 ∨ b = I ∨ b = I + 1 ∨ b = l1 ∨ b = l2 := mem_7 hb
    rcases hb' with rfl | rfl | rfl | rfl | rfl | rfl | rfl
    · exact .inl (.head _)
    · exact .inl (.tail _ (.head _))
    · exact .inl (.tail _ (.tail _ (.head _)))
    · exact .inl (.tail _ (.tail _ (.tail _ (.head _))))
    · exact .inl (.tail _ (.tail _ (.tail _ (.tail _ (.head _)))))
    · exact .inr ⟨lo1, hm1⟩
    · exact .inr ⟨lo2, hm2⟩
  case hown =>
    intro b hb
    have hb' : b = I + 4 ∨ b = I + 2 ∨ b = I + 3 ∨ b = I ∨ b = I + 1 := mem_5 hb
    rcases hb' with rfl | rfl | rfl | rfl | rfl
    · exact ⟨.head _, hI0 _ (Nat.le_add_right I 4), Nat.ne_of_gt (Nat.lt_of_lt_of_le hLI (Nat.le_add_right I 4))⟩
    · exact ⟨.tail _ (.head _), hI0 _ (Nat.le_add_right I 2), Nat.ne_of_gt (Nat.lt_of_lt_of_le hLI (Nat.le_add_right I 2))⟩
    · exact ⟨.tail _ (.tail _ (.head _)), hI0 _ (Nat.le_add_right I 3), Nat.ne_of_gt (Nat.lt_of_lt_of_le hLI (Nat.le_add_right I 3))⟩
    · exact ⟨.tail _ (.tail _ (.tail _ (.head _))), hI0 _ (Nat.le_refl _), Nat.ne_of_gt hLI⟩
    · exact ⟨.tail _ (.tail _ (.tail _ (.tail _ (.head _)))), hI0 _ (Nat.le_add_right I 1), Nat.ne_of_gt (Nat.lt_of_lt_of_le hLI (Nat.le_add_right I 1))⟩
  case hwr =>
    intro b hb
    have hb' : b = I + 4 ∨ b = I + 3 ∨ b = I ∨ b = I + 1 := mem_4 hb
    rcases hb' with rfl | rfl | rfl | rfl
    · exact .head _
    · exact .tail _ (.tail _ (.head _))
    · exact .tail _ (.tail _ (.tail _ (.head _)))
    · exact .tail _ (.tail _ (.tail _ (.tail _ (.head _))))
  case hlt =>
    intro b hb
    have hb' : b = I + 4 ∨ b = I + 2 ∨ b = I + 3 ∨ b = I ∨ b = I + 1 ∨ b = l1 ∨ b = l2 := mem_7 hb
    rcases hb' with rfl | rfl | rfl | rfl | rfl | rfl | rfl
    · exact Heap.lt_size hz
    · exact Heap.lt_size hTI
    · exact Heap.lt_size hTO
    · exact Heap.lt_size hi1.choose_spec.1
    · exact Heap.lt_size hi2.choose_spec.1
    · exact Heap.lt_size (N _ hm1).1
    · exact Heap.lt_size (N _ hm2).1
  case off =>
    intro p hp hb
    have hb' : p.1 = I + 4 ∨ p.1 = I + 3 ∨ p.1 = I ∨ p.1 = I + 1 := mem_4 hb
    have hlp := hnI p hp
    rcases hb' with e | e | e | e
    · exact ktu_ne 4 hlp e
    · exact ktu_ne 3 hlp e
    · exact Nat.ne_of_lt hlp e
    · exact ktu_ne 1 hlp e
  case hRR =>
    intro D C h' tk m' zs hzl hR F' N' hnD hn hC₀ hCL hCD offC
    show wpAny _ A (assign (.Name y py) env (.ref D)) _ _ _
    refine wpAny_assign_Name (wpAny_storeName_local hy F'.ns (fun h₂ hn₂ hs₂ => ?_) hp)
    have hL₀ : h₀.get? env.locals = none := Heap.get?_none_of_le F'.above
    have F₂ : Fr h₀ env.locals h₂ (fun z => if z = y then some (.ref D) else m z) := ⟨hn₂, fun b o e => hs₂.extBut b o (fun q => by rw [q, hL₀] at e; cases e) (F'.keep b o e), F'.above⟩
    refine ⟨m', hn.sameBut hs₂ hCL, fun h'' hs'' => fin D h'' _ zs (by rw [hzl, List.size_toArray, List.size_toArray, ← hlen, Nat.min_self]) hR (F₂.change hs'' hCL hC₀) (fun p hp => ?_) hnD⟩
    have z : h₂.get? p.1 = some p.2 := hs₂.extBut _ _ (N' p hp).2.1 (N' p hp).1
    refine ⟨hs''.extBut _ _ ?_ z, (N' p hp).2⟩
    rcases List.mem_cons.mp hp with rfl | hp
    · exact Ne.symm hCD
    · exact offC p hp
theorem call_zipZ {elt iter : Expr} {x x₂ y : Str} {px px₂ tp py : Pos} {tk : Nat} {scope : Scope} {cl : List (Str × Addr)} {pos : Pos} {Q : Flow → Shared → Prop} {l1 l2 : Addr} {lo1 lo2 : Obj} {xs ys : List Value} {n1 n2 : Nat} {news : Led} (R : Nat → Value → Prop)
    (hcell : ∀ z ∈ scope.names, z.2 ≠ .cell) (hkind : scope.kind = .function) (hx : scope.names.lookup x = some .local) (hx₂ : scope.names.lookup x₂ = some .local) (hxx : x ≠ x₂)
    (hy : env.kindOf y = some .local) (hp : (env.scope.kind == .class || (env.scope.kind == .module && env.locals != env.globals)) = false)
    (hh : A.handled = none) (F : Fr h₀ env.locals s.heap m) (N : News h₀ env.locals s.heap news)
    (hm1 : (l1, lo1) ∈ news) (hc1 : lo1.cls = .type "list") (hd1 : lo1.data = .seq xs.toArray n1) (hm2 : (l2, lo2) ∈ news) (hc2 : lo2.cls = .type "list") (hd2 : lo2.data = .seq ys.toArray n2) (hlen : xs.length = ys.length) (hsz : xs.length ≤ sizeLine)
    (turn : ∀ g i v1 v2 its C oC D zs m₂ h tk (E' : Value → Shared → Prop), xs[i]? = some v1 → ys[i]? = some v2 → NsObj oC m₂ → m₂ x = some v1 → m₂ x₂ = some v2 → Fr h₀ env.locals h m → News h₀ env.locals h ((C, oC) :: (D, lst zs) :: (its ++ news)) →
      wpAny (model prog w) A (eval elt (compEnvC scope cl C env)) (ZEnd h₀ env.locals m { s with heap := h, toks := tk } ((C, oC) :: (D, lst zs) :: (its ++ news)) (R i)) E' { ({ s with heap := g } : Shared) with heap := h, toks := tk })
    (fin : ∀ D h tk zs, zs.length = xs.length → (∀ i z, zs[i]? = some z → R i z) → Fr h₀ env.locals h (fun z => if z = y then some (.ref D) else m z) → News h₀ env.locals h ((D, lst zs) :: news) → (∀ p ∈ news, @LT.lt Nat _ p.1 D) → Q .next { s with heap := h, toks := tk }) :
    wpAny (model prog w) A (call (.type "zip") [.ref l1, .ref l2]) (ZSrc prog w A E env elt iter x x₂ y px px₂ tp py tk scope cl pos Q) E s := by
  refine call_zip_2 ⟨lo1, (N _ hm1).1, hc1, n1, hd1⟩ ⟨lo2, (N _ hm2).1, hc2, n2, hd2⟩ fun h' hz hTI hTO hi1 hi2 _ hk => ?_
  exact zip_run (s₁ := { s with heap := h' }) R hcell hkind hx hx₂ hxx hy hp hh (F.keeps hk) (N.grown hk) hm1 hc1 hd1 hm2 hc2 hd2 hlen hsz hz hTI hTO hi1 hi2 F.ns.lt (fun p hp => Heap.lt_size (N p hp).1) (fun a ha => ktu_new F ha) turn fin
end
end Mine

end
section
open PySem PySem.W PyProof.Rows PySem.Calls PyProof.Rows.LCg PyProof.Rows.LCp
set_option Elab.async false
set_option maxRecDepth 100000
set_option maxHeartbeats 1000000
namespace Mine
abbrev cellO : Obj := { cls := .type "cell", data := .cell none }
theorem newEnv_cell {M : Model} {A : Around} {E : Value → Shared → Prop} {s : Shared} {scope : Scope} {globals : Addr} {cl : List (Str × Addr)} {qual : Str} {outer : Env} {x : Str} {Q : Env → Shared → Prop}
    (hone : ∀ (n : Nat) acc, cellsFrom n scope.names acc = (x, n) :: acc) (hpush : ∀ h, pushCells h scope.names = h.push cellO)
    (h : Q (newEnv scope s.heap.objs.size globals ((x, s.heap.objs.size + 1) :: cl) qual none .none (some outer) builtinsNs) { s with heap := (s.heap.push { cls := .type "dict", data := .dict #[] }).push cellO }) :
    wpAny M A (newFunctionEnv scope globals cl [] qual none .none (some outer)) Q E s := by
  simp only [newFunctionEnv, Option.isSome_some, if_true]
  refine wpAny_bind (wpAny_alloc ?_)
  refine wpAny_bind (wpAny_layCells _ (fun name kind cells => by cases hkc : kind == NameKind.cell <;> simp [hkc]) _ _ _ _ ?_)
  rw [show ({ s with heap := s.heap.push { cls := .type "dict", data := .dict #[] } } : Shared).heap.objs.size = s.heap.objs.size + 1 from Heap.size_push ..]
  rw [hone, hpush]
  refine wpAny_bind ?_
  rw [List.forIn_nil]
  exact wpAny_pure (wpAny_pure h)
section
variable {prog : Program} {w : World} {A : Around} {E : Value → Shared → Prop} {s : Shared} {h₀ : Heap} {L : Addr} {m : Str → Option Value} {env : Env}
/-- a comprehension whose name is a cell -/
theorem block_C {elt iter : Expr} {x : Str} {px : Pos} {scope : Scope} {cl : List (Str × Addr)} {pos : Pos} {s₂ : Shared} {I ax : Addr} {its : Array Value} {lo : Obj} {n1 : Nat} {news : Led}
    {R : Nat → Value → Prop} {RR : Value → Addr → Result → Shared → Prop}
    (hone : ∀ (n : Nat) acc, cellsFrom n scope.names acc = (x, n) :: acc) (hpush : ∀ h, pushCells h scope.names = h.push cellO) (hkind : scope.kind = .function) (hxc : Env.kindOf (compEnvC scope [] 0 env) x = some .cell)
    (hh : A.handled = none) (hsz : its.size ≤ sizeLine) (hma : (ax, lo) ∈ news) (hcls : lo.cls = .type "list") (hdat : lo.data = .seq its n1)
    (hI : s₂.heap.IsListIter I ax 0) (F : Fr h₀ L s₂.heap m) (N : News h₀ L s₂.heap news) (hIn : ∀ p ∈ news, @LT.lt Nat _ p.1 I) (hLI : @LT.lt Nat _ L I)
    (turn : ∀ i v oI C oC c oc D ys m₂ h tk (E' : Value → Shared → Prop), its[i]? = some v → NsObj oC m₂ → oc.data = .cell (some v) → Fr h₀ L h m → News h₀ L h ((I, oI) :: (C, oC) :: (c, oc) :: (D, lst ys) :: news) → (∀ p ∈ news, @LT.lt Nat _ p.1 c) →
      wpAny (model prog w) A (eval elt (compEnvC scope ((x, c) :: cl) C env)) (ZEnd h₀ L m { s₂ with heap := h, toks := tk } ((I, oI) :: (C, oC) :: (c, oc) :: (D, lst ys) :: news) (R i)) E' { s₂ with heap := h, toks := tk })
    (hRR : ∀ D C h tk m' ys, ys.length = its.size → (∀ i y, ys[i]? = some y → R i y) → Fr h₀ L h m → News h₀ L h ((D, lst ys) :: news) → (∀ p ∈ news, @LT.lt Nat _ p.1 D) → h.Ns C m' → h₀.get? C = none → C ≠ L → C ≠ D → (∀ p ∈ news, p.1 ≠ C) → RR (.ref D) C (.ok .next) { s₂ with heap := h, toks := tk }) :
    wpAny (model prog w) A (newList []) (fun acc s₃ => wpAny (model prog w) A (newFunctionEnv scope env.globals cl [] env.qual none .none (some env)) (fun cenv s₄ =>
      codeAny (model prog w) A (.compStart (.ListComp elt [⟨.Name x px, iter, [], 0⟩] scope pos) 0 (.ref I) acc { cenv with scope := relabel scope env }) (RR acc cenv.locals) s₄) E s₃) E s₂ := by
  have W := Walks.list (prog := prog) (w := w) hh I ax (Nat.ne_of_lt (hIn _ hma)) its
  refine wpAny_newObj_type (newEnv_cell hone hpush ?_)
  dsimp only
  generalize hH2 : s₂.heap.push { cls := .type "list", dict := none, data := .seq ([] : List Value).toArray } = H2
  have hC : H2.objs.size = s₂.heap.objs.size + 1 := by rw [← hH2, Heap.size_push]
  generalize hh₁ : (H2.push { cls := .type "dict", data := .dict #[] }).push cellO = h₁
  have hIlt : @LT.lt Nat _ I s₂.heap.objs.size := Heap.lt_size hI.choose_spec.1
  have below : ∀ b, @LT.lt Nat _ b s₂.heap.objs.size → b ≠ H2.objs.size ∧ b ≠ s₂.heap.objs.size ∧ b ≠ H2.objs.size + 1 := fun b hb =>
    ⟨by rw [hC]; exact Nat.ne_of_lt (Nat.lt_succ_of_lt hb), Nat.ne_of_lt hb, by rw [hC]; exact Nat.ne_of_lt (Nat.lt_succ_of_lt (Nat.lt_succ_of_lt hb))⟩
  have hDC : s₂.heap.objs.size ≠ H2.objs.size := by rw [hC]; exact Nat.ne_of_lt (Nat.lt_succ_self _)
  have hDc : s₂.heap.objs.size ≠ H2.objs.size + 1 := by rw [hC]; exact Nat.ne_of_lt (Nat.lt_succ_of_lt (Nat.lt_succ_self _))
  have hCc : H2.objs.size ≠ H2.objs.size + 1 := Nat.ne_of_lt (Nat.lt_succ_self _)
  have old : ∀ b o, s₂.heap.get? b = some o → h₁.get? b = some o := fun b o e => hh₁ ▸ Heap.get?_push_of_some _ (Heap.get?_push_of_some _ (hH2 ▸ Heap.get?_push_of_some _ e))
  have hacc : h₁.get? s₂.heap.objs.size = some (lst []) := hh₁ ▸ Heap.get?_push_of_some _ (Heap.get?_push_of_some _ (hH2 ▸ Heap.get?_push_size _ rfl))
  have hns₁ : h₁.Ns H2.objs.size (fun _ => none) := hh₁ ▸ (Heap.Ns.new H2 (.type "dict")).at' fun o e => Heap.get?_push_of_some _ e
  have hcel : h₁.IsCell (H2.objs.size + 1) none := hh₁ ▸ ⟨_, by
    have e : (H2.push { cls := .type "dict", data := .dict #[] }).objs.size = H2.objs.size + 1 := Heap.size_push ..
    rw [← e]; exact Heap.get?_push_size _ rfl, rfl⟩
  have fresh₀ : ∀ a : Nat, s₂.heap.objs.size ≤ a → h₀.get? a = none := fun a ha => by
    cases e : h₀.get? a with
    | none => rfl
    | some o' => exact absurd (Heap.lt_size (F.keep a o' e)) (Nat.not_lt.mpr ha)
  have hLlt : @LT.lt Nat _ L s₂.heap.objs.size := F.ns.lt
  have hD₀ : h₀.get? s₂.heap.objs.size = none := fresh₀ _ (Nat.le_refl _)
  have hC₀ : h₀.get? H2.objs.size = none := fresh₀ _ (by rw [hC]; exact Nat.le_succ _)
  have hc₀ : h₀.get? (H2.objs.size + 1) = none := fresh₀ _ (by rw [hC]; exact Nat.le_succ_of_le (Nat.le_succ _))
  have hI₀ : h₀.get? I = none := Heap.get?_none_of_le (Nat.le_trans F.above (Nat.le_of_lt hLI))
  have hDL : s₂.heap.objs.size ≠ L := Ne.symm (below L hLlt).2.1
  have hCL : H2.objs.size ≠ L := Ne.symm (below L hLlt).1
  have hcL : H2.objs.size + 1 ≠ L := Ne.symm (below L hLlt).2.2
  have hIL : I ≠ L := Nat.ne_of_gt hLI
  have hNn : ∀ p ∈ news, p.1 ≠ H2.objs.size ∧ p.1 ≠ s₂.heap.objs.size ∧ p.1 ≠ H2.objs.size + 1 := fun p hp => below _ (Heap.lt_size (N p hp).1)
  have hNI : ∀ p ∈ news, p.1 ≠ I := fun p hp => Nat.ne_of_lt (hIn p hp)
  have hDI := (below I hIlt).2.1
  have hCI := (below I hIlt).1
  have hcI := (below I hIlt).2.2
  have list_at : ∀ {h : Heap}, News h₀ L h news → h.IsList ax its := fun N => ⟨lo, (N _ hma).1, hcls, n1, hdat⟩
  have loop : ∀ s₃ : Shared, s₃ = { s₂ with heap := h₁ } →
      codeAny (model prog w) A (.compLoop (.ListComp elt [⟨.Name x px, iter, [], 0⟩] scope pos) 0 (.ref I) (.ref s₂.heap.objs.size) (compEnvC scope ((x, H2.objs.size + 1) :: cl) H2.objs.size env))
        (RR (.ref s₂.heap.objs.size) H2.objs.size) s₃ := by
    rintro s₃ rfl
    refine codeAny_compLoop_tests
      (fun k s' => ∃ h' tk i ys cv, s' = { s₂ with heap := h', toks := tk } ∧ i ≤ its.size ∧ k = its.size + 1 - i ∧ ys.length = i ∧ h'.IsListIter I ax i ∧ Fr h₀ L h' m ∧ h'.Ns H2.objs.size (fun _ => none) ∧ h'.IsCell (H2.objs.size + 1) cv ∧ News h₀ L h' ((s₂.heap.objs.size, lst ys) :: news) ∧ (∀ j y, ys[j]? = some y → R j y)) ?_ (its.size + 1)
      ⟨h₁, s₂.toks, 0, [], none, rfl, Nat.zero_le _, rfl, rfl, hI.at fun o e => old _ o e, F.keeps old, hns₁, hcel, fun p hp => ?_, fun j y hj => by simp at hj⟩
    · rintro k s' ⟨h', tk, i, ys, cv, rfl, hi, rfl, hyl, hst', F', hn', hcv', N', hR'⟩
      have N'n : News h₀ L h' news := fun p hp => N' p (.tail _ hp)
      by_cases hlti : i < its.size
      · refine W.item i _ _ _ hlti ⟨hst', list_at N'n⟩ fun v h₂ tk₂ hPv hst₂ hk₂ => ?_
        have hk₂' : ∀ b o, b ≠ I → h'.get? b = some o → h₂.get? b = some o := fun b o hb e => hk₂ b o (by simpa using hb) e
        have F₂ := fr_but F' hk₂ (Ne.symm hIL) hI₀
        have hcv₂ : h₂.IsCell (H2.objs.size + 1) cv := by obtain ⟨o, ho, hd⟩ := hcv'; exact ⟨o, hk₂' _ _ (Ne.symm hcI) ho, hd⟩
        refine wpAny_assign_Name (wpAny_storeName_cell (by simpa [compEnvC, relabel] using hkind) (by simpa [compEnvC, Env.kindOf] using hxc) (by simp [compEnvC]) hcv₂ fun h₃ hcv₃ hs₃ => ?_)
        refine wpAny_tests_nil ?_
        simp only [if_true]
        obtain ⟨oI, heI, _⟩ := hst₂.1
        have heI₃ : h₃.get? I = some oI := hs₃.extBut _ _ hcI heI
        obtain ⟨oc, heC, hdc⟩ := hcv₃
        have hn₃ : h₃.Ns H2.objs.size (fun _ => none) := (hn'.at' fun o e => hk₂' _ o (Ne.symm hCI) e).sameBut hs₃ hCc
        obtain ⟨oC, heCn, hoC⟩ := ns_obj hn₃
        have F₃ : Fr h₀ L h₃ m := F₂.change hs₃ hcL hc₀
        have N₃ : News h₀ L h₃ ((I, oI) :: (H2.objs.size, oC) :: (H2.objs.size + 1, oc) :: (s₂.heap.objs.size, lst ys) :: news) := fun p hp => by
          rcases List.mem_cons.mp hp with rfl | hp
          · exact ⟨heI₃, hIL, hI₀⟩
          · rcases List.mem_cons.mp hp with rfl | hp
            · exact ⟨heCn, hCL, hC₀⟩
            · rcases List.mem_cons.mp hp with rfl | hp
              · exact ⟨heC, hcL, hc₀⟩
              · have z := N' p hp
                refine ⟨hs₃.extBut _ _ ?_ (hk₂' _ _ ?_ z.1), z.2⟩
                · rcases List.mem_cons.mp hp with rfl | hp
                  · exact hDc
                  · exact (hNn p hp).2.2
                · rcases List.mem_cons.mp hp with rfl | hp
                  · exact Ne.symm hDI
                  · exact hNI p hp
        refine wpAny_mono (turn i v oI H2.objs.size oC (H2.objs.size + 1) oc s₂.heap.objs.size ys _ h₃ _ _ hPv hoC hdc F₃ N₃ (fun p hp => by rw [hC]; exact Nat.lt_succ_of_lt (Nat.lt_succ_of_lt (Heap.lt_size (N p hp).1)))) (fun y s₄ h₄ => ?_) fun _ _ e => e
        obtain ⟨h₄, tk₄, rfl, F₄, N₄, hRy⟩ := h₄
        have zI := (N₄ _ (.head _)).1
        have zC := (N₄ _ (.tail _ (.head _))).1
        have zc := (N₄ _ (.tail _ (.tail _ (.head _)))).1
        have zD := (N₄ _ (.tail _ (.tail _ (.tail _ (.head _))))).1
        have hst₄ : h₄.IsListIter I ax (i + 1) := hst₂.1.at fun o e => by rw [heI] at e; cases e; exact zI
        refine append_at (hsz := by show ys.toArray.size ≤ sizeLine; rw [List.size_toArray, hyl]; exact Nat.le_trans hi hsz) zD fun h₅ hs₅ hD₅ => ?_
        refine ⟨its.size + 1 - (i + 1), by omega, h₅, tk₄, i + 1, ys ++ [y], some v, rfl, hlti, rfl, by rw [List.length_append, List.length_singleton, hyl], hst₄.at fun o e => hs₅.extBut _ o hDI e, F₄.change hs₅ hDL hD₀,
          (hoC.ns zC).sameBut hs₅ (Ne.symm hDC), ⟨oc, hs₅.extBut _ _ (Ne.symm hDc) zc, hdc⟩, fun p hp => ?_, fun j y' hj => ?_⟩
        · rcases List.mem_cons.mp hp with rfl | hp
          · exact ⟨hD₅.trans (congrArg some (lst_snoc ys y)), hDL, hD₀⟩
          · exact ⟨hs₅.extBut _ _ (hNn p hp).2.1 (N₄ p (.tail _ (.tail _ (.tail _ (.tail _ hp))))).1, (N p hp).2⟩
        · rcases Nat.lt_or_ge j ys.length with hj' | hj'
          · rw [List.getElem?_append_left hj'] at hj
            exact hR' j y' hj
          · rw [List.getElem?_append_right hj'] at hj
            have hj0 : j - ys.length = 0 := by
              rcases Nat.eq_zero_or_pos (j - ys.length) with h | h
              · exact h
              · rw [List.getElem?_eq_none (by simp; omega)] at hj; cases hj
            rw [hj0] at hj
            cases hj
            have : j = i := by omega
            rw [this]; exact hRy
      · obtain rfl : i = its.size := Nat.le_antisymm hi (Nat.not_lt.mp hlti)
        refine W.done _ _ _ ⟨hst', list_at N'n⟩ fun h₂ tk₂ hk₂ => ?_
        have hk₂' : ∀ b o, b ≠ I → h'.get? b = some o → h₂.get? b = some o := fun b o hb e => hk₂ b o (by simpa using hb) e
        exact hRR _ _ h₂ tk₂ _ ys hyl hR' (fr_but F' hk₂ (Ne.symm hIL) hI₀) (fun p hp => ⟨hk₂' _ _ (by
          rcases List.mem_cons.mp hp with rfl | hp
          · exact Ne.symm hDI
          · exact hNI p hp) (N' p hp).1, (N' p hp).2⟩) (fun p hp => Heap.lt_size (N p hp).1) (hn'.at' fun o e => hk₂' _ o (Ne.symm hCI) e) hC₀ hCL (Ne.symm hDC) fun p hp => (hNn p hp).1
    · rcases List.mem_cons.mp hp with rfl | hp
      · exact ⟨hacc, hDL, hD₀⟩
      · exact ⟨old _ _ (N p hp).1, (N p hp).2⟩
  exact codeAny_compStart_list (loop _ rfl) (W.self 0 _ _ _ ⟨hI.at fun o e => old _ o e, list_at (N.grown old)⟩ (loop _ rfl))
/-- what is left to show at the source of a comprehension whose name is a cell -/
def CSrc (prog : Program) (w : World) (A : Around) (E : Value → Shared → Prop) (env : Env) (elt iter : Expr) (x y : Str) (px py : Pos) (scope : Scope) (cl : List (Str × Addr)) (pos : Pos) (Q : Flow → Shared → Prop) (xv : Value) (s₁ : Shared) : Prop :=
  wpAny (model prog w) A (pyIter xv) (fun it s₂ => wpAny (model prog w) A (newList []) (fun acc s₃ => wpAny (model prog w) A (newFunctionEnv scope env.globals cl [] env.qual none .none (some env)) (fun cenv s₄ =>
    codeAny (model prog w) A (.compStart (.ListComp elt [⟨.Name x px, iter, [], 0⟩] scope pos) 0 it acc { cenv with scope := relabel scope env }) (compPost (model prog w) A E (some (assign (.Name y py) env)) (fun _ s' => Q .next s') acc cenv.locals) s₄) E s₃) E s₂) E s₁
theorem Assign_comp_C {elt iter : Expr} {x y : Str} {px py : Pos} {scope : Scope} {cl : List (Str × Addr)} {pos spos : Pos} {Q : Flow → Shared → Prop} (_F₀ : Fr h₀ L s.heap m)
    (hsw : swapsWith (.ListComp elt [⟨.Name x px, iter, [], 0⟩] scope pos) (some (.Name y py)) spos.line env = pure true)
    (hclos : closureFor scope env = pure cl) (hkind : scope.kind = .function) (hnames : ∀ z ∈ scope.names, z.2 = .local → scope.names.lookup z.1 = some .local)
    (h : wpAny (model prog w) A (eval iter env) (CSrc prog w A E env elt iter x y px py scope cl pos Q) E s)
    (hs : ∀ x, foldedSetIterable iter env x = pure x := by intro _; rfl) :
    wpAny (model prog w) A (exec (.Assign [.Name y py] (.ListComp elt [⟨.Name x px, iter, [], 0⟩] scope pos) spos) env) Q E s := by
  rw [exec_Assign_Name_used _ _ _ _ hsw]
  refine wpAny_bind (wpAny_standAt (wpAny_bind ?_))
  show wpAny _ A (do let _ ← comprehension (.ListComp elt [⟨.Name x px, iter, [], 0⟩] scope pos) scope env _ (newList []) false (eval iter env) (some (assign (.Name y py) env))) _ _ s
  exact wpAny_bind (wpAny_mono (wpAny_comprehension_free (use := some (assign (.Name y py) env)) (Q := fun _ s' => Q .next s') rfl hs hclos hkind hnames h) (fun _ s' hq => wpAny_pure (wpAny_pure hq)) fun _ _ e => e)
theorem CSrc.ledger {elt iter : Expr} {x y : Str} {px py : Pos} {scope : Scope} {cl : List (Str × Addr)} {pos : Pos} {Q : Flow → Shared → Prop} {ax : Addr} {lo : Obj} {its : Array Value} {n1 : Nat} {news : Led} {s₁ : Shared} (R : Nat → Value → Prop)
    (hone : ∀ (n : Nat) acc, cellsFrom n scope.names acc = (x, n) :: acc) (hpush : ∀ h, pushCells h scope.names = h.push cellO) (hkind : scope.kind = .function) (hxc : Env.kindOf (compEnvC scope [] 0 env) x = some .cell)
    (hy : env.kindOf y = some .local) (hp : (env.scope.kind == .class || (env.scope.kind == .module && env.locals != env.globals)) = false)
    (hh : A.handled = none) (F : Fr h₀ env.locals s₁.heap m) (N : News h₀ env.locals s₁.heap news)
    (hm : (ax, lo) ∈ news) (hc : lo.cls = .type "list") (hd : lo.data = .seq its n1) (hsz : its.size ≤ sizeLine)
    (turn : ∀ i v I oI C oC c oc D ys m₂ h tk (E' : Value → Shared → Prop), its[i]? = some v → NsObj oC m₂ → oc.data = .cell (some v) → Fr h₀ env.locals h m → News h₀ env.locals h ((I, oI) :: (C, oC) :: (c, oc) :: (D, lst ys) :: news) → (∀ p ∈ news, @LT.lt Nat _ p.1 c) →
      wpAny (model prog w) A (eval elt (compEnvC scope ((x, c) :: cl) C env)) (ZEnd h₀ env.locals m { s₁ with heap := h, toks := tk } ((I, oI) :: (C, oC) :: (c, oc) :: (D, lst ys) :: news) (R i)) E' { s₁ with heap := h, toks := tk })
    (fin : ∀ D h tk ys, ys.length = its.size → (∀ i z, ys[i]? = some z → R i z) → Fr h₀ env.locals h (fun z => if z = y then some (.ref D) else m z) → News h₀ env.locals h ((D, lst ys) :: news) → (∀ p ∈ news, @LT.lt Nat _ p.1 D) → Q .next { s₁ with heap := h, toks := tk }) :
    CSrc prog w A E env elt iter x y px py scope cl pos Q (.ref ax) s₁ := by
  show wpAny _ _ (pyIter _) _ _ _
  have hl : s₁.heap.IsList ax its := ⟨lo, (N _ hm).1, hc, n1, hd⟩
  refine wpAny_pyIter_list hl ?_
  have up : ∀ b o, s₁.heap.get? b = some o → (s₁.heap.push { cls := .type "list_iterator", data := .fields #[.ref ax, .int 0 0] }).get? b = some o := fun b o e => Heap.get?_push_of_some _ e
  refine block_C (R := R) hone hpush hkind hxc hh hsz hm hc hd ⟨_, Heap.get?_push_size _ rfl, rfl, rfl⟩ (F.keeps up) (N.grown up) (fun p hp => Heap.lt_size (N p hp).1) F.ns.lt (fun i v oI C oC c oc D ys m₂ h tk E' => turn i v _ oI C oC c oc D ys m₂ h tk E') ?_
  intro D C h' tk m' ys hyl hR F' N' hnD hn hC₀ hCL hCD offC
  show wpAny _ A (assign (.Name y py) env (.ref D)) _ _ _
  refine wpAny_assign_Name (wpAny_storeName_local hy F'.ns (fun h₂ hn₂ hs₂ => ?_) hp)
  have hL₀ : h₀.get? env.locals = none := Heap.get?_none_of_le F'.above
  have F₂ : Fr h₀ env.locals h₂ (fun z => if z = y then some (.ref D) else m z) := ⟨hn₂, fun b o e => hs₂.extBut b o (fun q => by rw [q, hL₀] at e; cases e) (F'.keep b o e), F'.above⟩
  refine ⟨m', hn.sameBut hs₂ hCL, fun h'' hs'' => fin D h'' _ ys hyl hR (F₂.change hs'' hCL hC₀) (fun p hp => ?_) hnD⟩
  have z : h₂.get? p.1 = some p.2 := hs₂.extBut _ _ (N' p hp).2.1 (N' p hp).1
  refine ⟨hs''.extBut _ _ ?_ z, (N' p hp).2⟩
  rcases List.mem_cons.mp hp with rfl | hp
  · exact Ne.symm hCD
  · exact offC p hp
end
end Mine

end
section
open PySem PySem.W PyProof.Rows PySem.Calls
set_option Elab.async false
set_option maxRecDepth 100000
set_option maxHeartbeats 2000000
namespace Mine
section
variable {prog : Program} {w : World} {A : Around} {E : Value → Shared → Prop} {s : Shared} {h₀ : Heap} {L a : Addr} {m : Str → Option Value} {news : Led} {vs : List Value}
theorem sort_few {n : Nat} {P : PySem.Fin → Shared → Prop} (F : Fr h₀ L s.heap m) (N : News h₀ L s.heap news) (ho : s.heap.get? a = some (seqObj "list" vs.toArray n)) (haL : a ≠ L) (ha0 : h₀.get? a = none) (hna : ∀ p ∈ news, p.1 ≠ a)
    (h1 : vs.length < 2) (h : ∀ c h', Fr h₀ L h' m → News h₀ L h' ((a, seqObj "list" vs.toArray c) :: news) → P (.done (.ret .none)) { s with heap := h' }) :
    wpAny (model prog w) A (Builtin.«list.sort» ⟨[.ref a], []⟩) P E s := by
  have s1 := Heap.SameBut.update s.heap a (Obj.mapSeq fun _ => (#[] : Array Value))
  obtain ⟨e1, ho1⟩ : ∃ e1, (s.heap.update a (Obj.mapSeq fun _ => (#[] : Array Value))).get? a = some (seqObj "list" #[] e1) := ⟨_, get?_update_seq ho fun _ => #[]⟩
  have F3 : Fr h₀ L (((s.heap.update a (Obj.mapSeq fun _ => (#[] : Array Value))).push (seqObj "tuple" vs.toArray 0)).push (seqObj "list" #[] 0)) m := ((kas_fr F s1 haL ha0).push _).push _
  have N2 : News h₀ L (((s.heap.update a (Obj.mapSeq fun _ => (#[] : Array Value))).push (seqObj "tuple" vs.toArray 0)).push (seqObj "list" #[] 0)) news :=
    (kas_news N s1 hna).grown fun b x e => Heap.get?_push_of_some _ (Heap.get?_push_of_some _ e)
  have ha3 : (((s.heap.update a (Obj.mapSeq fun _ => (#[] : Array Value))).push (seqObj "tuple" vs.toArray 0)).push (seqObj "list" #[] 0)).get? a = some (seqObj "list" #[] e1) := Heap.get?_push_of_some _ (Heap.get?_push_of_some _ ho1)
  have s2 := Heap.SameBut.update (((s.heap.update a (Obj.mapSeq fun _ => (#[] : Array Value))).push (seqObj "tuple" vs.toArray 0)).push (seqObj "list" #[] 0)) a (Obj.mapSeq fun _ => vs.toArray)
  obtain ⟨c2, hc2⟩ : ∃ c2, ((((s.heap.update a (Obj.mapSeq fun _ => (#[] : Array Value))).push (seqObj "tuple" vs.toArray 0)).push (seqObj "list" #[] 0)).update a (Obj.mapSeq fun _ => vs.toArray)).get? a = some (seqObj "list" vs.toArray c2) := ⟨_, get?_update_seq ha3 fun _ => vs.toArray⟩
  rw [list_sort_plain]
  refine wpAny_bind (listItems_at ho rfl ?_)
  refine wpAny_bind (listUpdate_at ho rfl ?_ (by rw [List.size_toArray, sizeLine_eq]; omega) (Nat.zero_le _))
  refine wpAny_bind (seqEpoch_at ho1 rfl ?_)
  refine wpAny_bind (wpAny_newTuple ?_ (by show vs.length ≤ _; rw [sizeLine_eq]; omega))
  refine wpAny_bind (wpAny_newList ?_ (Nat.zero_le _))
  refine wpAny_holding ?_
  show wpAny (model prog w) A _ P E { s with heap := ((s.heap.update a (Obj.mapSeq fun _ => (#[] : Array Value))).push (seqObj "tuple" vs.toArray 0)).push (seqObj "list" #[] 0) }
  dsimp only
  have hn2 : vs.toArray.size < 2 := by rw [List.size_toArray]; omega
  rw [if_pos hn2, if_pos hn2]
  refine wpAny_bind (wpAny_pure ?_)
  refine wpAny_bind (wpAny_pure (M := model prog w) ?_)
  have har : (arrOf (SortSt.mk' general' (vs.toArray.zip vs.toArray) #[] 7 none)).map (·.2) = vs.toArray := by
    show ((vs.toArray.zip vs.toArray).map (·.2)) = vs.toArray
    apply Array.toList_inj.mp
    simp only [Array.toList_map, Array.toList_zip]
    exact List.map_snd_zip (Nat.le_refl _)
  dsimp only
  rw [har]
  refine wpAny_bind (seqEpoch_at ha3 rfl ?_)
  refine wpAny_bind (listUpdate_at ha3 rfl ?_ (Nat.zero_le _) (by rw [List.size_toArray, sizeLine_eq]; omega))
  simp only [bne_self_eq_false, Bool.false_eq_true, if_false]
  refine wpAny_pure (h c2 _ (kas_fr F3 s2 haL ha0) fun p hp => ?_)
  rcases List.mem_cons.mp hp with rfl | hp
  · exact ⟨hc2, haL, ha0⟩
  · exact ⟨(s2.2 p.1 (hna p hp)).trans (N2 p hp).1, (N2 p hp).2⟩
theorem sorted_few {l : Addr} {Q : Value → Shared → Prop} (F : Fr h₀ L s.heap m) (N : News h₀ L s.heap news) (hl : s.heap.IsList l vs.toArray) (h1 : vs.length < 2)
    (h : ∀ D c h', Fr h₀ L h' m → News h₀ L h' ((D, listOf vs.toArray c) :: news) → (∀ q ∈ news, @LT.lt Nat _ q.1 D) → Q (.ref D) { s with heap := h' }) :
    wpAny (model prog w) A (call (.builtin "sorted") [.ref l]) Q E s := by
  refine Calls.call_function_entry kind_sorted plain_sorted entry_sorted (args_sorted1 _) ?_
  unfold Builtin.«sorted»
  refine wpAny_bind (m := checkCount "sorted" 1 1 _) (wpAny_pure ?_)
  refine wpAny_bind (collect_list hl ?_ (by rw [sizeLine_eq]; omega))
  refine wpAny_bind (wpAny_newList ?_ (by rw [sizeLine_eq]; omega))
  have hsz : ((s.heap.push (seqObj "list" #[] 0)).update s.heap.objs.size (Obj.mapSeq (· ++ vs.toArray))).objs.size = s.heap.objs.size + 1 := by
    rw [Heap.size_update, size_push']
  have hoL : (((s.heap.push (seqObj "list" #[] 0)).update s.heap.objs.size (Obj.mapSeq (· ++ vs.toArray))).push (seqObj "list" vs.toArray 0)).get? (s.heap.objs.size + 1) = some (seqObj "list" vs.toArray 0) := by
    rw [← hsz]; exact Heap.get?_push_size _ rfl
  have keep : ∀ b o, s.heap.get? b = some o → (((s.heap.push (seqObj "list" #[] 0)).update s.heap.objs.size (Obj.mapSeq (· ++ vs.toArray))).push (seqObj "list" vs.toArray 0)).get? b = some o := fun b o q => by
    have hlt : @LT.lt Nat _ b s.heap.objs.size := Heap.lt_size q
    rw [Heap.get?_push_ne _ _ _ (by rw [hsz]; exact Nat.ne_of_lt (Nat.lt_succ_of_lt hlt)), Heap.get?_update_ne _ _ _ _ (Nat.ne_of_lt hlt), Heap.get?_push_ne _ _ _ (Nat.ne_of_lt hlt)]
    exact q
  have hL : @LT.lt Nat _ L s.heap.objs.size := F.ns.lt
  show wpAny _ _ _ _ _ { s with heap := ((s.heap.push (seqObj "list" #[] 0)).update s.heap.objs.size (Obj.mapSeq (· ++ vs.toArray))).push (seqObj "list" vs.toArray 0) }
  rw [hsz]
  refine wpAny_bind (wpAny_holding (wpAny_call_entry slot_list_sort ⟨_, hoL, rfl⟩ entry_list_sort ?body (args_list_sort _)))
  case body =>
    refine sort_few (s := { s with heap := ((s.heap.push (seqObj "list" #[] 0)).update s.heap.objs.size (Obj.mapSeq (· ++ vs.toArray))).push (seqObj "list" vs.toArray 0) })
      (F.kept keep) (N.grown keep) hoL (Nat.ne_of_gt (Nat.lt_succ_of_lt hL)) (Heap.get?_none_of_le (Nat.le_trans F.above (Nat.le_succ_of_le (Nat.le_of_lt hL))))
      (fun p hp => Nat.ne_of_lt (Nat.lt_succ_of_lt (Heap.lt_size (N p hp).1))) h1 fun c h' F' N' => ?_
    exact ⟨_, rfl, wpAny_pure ⟨_, rfl, h _ c h' F' N' fun q hq => Nat.lt_succ_of_lt (Heap.lt_size (N q hq).1)⟩⟩
theorem key_ent {x y : Addr} {ox oy : Obj} {e f : Ent} {Q : Bool → Shared → Prop} (hx : s.heap.get? x = some ox) (he : EntO e ox) (hy : s.heap.get? y = some oy) (hf : EntO f oy)
    (h : Q (elt e f) s) : wpAny (model prog w) A (keyLt' (tuples' true) (.ref x) (.ref y)) Q E s := by
  obtain ⟨cx, tx, ux, nx, dx⟩ := he
  obtain ⟨cy, ty, uy, ny, dy⟩ := hf
  refine kat_lt hx dx hy dy ?_
  show KatLex prog w A true false Q [(.int (e.1 : Int) tx, .int (f.1 : Int) ty), (.str (S e.2) ux, .str (S f.2) uy)] 0 s
  refine kat_cons (wpAny_eqBool_int ?_)
  by_cases hp : (e.1 : Int) = (f.1 : Int)
  · rw [show ((e.1 : Int) == (f.1 : Int)) = true by simpa using hp]
    refine kat_yes (kat_cons (wpAny_eqBool_str ?_))
    by_cases hw : S e.2 = S f.2
    · rw [decide_eq_true hw]
      refine kat_yes (kat_nil ?_)
      have e0 : e = f := Prod.ext (by omega) (S_inj hw)
      subst e0
      rw [elt_irrefl] at h
      exact h
    · rw [decide_eq_false hw]
      refine kat_no ?_
      show wpAny _ _ (oneLt' false _ _) _ _ _
      refine kat_one _ _ (lt_str ?_)
      show Q _ s
      have e1 : (decide ((S e.2).cps.toList < (S f.2).cps.toList)) = elt e f := by
        rw [S_list, S_list]
        have : e.1 = f.1 := by omega
        simp [elt, this]
      exact (congrArg (fun b => Q b s) e1).mpr h
  · rw [show ((e.1 : Int) == (f.1 : Int)) = false by simpa using hp]
    refine kat_no ?_
    show wpAny _ _ (oneLt' true _ _) _ _ _
    refine oneLt_int ?_
    have e1 : decide ((e.1 : Int) < (f.1 : Int)) = elt e f := by
      have : ¬ e.1 = f.1 := by omega
      simp [elt, this]
    exact (congrArg (fun b => Q b s) e1).mpr h
theorem sorted_two {l x y : Addr} {ox oy : Obj} {e f : Ent} {Q : Value → Shared → Prop} (F : Fr h₀ L s.heap m) (N : News h₀ L s.heap news) (hl : s.heap.IsList l (List.toArray [.ref x, .ref y])) (hx : (x, ox) ∈ news) (he : EntO e ox) (hy : (y, oy) ∈ news) (hf : EntO f oy)
    (h : ∀ D c h', Fr h₀ L h' m → News h₀ L h' ((D, listOf (List.toArray (if elt f e = true then [.ref y, .ref x] else [.ref x, .ref y])) c) :: news) → (∀ q ∈ news, @LT.lt Nat _ q.1 D) → Q (.ref D) { s with heap := h' }) :
    wpAny (model prog w) A (call (.builtin "sorted") [.ref l]) Q E s := by
  refine kat_sorted F N hl (by simp) (by simp) fun D e1 h' F' N' hD => ?_
  obtain ⟨tx, ux, nx, dx⟩ := he.2
  obtain ⟨ty, uy, ny, dy⟩ := hf.2
  have gx := (N' _ (.tail _ hx)).1
  have gy := (N' _ (.tail _ hy)).1
  refine kat_kind (T := .type "int") (fs := [.int (e.1 : Int) tx, .int (f.1 : Int) ty]) (KatTups.cons gx he.1 dx rfl (KatTups.cons gy hf.1 dy rfl KatTups.nil)) (by simp) (by kas_types) rfl ?_
  have hne : ∀ p ∈ news, p.1 ≠ D := fun p hp => Nat.ne_of_lt (hD p hp)
  show (kas_sort 2).kasWp _ _ _
  kat_step
  refine key_ent gy hf gx he ?_
  cases hb : elt f e with
  | true =>
    rw [hb] at h
    show KasT.kasWp _ _ _ _
    kat_step
    exact KasFin.intro F' N' (.head hne) fun h2 c F2 N2 => h D c h2 F2 N2 hD
  | false =>
    rw [hb] at h
    show KasT.kasWp _ _ _ _
    kat_step
    exact KasFin.intro F' N' (.head hne) fun h2 c F2 N2 => h D c h2 F2 N2 hD
end
end Mine

end
section
open PySem PySem.W PyProof.Rows PySem.Calls
set_option Elab.async false
set_option maxRecDepth 100000
set_option maxHeartbeats 1000000
set_option compiler.extract_closed false
namespace Mine
-- into a def without cells; into one with cells
-- a name of the frame's that a hypothesis tells
local macro_rules | `(tactic| walk_at "eval Name") => `(tactic| (k_here; (with_reducible show wpAny _ _ (eval (Expr.Name _ _) (envOf _ _ _ _ _)) _ _ _); k_dflt (refine' ld ?k1 ?k2 ?_; (case k1 => k_asm); (case k2 => first | exact rfl | assumption); k_whole)))
local macro_rules | `(tactic| walk_at "eval Name") => `(tactic| (k_here; (with_reducible show wpAny _ _ (eval (Expr.Name _ _) (envOfC _ _ _ _ _)) _ _ _); k_dflt (refine' nameX_L ?F ?v ?_ ?a ?b; (case F => k_asm); (case a => rfl); (case b => rfl); (case v => first | exact rfl | assumption); k_whole)))
local macro_rules | `(tactic| k_all) => `(tactic| first | assumption | exact fun p hp => Nat.ne_of_lt (ktn_ltOf (by assumption) p hp))
-- a ledger out of another: each entry stands there
-- the tokens' counter is made a letter, its lower bound kept
local macro_rules | `(tactic| walk_at "lo") => `(tactic| first | with_reducible assumption | (apply Lo.add; with_reducible assumption) | (apply Lo.add; apply Lo.add; with_reducible assumption) | (apply Lo.add; apply Lo.add; apply Lo.add; with_reducible assumption) | (apply Lo.add; apply Lo.add; apply Lo.add; apply Lo.add; with_reducible assumption))
local macro_rules | `(tactic| walk_at "ex") => `(tactic| (k_here; refine' gen_toks (lo := ?lo0) (Lo.add ?loA _) ?_; (case loA => ((try dsimp only); walk_at "lo")); intro tk hlo))
local macro_rules | `(tactic| walk_at "execs nil") => `(tactic| walk_at "ex")
local macro_rules | `(tactic| walk_at "execs cons") => `(tactic| walk_at "ex")
-- texts by their signs
local macro_rules | `(tactic| walk_at "as") => `(tactic| with_reducible assumption)
local macro_rules | `(tactic| walk_at "lm") => `(tactic| first | exact .head _ | exact .tail _ (.head _) | exact .tail _ (.tail _ (.head _)) | exact .tail _ (.tail _ (.tail _ (.head _))) | exact .tail _ (.tail _ (.tail _ (.tail _ (.head _)))))
local macro_rules | `(tactic| walk_at "call builtin:len") => `(tactic| (k_here; k_dflt (refine len_S (by walk_at "as") ?_)))
local macro_rules | `(tactic| walk_at "subscriptTail Name Name str int") => `(tactic| (k_here; k_dflt (refine item_S (by walk_at "as") (by walk_at "as") ?_)))
local macro_rules | `(tactic| walk_at "subscriptTail Name Constant str int") => `(tactic| (k_here; k_dflt (refine item_S (by walk_at "as") (by walk_at "as") ?_)))
local macro_rules | `(tactic| walk_at "compareOp Eq str str") => `(tactic| (k_here; k_dflt (first | (refine eq_str_is (b := true) (by walk_at "as") ?_) | (refine eq_str_is (b := false) (by walk_at "as") ?_) | (refine eq_str_is (b := true) (by with_unfolding_all rfl) ?_) | (refine eq_str_is (b := false) (by with_unfolding_all rfl) ?_))))
local macro_rules | `(tactic| walk_at "compareOp NotEq str str") => `(tactic| (k_here; k_dflt (first | (refine ne_str_is (b := true) (by walk_at "as") ?_) | (refine ne_str_is (b := false) (by walk_at "as") ?_) | (refine ne_str_is (b := true) (by with_unfolding_all rfl) ?_) | (refine ne_str_is (b := false) (by with_unfolding_all rfl) ?_))))
local macro_rules | `(tactic| walk_at "compareOp IsNot str str") => `(tactic| (k_here; k_dflt (refine isNot_str (by walk_at "as") (by walk_at "as") (by walk_at "as") (by walk_at "as") ?_)))
local macro_rules | `(tactic| walk_at "compareOp NotIn str str") => `(tactic| (k_here; k_dflt (refine notIn_is (b := true) (by walk_at "as") ?_)))
local macro_rules | `(tactic| walk_at "call builtin:str.replace") => `(tactic| (k_here; k_dflt (refine replace_none (by walk_at "as") ?_)))
local macro_rules | `(tactic| walk_at "subscriptTail Name Slice str ref") => `(tactic| (k_here; (with_reducible rename Fr _ _ _ _ => Fw); (with_reducible rename News _ _ _ _ => Nw); k_dflt (first | (refine' slice_ssL (lo := ?lo0) (s := ⟨_, _, _, _, _⟩) ?hl Fw Nw ?e ?_ ?sz ?hs ?ht; (case hl => ((try dsimp only); walk_at "lo")); (case e => walk_at "as"); (case sz => walk_at "as"); (case hs => with_unfolding_all rfl); (case ht => (intro _; with_unfolding_all rfl)); intro _ _ _ _ _ _) | (refine slice_ss (s := ⟨_, _, _, _, _⟩) Fw Nw (by walk_at "as") ?_ (by walk_at "as"); intro _ _ _ _ _) | (refine slice_sn (s := ⟨_, _, _, _, _⟩) Fw Nw (by walk_at "as") ?_ (by walk_at "as"); intro _ _ _ _ _))))
local macro_rules | `(tactic| walk_at "truthy str") => `(tactic| (k_here; k_dflt (refine truthy_S1 ?_)))
local macro_rules | `(tactic| walk_at "sz") => `(tactic| (with_unfolding_all exact Nat.le_of_ble_eq_true rfl))
local macro_rules | `(tactic| walk_at "formatField str") => `(tactic| (k_here; k_dflt (refine' field_L (lo := ?lo0) ?hl ?sz ?_; (case hl => ((try dsimp only); walk_at "lo")); (case sz => walk_at "sz")); intro _ _ _; (try dsimp only)))
local macro_rules | `(tactic| walk_at "binaryOp Add str str") => `(tactic| (k_here; (with_reducible rename Lo _ _ => hLoX); k_dflt (refine' add_L (lo := ?lo0) ?hl ?sz ?_; (case hl => ((try dsimp only); walk_at "lo")); (case sz => walk_at "sz")); intro _ _ _))
local macro_rules | `(tactic| walk_at "compareOp In str str") => `(tactic| (k_here; k_dflt (first | (refine in_is (b := true) (by walk_at "as") ?_) | (refine in_is (b := false) (by walk_at "as") ?_))))
local macro_rules | `(tactic| walk_at "callWith ref") => `(tactic| (k_here; k_dflt (first | (refine' callWith_K ?k1 ?k2 ?_; (case k1 => k_asm); (case k2 => k_is); k_whole) | (refine' callWith_K0 ?k1 ?k2 ?_; (case k1 => k_in); (case k2 => k_is); k_whole) | ((with_reducible rename News _ _ _ _ => Nw); refine callWith_bound1 (id := "list.append") Nw (by walk_at "lm") ?_))))
local macro_rules | `(tactic| walk_at "truthy ref") => `(tactic| (k_here; (with_reducible rename News _ _ _ _ => Nw); k_dflt (refine truthy_L Nw (by walk_at "lm") (by walk_at "as") (by walk_at "as") ?_)))

section
local macro_rules | `(tactic| walk_at "getMethod str") => `(tactic| (k_here; (with_reducible refine getMethod_translate ?_)))
theorem escape_ctr (w loose mean mg mb) (c : Nat) (hc : c = 97 ∨ c = 45 ∨ c = 33) (t1 : Tok) (lo : Nat) (news : Led) :
    CtrT w loose mean mg mb 48 3 [.str (S [c]) t1] news lo (fun r news' => news' = news ∧ ∃ t, Lo lo t ∧ r = .str (S (escaped c)) t) := by
  refine CtrT.mk ?_; k_fill; intro dp un gd cn cs a ccd cl outer A₀ base h₀ L m s Q E B F X N T hk hC hd hu hlo hret
  (refine wpAny_call ?_; k_dflt (refine' code_def ?k1 ?k2 ?k3 ?k4 ?k5 ?kA ?kF ?kK ?k6 ?k7 ?k8 ?k9 ?kB ?_ ?c2 ?c3 ?c4 ?c5; (case kA => exact rfl); (case kF => exact rfl); (case kK => assumption); (case k1 => k_asm); (case k2 => k_asm); (case k3 => k_asm); (case k4 => k_asm); (case k5 => k_asm); (case k6 => k_is); (case k7 => k_is); (case k8 => ktr_room); (case k9 => exact BindsTo.of_eq rfl); (case c5 => decide); (case kB => exact locs rfl); (case c2 => exact rfl); (case c3 => exact rfl); (case c4 => exact rfl); k_whole)); intro g' L' h' FG' F' N' B' X' T'; (try dsimp only); (try k_fold)
  ((repeat' (((fail_if_success (with_reducible first | show wpAny _ _ (exec (Stmt.For _ _ _ _ _) _) _ _ _ | show wpAny _ _ (exec (Stmt.While _ _ _ _) _) _ _ _ | show wpAny _ _ (eval (Expr.ListComp _ _ _ _) _) _ _ _ | show wpAny _ _ (eval (Expr.Dict _ _ _) _) _ _ _ | show wpAny _ _ (binaryOp _ _ (Value.str (S (List.flatten _)) _)) _ _ _ | show wpAny _ _ (exec (Stmt.Assign _ (Expr.ListComp _ _ _ _) _) _) _ _ _ | show wpAny _ _ (call (Value.ref _) _ _) _ _ _ | show wpAny _ _ (pyIter _) _ _ _ | show wpAny _ _ (call (Value.builtin "len") [Value.ref _]) _ _ _ | show wpAny _ _ (subscriptTail _ _ (Value.ref _) (Value.ref _)) _ _ _ | show wpAny _ _ (compareOp CmpOp.Lt (Value.ref _) (Value.ref _)) _ _ _ | show wpAny _ _ (setItem (Value.ref _) (Value.int _ _) _) _ _ _))); (first | (k_unfold; (try dsimp only)) | (k_end; wrow_close) | walk1 | (dsimp only; walk1) | (leave1; walk_say "STEP leave1"; try dsimp only) | fail "no step"))))
  rename Fr _ _ _ _ => F9
  rename News _ _ _ _ => N9
  refine translate_call rfl hc (map_at (X'.keeps F9.keep)) fun h2 t2 k2 hle hk2 => ?_
  have F8 := F9.keeps hk2
  have N8 := N9.grown hk2
  have hlo2 : Lo lo t2 := Nat.le_trans (m := _) (show Lo lo _ by (walk_at "lo")) hle
  ((repeat' (((fail_if_success (with_reducible first | show wpAny _ _ (exec (Stmt.For _ _ _ _ _) _) _ _ _ | show wpAny _ _ (exec (Stmt.While _ _ _ _) _) _ _ _ | show wpAny _ _ (eval (Expr.ListComp _ _ _ _) _) _ _ _ | show wpAny _ _ (eval (Expr.Dict _ _ _) _) _ _ _ | show wpAny _ _ (binaryOp _ _ (Value.str (S (List.flatten _)) _)) _ _ _ | show wpAny _ _ (exec (Stmt.Assign _ (Expr.ListComp _ _ _ _) _) _) _ _ _ | show wpAny _ _ (call (Value.ref _) _ _) _ _ _ | show wpAny _ _ (pyIter _) _ _ _ | show wpAny _ _ (call (Value.builtin "len") [Value.ref _]) _ _ _ | show wpAny _ _ (subscriptTail _ _ (Value.ref _) (Value.ref _)) _ _ _ | show wpAny _ _ (compareOp CmpOp.Lt (Value.ref _) (Value.ref _)) _ _ _ | show wpAny _ _ (setItem (Value.ref _) (Value.int _ _) _) _ _ _))); (first | (k_unfold; (try dsimp only)) | (k_end; wrow_close) | walk1 | (dsimp only; walk1) | (leave1; walk_say "STEP leave1"; try dsimp only) | fail "no step"))))
  exact hret _ _ _ _ (by k_asm) (by k_asm) ⟨rfl, _, hlo2, rfl⟩

end
section
/-- between the turns: the place is behind the signs taken so far -/
def TkJ (l n : List Nat) (t2 : Tok) (news : Led) (i : Nat) (m₁ : Str → Option Value) (news₁ : Led) : Prop :=
  news₁ = news ∧ m₁ "name" = some (.str (S n) t2) ∧ ∃ (p : Nat) (tk : Tok), m₁ "place" = some (.int (p : Int) tk) ∧ rest (l.take i) n = some (n.drop p)
theorem tk_next {l n : List Nat} {i c p k : Nat} (hc : l[i]? = some c) (hp : rest (l.take i) n = some (n.drop p)) (ha : after c (n.drop p) = some (n.drop (k + 1))) : rest (l.take (i + 1)) n = some (n.drop (k + 1)) := by
  rw [List.take_add_one, hc, rest_append, hp]
  simp [rest, ha]
theorem tk_none {l n : List Nat} {i c p : Nat} (hc : l[i]? = some c) (hp : rest (l.take i) n = some (n.drop p)) (ha : after c (n.drop p) = none) : takes l n = false := by
  have e : l = l.take i ++ c :: l.drop (i + 1) := by
    have h1 := (List.getElem?_eq_some_iff.mp hc)
    obtain ⟨hi, hv⟩ := h1
    rw [← hv, ← List.drop_eq_getElem_cons hi, List.take_append_drop]
  unfold takes
  rw [e, rest_append, hp]
  simp [rest, ha]
theorem takes_ctr (w loose mean mg mb) (l n : List Nat) (t1 t2 : Tok) (news : Led) :
    Ctr w loose mean mg mb 139 3 [.str (S l) t1, .str (S n) t2] news (fun r news' => news' = news ∧ r = .bool (takes l n)) := by
  unfold Ctr
  k_fill
  intro dp un gd cn cs a ccd cl outer A₀ base h₀ L m s Q E B F X N T hk hC hd hu hret
  (refine wpAny_call ?_; k_dflt (refine' code_def ?k1 ?k2 ?k3 ?k4 ?k5 ?kA ?kF ?kK ?k6 ?k7 ?k8 ?k9 ?kB ?_ ?c2 ?c3 ?c4 ?c5; (case kA => exact rfl); (case kF => exact rfl); (case kK => assumption); (case k1 => k_asm); (case k2 => k_asm); (case k3 => k_asm); (case k4 => k_asm); (case k5 => k_asm); (case k6 => k_is); (case k7 => k_is); (case k8 => ktr_room); (case k9 => exact BindsTo.of_eq rfl); (case c5 => decide); (case kB => exact locs rfl); (case c2 => exact rfl); (case c3 => exact rfl); (case c4 => exact rfl); k_whole)); intro g' L' h' FG' F' N' B' X' T'; (try dsimp only); (try k_fold)
  ((repeat' (((fail_if_success (with_reducible first | show wpAny _ _ (exec (Stmt.For _ _ _ _ _) _) _ _ _ | show wpAny _ _ (exec (Stmt.While _ _ _ _) _) _ _ _ | show wpAny _ _ (eval (Expr.ListComp _ _ _ _) _) _ _ _ | show wpAny _ _ (eval (Expr.Dict _ _ _) _) _ _ _ | show wpAny _ _ (binaryOp _ _ (Value.str (S (List.flatten _)) _)) _ _ _ | show wpAny _ _ (exec (Stmt.Assign _ (Expr.ListComp _ _ _ _) _) _) _ _ _ | show wpAny _ _ (call (Value.ref _) _ _) _ _ _ | show wpAny _ _ (pyIter _) _ _ _ | show wpAny _ _ (call (Value.builtin "len") [Value.ref _]) _ _ _ | show wpAny _ _ (subscriptTail _ _ (Value.ref _) (Value.ref _)) _ _ _ | show wpAny _ _ (compareOp CmpOp.Lt (Value.ref _) (Value.ref _)) _ _ _ | show wpAny _ _ (setItem (Value.ref _) (Value.int _ _) _) _ _ _))); (first | (k_unfold; (try dsimp only)) | (k_end; wrow_close) | walk1 | (dsimp only; walk1) | (leave1; walk_say "STEP leave1"; try dsimp only) | fail "no step"))))
  rename Fr _ _ _ _ => F'
  refine For_invVF F' rfl rfl ?_
  ((repeat' (((fail_if_success (with_reducible first | show wpAny _ _ (exec (Stmt.For _ _ _ _ _) _) _ _ _ | show wpAny _ _ (exec (Stmt.While _ _ _ _) _) _ _ _ | show wpAny _ _ (eval (Expr.ListComp _ _ _ _) _) _ _ _ | show wpAny _ _ (eval (Expr.Dict _ _ _) _) _ _ _ | show wpAny _ _ (binaryOp _ _ (Value.str (S (List.flatten _)) _)) _ _ _ | show wpAny _ _ (exec (Stmt.Assign _ (Expr.ListComp _ _ _ _) _) _) _ _ _ | show wpAny _ _ (call (Value.ref _) _ _) _ _ _ | show wpAny _ _ (pyIter _) _ _ _ | show wpAny _ _ (call (Value.builtin "len") [Value.ref _]) _ _ _ | show wpAny _ _ (subscriptTail _ _ (Value.ref _) (Value.ref _)) _ _ _ | show wpAny _ _ (compareOp CmpOp.Lt (Value.ref _) (Value.ref _)) _ _ _ | show wpAny _ _ (setItem (Value.ref _) (Value.int _ _) _) _ _ _))); (first | (k_unfold; (try dsimp only)) | (k_end; wrow_close) | walk1 | (dsimp only; walk1) | (leave1; walk_say "STEP leave1"; try dsimp only) | fail "no step"))))
  rename Fr _ _ _ _ => F'
  rename News _ _ _ _ => N'
  refine iter_str (TkJ l n t2 news) rfl F' N' ⟨rfl, rfl, 0, _, rfl, rfl⟩ ?_ ?_
  · intro I oI i c u m₁ news₁ h tk hc hJ hoff hown F1 N1
    obtain ⟨rfl, hn, p, tp, hp, hr⟩ := hJ
    rw [S_get] at hc
    ((repeat' (((fail_if_success (with_reducible first | show wpAny _ _ (exec (Stmt.For _ _ _ _ _) _) _ _ _ | show wpAny _ _ (exec (Stmt.While _ _ _ _) _) _ _ _ | show wpAny _ _ (eval (Expr.ListComp _ _ _ _) _) _ _ _ | show wpAny _ _ (eval (Expr.Dict _ _ _) _) _ _ _ | show wpAny _ _ (binaryOp _ _ (Value.str (S (List.flatten _)) _)) _ _ _ | show wpAny _ _ (exec (Stmt.Assign _ (Expr.ListComp _ _ _ _) _) _) _ _ _ | show wpAny _ _ (call (Value.ref _) _ _) _ _ _ | show wpAny _ _ (pyIter _) _ _ _ | show wpAny _ _ (call (Value.builtin "len") [Value.ref _]) _ _ _ | show wpAny _ _ (subscriptTail _ _ (Value.ref _) (Value.ref _)) _ _ _ | show wpAny _ _ (compareOp CmpOp.Lt (Value.ref _) (Value.ref _)) _ _ _ | show wpAny _ _ (setItem (Value.ref _) (Value.int _ _) _) _ _ _))); (first | (k_unfold; (try dsimp only)) | (k_end; wrow_close) | walk1 | (dsimp only; walk1) | (leave1; walk_say "STEP leave1"; try dsimp only) | fail "no step"))))
    · (rename (_ : Int) = 0 => hz)
      change qk (Flow.ret (Value.bool false)) _
      k_steps
      refine hret _ _ _ _ (by k_asm) (drop1 (by k_asm)) ⟨rfl, ?_⟩
      rcases find_after n c p with ⟨_, ha⟩ | ⟨k, hf, _⟩
      · rw [tk_none hc hr ha]
      · rw [hf] at hz; omega
    · (rename (_ : Int) ≠ 0 => hz)
      rcases find_after n c p with ⟨hf, _⟩ | ⟨k, hf, _, _, ha⟩
      · exact absurd (by rw [hf]; rfl) hz
      · rename Fr _ _ _ _ => F9
        rename News _ _ _ _ => N9
        have e9 : ((k + 1 : Nat) : Int) = Txt.find3 (S n) ⟨#[c]⟩ (p : Int) + 1 := by rw [hf]; omega
        exact LoopE.next _ F9 N9 hoff ⟨rfl, hn, k + 1, _, by rw [e9]; rfl, tk_next hc hr ha⟩
  · intro h' tk m' news' F1 N1 hJ
    obtain ⟨rfl, hn, p, tp, hp, hr⟩ := hJ
    k_steps
    refine hret _ _ _ _ (by k_asm) (by k_asm) ⟨rfl, ?_⟩
    rw [S_size, List.take_length] at hr
    simp [takes, hr]

end
section
def wordsF (n : List Nat) : List (List Nat) := n.foldl (fun ws c => ws ++ ws.map (· ++ [c])) [[]]
theorem wordsF_snoc (n : List Nat) (c : Nat) : wordsF (n ++ [c]) = wordsF n ++ (wordsF n).map (· ++ [c]) := by simp [wordsF]
theorem wordsF_len (n : List Nat) : (wordsF n).length = 2 ^ n.length := by
  have h : ∀ (n : List Nat) (w : List (List Nat)), (n.foldl (fun ws c => ws ++ ws.map (· ++ [c])) w).length = w.length * 2 ^ n.length := by
    intro n
    induction n with
    | nil => intro w; simp
    | cons c r ih => intro w; rw [List.foldl_cons, ih, List.length_append, List.length_map, List.length_cons, Nat.pow_succ, ← Nat.two_mul, Nat.mul_comm (2 ^ r.length) 2, Nat.mul_comm 2 w.length, Nat.mul_assoc]
  rw [wordsF, h]; simp
theorem wordsF_le : ∀ (n : List Nat), ∀ wd ∈ wordsF n, wd.length ≤ n.length := by
  have h : ∀ (n : List Nat) (w : List (List Nat)) (k : Nat), (∀ x ∈ w, x.length ≤ k) → ∀ x ∈ n.foldl (fun ws c => ws ++ ws.map (· ++ [c])) w, x.length ≤ k + n.length := by
    intro n
    induction n with
    | nil => intro w k hw x hx; exact hw x hx
    | cons c r ih =>
      intro w k hw x hx
      rw [List.foldl_cons] at hx
      have := ih _ (k + 1) (fun y hy => by
        rcases List.mem_append.mp hy with hy | hy
        · have := hw y hy; omega
        · obtain ⟨z, hz, rfl⟩ := List.mem_map.mp hy
          have := hw z hz
          simp; omega) x hx
      rw [List.length_cons]; omega
  intro n wd hwd
  have := h n [[]] 0 (by simp) wd hwd
  omega
theorem strsAre_snoc {vs : List Value} {ys : List Str} {y : Str} {t : Tok} (h : StrsAre vs ys) : StrsAre (vs ++ [.str y t]) (ys ++ [y]) := h.append' (.cons y t .nil)
def WdJ (n : List Nat) (c0 : Addr) (news : Led) (i : Nat) (m₁ : Str → Option Value) (news₁ : Led) : Prop :=
  ∃ lw k vs o v0, news₁ = (lw, listOf (List.toArray vs) k) :: (c0, o) :: news ∧ m₁ "words" = some (.ref lw) ∧ o.data = .cell v0 ∧ StrsAre vs ((wordsF (n.take i)).map S) ∧ @LT.lt Nat _ c0 lw
def WdC (ws : List (List Nat)) (c : Nat) (led : Led) (j : Nat) (ys : List Value) (nw : Led) : Prop := nw = led ∧ StrsAre ys ((ws.take j).map fun w => S (w ++ [c]))
theorem words_ctr (w loose mean mg mb) (n : List Nat) (t1 : Tok) (news : Led) (hn : n.length ≤ 8) :
    Ctr w loose mean mg mb 154 3 [.str (S n) t1] news (fun r news' => ∃ l k vs, r = .ref l ∧ news' = (l, listOf (List.toArray vs) k) :: news ∧ StrsAre vs ((wordsF n).map S) ∧ ∀ p ∈ news, p.1 ≠ l) := by
  unfold Ctr; k_fill; intro dp un gd cn cs a ccd cl outer A₀ base h₀ L m s Q E B F X N T hk hC hd hu hret
  (refine wpAny_call ?_; k_dflt (refine' code_defC ?k1 ?k2 ?k3 ?k4 ?k5 ?kA ?kF ?kK ?k6 ?k7 ?k8 ?k9 ?kB ?kD ?_ ?c2 ?c3 ?c4; (case kA => exact rfl); (case kF => exact rfl); (case kK => assumption); (case k1 => k_asm); (case k2 => k_asm); (case k3 => k_asm); (case k4 => k_asm); (case k5 => k_asm); (case k6 => k_is); (case k7 => k_is); (case k8 => ktr_room); (case k9 => exact BindsTo.of_eq rfl); (case kB => exact rfl); (case kD => decide +kernel); (case c2 => exact rfl); (case c3 => exact rfl); (case c4 => exact rfl); k_whole)); intro g' L' h' tk' cells' FG' F' N' Y' B' X' T' hlt; have hlt0 := hlt; (try k_lt hlt)
  have hY := CellsAre.one Y'; obtain ⟨o', hE', d1'⟩ := hY; subst hE'; clear Y'; (try simp only [List.cons_append, List.nil_append] at N'); (try dsimp only); (try k_fold)
  ((repeat' (((fail_if_success (with_reducible first | show wpAny _ _ (exec (Stmt.For _ _ _ _ _) _) _ _ _ | show wpAny _ _ (exec (Stmt.While _ _ _ _) _) _ _ _ | show wpAny _ _ (eval (Expr.ListComp _ _ _ _) _) _ _ _ | show wpAny _ _ (eval (Expr.Dict _ _ _) _) _ _ _ | show wpAny _ _ (binaryOp _ _ (Value.str (S (List.flatten _)) _)) _ _ _ | show wpAny _ _ (exec (Stmt.Assign _ (Expr.ListComp _ _ _ _) _) _) _ _ _ | show wpAny _ _ (call (Value.ref _) _ _) _ _ _ | show wpAny _ _ (pyIter _) _ _ _ | show wpAny _ _ (call (Value.builtin "len") [Value.ref _]) _ _ _ | show wpAny _ _ (subscriptTail _ _ (Value.ref _) (Value.ref _)) _ _ _ | show wpAny _ _ (compareOp CmpOp.Lt (Value.ref _) (Value.ref _)) _ _ _ | show wpAny _ _ (setItem (Value.ref _) (Value.int _ _) _) _ _ _))); (first | (k_unfold; (try dsimp only)) | (k_end; wrow_close) | walk1 | (dsimp only; walk1) | (leave1; walk_say "STEP leave1"; try dsimp only) | fail "no step"))))
  rename Fr _ _ _ _ => F1
  rename News _ _ _ ((_, W.listOf _ _) :: _) => N1
  rename (_ ∧ AllLt _ news) => hl2
  refine For_invTF F1 ?_ ?_
  · ((repeat' (((fail_if_success (with_reducible first | show wpAny _ _ (exec (Stmt.For _ _ _ _ _) _) _ _ _ | show wpAny _ _ (exec (Stmt.While _ _ _ _) _) _ _ _ | show wpAny _ _ (eval (Expr.ListComp _ _ _ _) _) _ _ _ | show wpAny _ _ (eval (Expr.Dict _ _ _) _) _ _ _ | show wpAny _ _ (binaryOp _ _ (Value.str (S (List.flatten _)) _)) _ _ _ | show wpAny _ _ (exec (Stmt.Assign _ (Expr.ListComp _ _ _ _) _) _) _ _ _ | show wpAny _ _ (call (Value.ref _) _ _) _ _ _ | show wpAny _ _ (pyIter _) _ _ _ | show wpAny _ _ (call (Value.builtin "len") [Value.ref _]) _ _ _ | show wpAny _ _ (subscriptTail _ _ (Value.ref _) (Value.ref _)) _ _ _ | show wpAny _ _ (compareOp CmpOp.Lt (Value.ref _) (Value.ref _)) _ _ _ | show wpAny _ _ (setItem (Value.ref _) (Value.int _ _) _) _ _ _))); (first | (k_unfold; (try dsimp only)) | (k_end; wrow_close) | walk1 | (dsimp only; walk1) | (leave1; walk_say "STEP leave1"; try dsimp only) | fail "no step"))))
    refine iter_strT (WdJ n (L' + 1) news) rfl F1 N1 (fun _ _ => rfl) ⟨_, _, [_], _, _, rfl, rfl, by assumption, .cons _ _ .nil, hl2.1⟩ ?_ ?_
    · intro I oI i c u m₁ news₁ s₁ hc hJ hoff hown F2 N2
      obtain ⟨lw, k, vs, o, v0, rfl, hw, ho, hv, hne⟩ := hJ
      rw [S_get] at hc
      have hI0 : @LT.lt Nat _ (L' + 1) I := hown (L' + 1, o') (.tail _ (.head _))
      have hI1 : @Ne Nat lw I := hoff (lw, _) (.head _)
      have hoc : ∀ p ∈ news, p.1 ≠ L' + 1 := fun p hp => Nat.ne_of_lt (Nat.lt_succ_of_lt (hlt0 p hp))
      have hoI : ∀ p ∈ news, p.1 ≠ I := fun p hp => hoff p (.tail _ (.tail _ hp))
      clear N1 F1
      ((repeat' (((fail_if_success (with_reducible first | show wpAny _ _ (exec (Stmt.For _ _ _ _ _) _) _ _ _ | show wpAny _ _ (exec (Stmt.While _ _ _ _) _) _ _ _ | show wpAny _ _ (eval (Expr.ListComp _ _ _ _) _) _ _ _ | show wpAny _ _ (eval (Expr.Dict _ _ _) _) _ _ _ | show wpAny _ _ (binaryOp _ _ (Value.str (S (List.flatten _)) _)) _ _ _ | show wpAny _ _ (exec (Stmt.Assign _ (Expr.ListComp _ _ _ _) _) _) _ _ _ | show wpAny _ _ (call (Value.ref _) _ _) _ _ _ | show wpAny _ _ (pyIter _) _ _ _ | show wpAny _ _ (call (Value.builtin "len") [Value.ref _]) _ _ _ | show wpAny _ _ (subscriptTail _ _ (Value.ref _) (Value.ref _)) _ _ _ | show wpAny _ _ (compareOp CmpOp.Lt (Value.ref _) (Value.ref _)) _ _ _ | show wpAny _ _ (setItem (Value.ref _) (Value.int _ _) _) _ _ _))); (first | (k_unfold; (try dsimp only)) | (k_end; wrow_close) | walk1 | (dsimp only; walk1) | (leave1; walk_say "STEP leave1"; try dsimp only) | fail "no step"))))
      k_dflt (refine LCg.ListComp_U (F₀ := by k_asm) (by with_unfolding_all rfl) (by decide) (by rfl) (by decide) (by rfl) ?_)
      ((repeat' (((fail_if_success (with_reducible first | show wpAny _ _ (exec (Stmt.For _ _ _ _ _) _) _ _ _ | show wpAny _ _ (exec (Stmt.While _ _ _ _) _) _ _ _ | show wpAny _ _ (eval (Expr.ListComp _ _ _ _) _) _ _ _ | show wpAny _ _ (eval (Expr.Dict _ _ _) _) _ _ _ | show wpAny _ _ (binaryOp _ _ (Value.str (S (List.flatten _)) _)) _ _ _ | show wpAny _ _ (exec (Stmt.Assign _ (Expr.ListComp _ _ _ _) _) _) _ _ _ | show wpAny _ _ (call (Value.ref _) _ _) _ _ _ | show wpAny _ _ (pyIter _) _ _ _ | show wpAny _ _ (call (Value.builtin "len") [Value.ref _]) _ _ _ | show wpAny _ _ (subscriptTail _ _ (Value.ref _) (Value.ref _)) _ _ _ | show wpAny _ _ (compareOp CmpOp.Lt (Value.ref _) (Value.ref _)) _ _ _ | show wpAny _ _ (setItem (Value.ref _) (Value.int _ _) _) _ _ _))); (first | (k_unfold; (try dsimp only)) | (k_end; wrow_close) | walk1 | (dsimp only; walk1) | (leave1; walk_say "STEP leave1"; try dsimp only) | fail "no step"))))
      rename Fr _ _ _ _ => F4
      rename News _ _ _ _ => N4
      have hpw : 2 ^ min i n.length ≤ 2 ^ 8 := Nat.pow_le_pow_right (by decide) (by omega)
      have hlv := hv.len_eq
      simp only [List.length_map, List.length_take, wordsF_len] at hlv
      have hsz : vs.toArray.size ≤ sizeLine := by rw [sizeLine_eq, List.size_toArray, hlv]; omega
      refine LCg.CompSrc.ledger rfl F4 N4 (.tail _ (.head _)) hsz fun g => ?_
      refine rest_J (WdC ((wordsF (n.take i))) c _) ?_ ?_ ⟨rfl, .nil⟩
      · intro j v ys nw I2 oI2 C oC D m₂ h tk E' hj hv2 hJ hoC hx F5 N5 off hne5
        obtain ⟨rfl, hys⟩ := hJ
        obtain ⟨x, t, rfl, hxs⟩ := hv.item j v (by simpa using hv2)
        obtain ⟨wd, hwd, rfl⟩ := strs_item hxs
        have hlw := wordsF_le (n.take i) wd (List.mem_of_getElem? hwd)
        rw [List.length_take] at hlw
        ((repeat' (((fail_if_success (with_reducible first | show wpAny _ _ (exec (Stmt.For _ _ _ _ _) _) _ _ _ | show wpAny _ _ (exec (Stmt.While _ _ _ _) _) _ _ _ | show wpAny _ _ (eval (Expr.ListComp _ _ _ _) _) _ _ _ | show wpAny _ _ (eval (Expr.Dict _ _ _) _) _ _ _ | show wpAny _ _ (binaryOp _ _ (Value.str (S (List.flatten _)) _)) _ _ _ | show wpAny _ _ (exec (Stmt.Assign _ (Expr.ListComp _ _ _ _) _) _) _ _ _ | show wpAny _ _ (call (Value.ref _) _ _) _ _ _ | show wpAny _ _ (pyIter _) _ _ _ | show wpAny _ _ (call (Value.builtin "len") [Value.ref _]) _ _ _ | show wpAny _ _ (subscriptTail _ _ (Value.ref _) (Value.ref _)) _ _ _ | show wpAny _ _ (compareOp CmpOp.Lt (Value.ref _) (Value.ref _)) _ _ _ | show wpAny _ _ (setItem (Value.ref _) (Value.int _ _) _) _ _ _))); (first | (k_unfold; (try dsimp only)) | (k_end; wrow_close) | walk1 | (dsimp only; walk1) | (leave1; walk_say "STEP leave1"; try dsimp only) | fail "no step"))))
        refine S_add (b := [c]) (by rw [sizeLine_eq, List.length_singleton]; omega) fun t' tk' => ?_
        refine comp_same (by k_asm) (by k_asm) off (.inr ⟨_, .tail _ (.head _), rfl, _, rfl⟩) ⟨rfl, ?_⟩
        rw [List.take_add_one, hwd, List.map_append]
        exact strsAre_snoc hys
      · intro ys nw hJ
        obtain ⟨rfl, hys⟩ := hJ
        have hll := hys.len_eq
        simp only [List.length_map, List.size_toArray, List.length_take, wordsF_len] at hll
        have hend : StrsAre (vs ++ ys) ((wordsF (n.take (i + 1))).map S) := by
          rw [List.take_add_one, hc]
          show StrsAre _ ((wordsF (n.take i ++ [c])).map S)
          rw [wordsF_snoc, List.map_append, List.map_map]
          refine hv.append' ?_
          rw [List.take_of_length_le (by rw [wordsF_len]; simp; omega)] at hys
          exact hys
        intro D h tk F6 N6 o1
        dsimp only
        have hlt7 : @LT.lt Nat _ (L' + 1) h.objs.size := Heap.lt_size (N6 (L' + 1, _) (.tail _ (.tail _ (.tail _ (.head _))))).1
        have hlt8 : @LT.lt Nat _ I h.objs.size := Heap.lt_size (N6 (I, _) (.tail _ (.head _))).1
        ((repeat' (((fail_if_success (with_reducible first | show wpAny _ _ (exec (Stmt.For _ _ _ _ _) _) _ _ _ | show wpAny _ _ (exec (Stmt.While _ _ _ _) _) _ _ _ | show wpAny _ _ (eval (Expr.ListComp _ _ _ _) _) _ _ _ | show wpAny _ _ (eval (Expr.Dict _ _ _) _) _ _ _ | show wpAny _ _ (binaryOp _ _ (Value.str (S (List.flatten _)) _)) _ _ _ | show wpAny _ _ (exec (Stmt.Assign _ (Expr.ListComp _ _ _ _) _) _) _ _ _ | show wpAny _ _ (call (Value.ref _) _ _) _ _ _ | show wpAny _ _ (pyIter _) _ _ _ | show wpAny _ _ (call (Value.builtin "len") [Value.ref _]) _ _ _ | show wpAny _ _ (subscriptTail _ _ (Value.ref _) (Value.ref _)) _ _ _ | show wpAny _ _ (compareOp CmpOp.Lt (Value.ref _) (Value.ref _)) _ _ _ | show wpAny _ _ (setItem (Value.ref _) (Value.int _ _) _) _ _ _))); (first | (k_unfold; (try dsimp only)) | (k_end; wrow_close) | walk1 | (dsimp only; walk1) | (leave1; walk_say "STEP leave1"; try dsimp only) | fail "no step"))))
        rename Fr _ _ _ _ => F9
        rename News _ _ _ _ => N9
        refine LoopE.next (((h.objs.size, listOf (vs ++ ys).toArray 0) :: (L' + 1, _) :: news)) F9 (cb_drop N9 ?_) ?_ ⟨h.objs.size, 0, vs ++ ys, _, _, rfl, rfl, by assumption, by assumption, hlt7⟩
        · intro p hp; simp only [List.mem_cons] at hp ⊢; grind
        · intro p hp
          simp only [List.mem_cons] at hp
          rcases hp with rfl | rfl | hp
          · exact Nat.ne_of_gt hlt8
          · exact Nat.ne_of_lt hI0
          · exact hoI p hp
    · intro h' tk m' news' F2 N2 hJ
      obtain ⟨lw, k, vs, o, v0, rfl, hw, ho, hv, hne⟩ := hJ
      rw [S_size, List.take_length] at hv
      k_steps
      refine hret _ _ _ _ (by k_asm) (cb_drop (by k_asm) ?_) ⟨lw, k, vs, rfl, rfl, hv, fun p hp => ?_⟩
      · intro p hp; simp only [List.mem_cons] at hp ⊢; grind
      · exact Nat.ne_of_lt (Nat.lt_trans (Nat.lt_succ_of_lt (hlt0 p hp)) hne)
  · intro _; rfl

end
section
local macro_rules | `(tactic| walk_at "subscriptTail Name UnaryOp ref int") => `(tactic| (k_here; (with_reducible rename News _ _ _ _ => Nw); k_dflt (refine item_last Nw (by walk_at "lm") ?_)))
local macro_rules | `(tactic| walk_at "getMethod ref") => `(tactic| (k_here; (with_reducible show wpAny _ _ (getMethod (Value.ref 36) _ _) _ _ _); (with_reducible rename Fr _ _ _ _ => Fw); (with_reducible rename Frag.In _ _ => Xw); k_dflt (refine getMethod_sub (pat_at (Frag.In.keeps Xw (Fr.keep Fw))) ?_)))
local macro_rules | `(tactic| walk_at "eval Lambda") => `(tactic| (k_here; (with_reducible rename Fr _ _ _ _ => Fw); (with_reducible rename News _ _ _ _ => Nw); k_dflt (refine' kla_eval ?d0 ?_; (case d0 => exact rfl)); k_dflt (refine' lam_any (lo := ?lo0) ?hl Fw Nw ?T ?C ?cd ?U ?t ?cl ?_; (case hl => ((try dsimp only); walk_at "lo")); (case T => k_asm); (case cd => exact rfl); (case C => walk_at "as"); (case U => k_updF); (case t => walk_at "as"); (case cl => exact rfl)); intro f' fo' ps'' h' tk' hlo' F' N' fc' tb' l1; (try dsimp only at N')))
local macro_rules | `(tactic| walk_at "getMethod str") => `(tactic| (k_here; (with_reducible refine getMethod_translate ?_)))
def bracketed (c : Nat) : Bool := c == 42 || c == 63 || c == 91
def chunkIn (c : Nat) : List Nat := if bracketed c then [91, c, 93] else [c]
def inOf (l : List Nat) : List Nat := l.flatMap fun c => 42 :: chunkIn c
def markOf (c : Nat) : List Nat := if c = 91 then [91, 92, 91, 93] else if bracketed c then [91, c, 93] else escaped c
def outOf (l : List Nat) : List (List Nat) := l.flatMap fun c => [[42], markOf c]
def SixOk (l : List Nat) : Prop := ∀ c ∈ l, c = 42 ∨ c = 97 ∨ c = 91 ∨ c = 63 ∨ c = 45 ∨ c = 33
theorem meas1 {L k n : Nat} (h : k < L) (e : n = 2 * (L - k) + 2 - 1) : 2 * (L - (k + 1)) + 2 - 0 < n := by omega
theorem meas2 {a n : Nat} (e : n = a + 2 - 0) : a + 2 - 2 < n := by omega
theorem meas3 {a n : Nat} (e : n = a + 2 - 0) : a + 2 - 1 < n := by omega
theorem two_left {c : Nat} (h : c = 42 ∨ c = 63 ∨ c = 91) (h2 : ¬ c = 91) : c = 42 ∨ c = 63 := h.elim .inl fun h => h.elim .inr fun h => absurd h h2
theorem inOf_len (l : List Nat) : (inOf l).length ≤ 4 * l.length := by
  induction l with
  | nil => simp [inOf]
  | cons c r ih =>
    have : (chunkIn c).length ≤ 3 := by unfold chunkIn; split <;> simp
    simp only [inOf, List.flatMap_cons, List.length_append, List.length_cons] at ih ⊢
    omega
theorem inOf_app (a b : List Nat) : inOf (a ++ b) = inOf a ++ inOf b := by simp [inOf]
theorem outOf_app (a b : List Nat) : outOf (a ++ b) = outOf a ++ outOf b := by simp [outOf]
theorem cut_at {l : List Nat} {k c : Nat} (h : l[k]? = some c) : l = l.take k ++ c :: l.drop (k + 1) := by
  obtain ⟨hi, hv⟩ := List.getElem?_eq_some_iff.mp h
  rw [← hv, ← List.drop_eq_getElem_cons hi, List.take_append_drop]
theorem inOf_at {l : List Nat} {k c : Nat} (h : l[k]? = some c) : inOf l = inOf (l.take k) ++ (42 :: chunkIn c ++ inOf (l.drop (k + 1))) := by
  conv => lhs; rw [cut_at h, inOf_app]
  simp [inOf]
theorem take_at {l : List Nat} {k c : Nat} (h : l[k]? = some c) : l.take (k + 1) = l.take k ++ [c] := by rw [List.take_add_one, h]; rfl
theorem signIs_app {a b : List Nat} {i : Int} {j : Nat} {c : Nat} (h : b[j]? = some c) (hi : i = ((a.length + j : Nat) : Int)) : SignIs (a ++ b) i c := by
  refine ⟨a.length + j, hi, ?_⟩
  rw [List.getElem?_append_right (Nat.le_add_right _ _), Nat.add_sub_cancel_left]; exact h
theorem ex_news {h₀ h : Heap} {L l : Addr} {o : Obj} {news : Led} (_ : News h₀ L h ((l, o) :: news)) : ∃ x, x = l := ⟨l, rfl⟩
theorem beqS (a b : List Nat) (h : a ≠ b) : ((S a).cps.toList == (S b).cps.toList) = false := by rw [S_list, S_list]; exact beq_eq_false_iff_ne.mpr h
theorem push_list (vs : List Value) (v : Value) : vs.toArray.push v = (vs ++ [v]).toArray := by rw [List.push_toArray]
theorem outOf_len (m : List Nat) : (outOf m).length = 2 * m.length := by
  induction m with
  | nil => rfl
  | cons c r ih => simp only [outOf, List.flatMap_cons, List.length_append] at ih ⊢; rw [ih]; simp; omega
def TrJ (l : List Nat) (t1 t2 t3 : Tok) (lr b : Addr) (news : Led) (n : Nat) (m₁ : Str → Option Value) (news₁ : Led) : Prop :=
  ∃ k ph vs kk ti ps, ∃ iv : Int, n = 2 * (l.length - k) + 2 - ph ∧ k ≤ l.length ∧ ph ≤ 2 ∧ (ph = 1 → k < l.length) ∧ (ph = 2 → k = l.length) ∧ m₁ "i" = some (.int iv ti) ∧ iv = (((inOf (l.take k)).length + min ph 1 : Nat) : Int) ∧
    m₁ "pat" = some (.str (S (inOf l ++ [42])) t1) ∧ m₁ "STAR" = some (.str (S [42]) t2) ∧ m₁ "QUESTION_MARK" = some (.str (S [46]) t3) ∧ m₁ "res" = some (.ref lr) ∧ m₁ "add" = some (.ref b) ∧ (∃ tn, m₁ "n" = some (.int ((inOf l ++ [42]).length : Int) tn)) ∧
    news₁ = (b, boundObj "list.append" lr) :: (lr, listOf (List.toArray vs) kk) :: (50, tabObj ps) :: news ∧ TabOk ps ∧ StrsAre vs ((outOf (l.take k) ++ (if ph = 0 then [] else [[42]])).map S) ∧
    (ph = 0 → 0 < k → ∃ vs' x t', vs = vs' ++ [.str x t'] ∧ t2 < t' ∧ (x == S [42]) = false)
theorem translate_ctr (w loose mean mg mb) (l : List Nat) (hl : l.length ≤ 8) (h6 : SixOk l) (t1 t2 t3 : Tok) (ht2 : t2 ≠ 0) (ps : Array Value) (hps : TabOk ps) (news : Led) (h50 : ∀ p ∈ news, p.1 ≠ 50) :
    CtrT w loose mean mg mb 55 6 [.str (S (inOf l ++ [42])) t1, .str (S [42]) t2, .str (S [46]) t3] ((50, tabObj ps) :: news) (t2 + 1) (fun r news' => ∃ lr vs k ps', r = .ref lr ∧ news' = (lr, listOf (List.toArray vs) k) :: (50, tabObj ps') :: news ∧ TabOk ps' ∧ StrsAre vs ((outOf l ++ [[42]]).map S) ∧ ∀ p ∈ news, p.1 ≠ lr) := by
  have hlen : (inOf l ++ [42]).length ≤ 1000000 := by
    have := inOf_len l
    simp only [List.length_append, List.length_singleton]; omega
  refine CtrT.mk ?_; k_fill; intro dp un gd cn cs a ccd cl outer A₀ base h₀ L m s Q E B F X N T hk hC hd hu hlo hret
  (refine wpAny_call ?_; k_dflt (refine' code_def ?k1 ?k2 ?k3 ?k4 ?k5 ?kA ?kF ?kK ?k6 ?k7 ?k8 ?k9 ?kB ?_ ?c2 ?c3 ?c4 ?c5; (case kA => exact rfl); (case kF => exact rfl); (case kK => assumption); (case k1 => k_asm); (case k2 => k_asm); (case k3 => k_asm); (case k4 => k_asm); (case k5 => k_asm); (case k6 => k_is); (case k7 => k_is); (case k8 => ktr_room); (case k9 => exact BindsTo.of_eq rfl); (case c5 => decide); (case kB => exact locs rfl); (case c2 => exact rfl); (case c3 => exact rfl); (case c4 => exact rfl); k_whole)); intro g' L' h' FG' F' N' B' X' T'; (try dsimp only); (try k_fold)
  have hC' := hC.keeps FG'.keep
  ((repeat' (((fail_if_success (with_reducible first | show wpAny _ _ (exec (Stmt.For _ _ _ _ _) _) _ _ _ | show wpAny _ _ (exec (Stmt.While _ _ _ _) _) _ _ _ | show wpAny _ _ (eval (Expr.ListComp _ _ _ _) _) _ _ _ | show wpAny _ _ (eval (Expr.Dict _ _ _) _) _ _ _ | show wpAny _ _ (binaryOp _ _ (Value.str (S (List.flatten _)) _)) _ _ _ | show wpAny _ _ (exec (Stmt.Assign _ (Expr.ListComp _ _ _ _) _) _) _ _ _ | show wpAny _ _ (call (Value.ref _) _ _) _ _ _ | show wpAny _ _ (pyIter _) _ _ _ | show wpAny _ _ (call (Value.builtin "len") [Value.ref _]) _ _ _ | show wpAny _ _ (subscriptTail _ _ (Value.ref _) (Value.ref _)) _ _ _ | show wpAny _ _ (compareOp CmpOp.Lt (Value.ref _) (Value.ref _)) _ _ _ | show wpAny _ _ (setItem (Value.ref _) (Value.int _ _) _) _ _ _))); (first | (k_unfold; (try dsimp only)) | (k_end; wrow_close) | walk1 | (dsimp only; walk1) | (leave1; walk_say "STEP leave1"; try dsimp only) | fail "no step"))))
  rename Fr _ _ _ _ => F1
  rename News _ _ _ _ => N1
  rename (_ ∧ AllLt _ news) => hl2
  obtain ⟨lr, rfl⟩ := ex_news N1
  refine append_attrN F1 N1 (.head _) fun b h2 F2 N2 hb2 => ?_
  clear N1 F1
  ((repeat' (((fail_if_success (with_reducible first | show wpAny _ _ (exec (Stmt.For _ _ _ _ _) _) _ _ _ | show wpAny _ _ (exec (Stmt.While _ _ _ _) _) _ _ _ | show wpAny _ _ (eval (Expr.ListComp _ _ _ _) _) _ _ _ | show wpAny _ _ (eval (Expr.Dict _ _ _) _) _ _ _ | show wpAny _ _ (binaryOp _ _ (Value.str (S (List.flatten _)) _)) _ _ _ | show wpAny _ _ (exec (Stmt.Assign _ (Expr.ListComp _ _ _ _) _) _) _ _ _ | show wpAny _ _ (call (Value.ref _) _ _) _ _ _ | show wpAny _ _ (pyIter _) _ _ _ | show wpAny _ _ (call (Value.builtin "len") [Value.ref _]) _ _ _ | show wpAny _ _ (subscriptTail _ _ (Value.ref _) (Value.ref _)) _ _ _ | show wpAny _ _ (compareOp CmpOp.Lt (Value.ref _) (Value.ref _)) _ _ _ | show wpAny _ _ (setItem (Value.ref _) (Value.int _ _) _) _ _ _))); (first | (k_unfold; (try dsimp only)) | (k_end; wrow_close) | walk1 | (dsimp only; walk1) | (leave1; walk_say "STEP leave1"; try dsimp only) | fail "no step"))))
  rename Fr _ _ _ _ => F3
  rename News _ _ _ _ => N3
  have N4 : News g' L' _ ((b, boundObj "list.append" lr) :: (lr, W.listOf [].toArray 0) :: (50, tabObj ps) :: news) := cb_drop N3 (by intro p hp; simp only [List.mem_cons] at hp ⊢; grind)
  refine While_invT (n₀ := 2 * l.length + 2) (lo := t2 + 1) (TrJ l t1 t2 t3 lr b news) ?hl0 F3 N4 ?hJ0 ?turn (hE := ?hE)
  case hE => first | passes_own | with_unfolding_all passes_own
  case hl0 => assumption
  case hJ0 =>
    refine ⟨0, 0, [], 0, _, ps, 0, rfl, Nat.zero_le _, Nat.zero_le _, nofun, nofun, rfl, rfl, ?_, ?_, ?_, ?_, ?_, ?_, ?_, hps, .nil, nofun⟩
    all_goals (first | (with_unfolding_all rfl) | exact ⟨_, rfl⟩ | skip)
  clear F3 N3 N4
  intro n m₁ news₁ h₁ tk₁ hlo1 F4 N4 hJ
  obtain ⟨k, ph, vs, kk, ti, ps', iv, hn, hk, hp2, hp1, hpe, hi, hiv, hpat, hS, hQ, hr, ha, ⟨tn, hnn⟩, rfl, hps', hv, hlast⟩ := hJ
  have hL : (inOf l ++ [42]).length = (inOf l).length + 1 := by simp
  have hvs : vs.length ≤ 17 := by
    have h1 := hv.len_eq
    rw [List.length_map, List.length_append, outOf_len, List.length_take] at h1
    have h2 : (if ph = 0 then ([] : List (List Nat)) else [[42]]).length ≤ 1 := by split <;> simp
    omega
  rcases (by omega : ph = 2 ∨ ph = 0 ∨ ph = 1) with rfl | rfl | rfl
  · -- the end
    obtain rfl := hpe rfl
    rw [List.take_length] at hiv hv
    have hnot : ¬ iv < ((inOf l ++ [42]).length : Int) := by rw [hL, hiv]; omega
    ((repeat' (((fail_if_success (with_reducible first | show wpAny _ _ (exec (Stmt.For _ _ _ _ _) _) _ _ _ | show wpAny _ _ (exec (Stmt.While _ _ _ _) _) _ _ _ | show wpAny _ _ (eval (Expr.ListComp _ _ _ _) _) _ _ _ | show wpAny _ _ (eval (Expr.Dict _ _ _) _) _ _ _ | show wpAny _ _ (binaryOp _ _ (Value.str (S (List.flatten _)) _)) _ _ _ | show wpAny _ _ (exec (Stmt.Assign _ (Expr.ListComp _ _ _ _) _) _) _ _ _ | show wpAny _ _ (call (Value.ref _) _ _) _ _ _ | show wpAny _ _ (pyIter _) _ _ _ | show wpAny _ _ (call (Value.builtin "len") [Value.ref _]) _ _ _ | show wpAny _ _ (subscriptTail _ _ (Value.ref _) (Value.ref _)) _ _ _ | show wpAny _ _ (compareOp CmpOp.Lt (Value.ref _) (Value.ref _)) _ _ _ | show wpAny _ _ (setItem (Value.ref _) (Value.int _ _) _) _ _ _))); (first | (k_unfold; (try dsimp only)) | (k_end; wrow_close) | walk1 | (dsimp only; walk1) | (leave1; walk_say "STEP leave1"; try dsimp only) | fail "no step"))))
    any_goals (exfalso; omega)
    exact hret _ _ _ _ (by k_asm) (cb_drop (by k_asm) (by intro p hp; simp only [List.mem_cons] at hp ⊢; grind)) ⟨lr, vs, kk, ps', rfl, rfl, hps', hv, fun p hp => Nat.ne_of_lt (ktn_ltOf hl2.2 p hp)⟩
  · -- a star
    have e42 : ((S [42]).cps.toList == (Str.ofString "*").cps.toList) = true := rfl
    have h42 : SignIs (inOf l ++ [42]) iv 42 := by
      by_cases e : k = l.length
      · subst e
        rw [List.take_length] at hiv
        exact signIs_app (j := 0) rfl (by rw [hiv]; simp)
      · obtain ⟨c, hc⟩ : ∃ c, l[k]? = some c := ⟨l[k]'(by omega), List.getElem?_eq_getElem _⟩
        rw [inOf_at hc, List.append_assoc]
        exact signIs_app (j := 0) rfl (by rw [hiv]; simp)
    have hin : iv < ((inOf l ++ [42]).length : Int) := by obtain ⟨q, hq, hq2⟩ := h42; have := (List.getElem?_eq_some_iff.mp hq2).1; omega
    have hlb : @LT.lt Nat _ lr b := hb2 (lr, _) (.head _)
    have hl50 : @LT.lt Nat _ 50 lr := hl2.1
    rcases Nat.eq_zero_or_pos k with hk0 | hk0
    · obtain rfl : vs = [] := by subst hk0; cases hv; rfl
      have hne : (!(List.toArray ([] : List Value)).isEmpty) = false := rfl
      have hvl : (List.toArray ([] : List Value)).size ≤ 1000000 := by simp
      ((repeat' (((fail_if_success (with_reducible first | show wpAny _ _ (exec (Stmt.For _ _ _ _ _) _) _ _ _ | show wpAny _ _ (exec (Stmt.While _ _ _ _) _) _ _ _ | show wpAny _ _ (eval (Expr.ListComp _ _ _ _) _) _ _ _ | show wpAny _ _ (eval (Expr.Dict _ _ _) _) _ _ _ | show wpAny _ _ (binaryOp _ _ (Value.str (S (List.flatten _)) _)) _ _ _ | show wpAny _ _ (exec (Stmt.Assign _ (Expr.ListComp _ _ _ _) _) _) _ _ _ | show wpAny _ _ (call (Value.ref _) _ _) _ _ _ | show wpAny _ _ (pyIter _) _ _ _ | show wpAny _ _ (call (Value.builtin "len") [Value.ref _]) _ _ _ | show wpAny _ _ (subscriptTail _ _ (Value.ref _) (Value.ref _)) _ _ _ | show wpAny _ _ (compareOp CmpOp.Lt (Value.ref _) (Value.ref _)) _ _ _ | show wpAny _ _ (setItem (Value.ref _) (Value.int _ _) _) _ _ _))); (first | (k_unfold; (try dsimp only)) | (k_end; wrow_close) | walk1 | (dsimp only; walk1) | (leave1; walk_say "STEP leave1"; try dsimp only) | fail "no step"))))
      · exact .of (by k_asm) (.head _)
      rename Fr _ _ _ _ => F9
      rename News _ _ _ _ => N9
      refine bound_append F9 N9 (.head _) (by k_upd) (fun h' F9 N9 => ?_) (by simp)
      ((repeat' (((fail_if_success (with_reducible first | show wpAny _ _ (exec (Stmt.For _ _ _ _ _) _) _ _ _ | show wpAny _ _ (exec (Stmt.While _ _ _ _) _) _ _ _ | show wpAny _ _ (eval (Expr.ListComp _ _ _ _) _) _ _ _ | show wpAny _ _ (eval (Expr.Dict _ _ _) _) _ _ _ | show wpAny _ _ (binaryOp _ _ (Value.str (S (List.flatten _)) _)) _ _ _ | show wpAny _ _ (exec (Stmt.Assign _ (Expr.ListComp _ _ _ _) _) _) _ _ _ | show wpAny _ _ (call (Value.ref _) _ _) _ _ _ | show wpAny _ _ (pyIter _) _ _ _ | show wpAny _ _ (call (Value.builtin "len") [Value.ref _]) _ _ _ | show wpAny _ _ (subscriptTail _ _ (Value.ref _) (Value.ref _)) _ _ _ | show wpAny _ _ (compareOp CmpOp.Lt (Value.ref _) (Value.ref _)) _ _ _ | show wpAny _ _ (setItem (Value.ref _) (Value.int _ _) _) _ _ _))); (first | (k_unfold; (try dsimp only)) | (k_end; wrow_close) | walk1 | (dsimp only; walk1) | (leave1; walk_say "STEP leave1"; try dsimp only) | fail "no step"))))
      rename Fr _ _ _ _ => F9
      rename News _ _ _ _ => N9
      rw [push_list] at N9
      refine ⟨_, _, _, _, 2 * (l.length - k) + 2 - (if k = l.length then 2 else 1), rfl, F9, N9, ?_, k, (if k = l.length then 2 else 1), _, _, _, ps', iv + 1, rfl, hk, ?_, ?_, ?_, rfl, ?_, hpat, hS, hQ, hr, ha, ⟨tn, hnn⟩, rfl, hps', ?_, ?_⟩
      · split <;> first | exact meas2 (by assumption) | exact meas3 (by assumption) | omega
      · split <;> first | exact meas2 (by assumption) | exact meas3 (by assumption) | omega
      · split <;> first | exact meas2 (by assumption) | exact meas3 (by assumption) | omega
      · split <;> first | exact meas2 (by assumption) | exact meas3 (by assumption) | omega
      · rw [hiv]; split <;> omega
      · have e : (if (if k = l.length then 2 else 1) = 0 then ([] : List (List Nat)) else [[42]]) = [[42]] := by split <;> rfl
        rw [e, List.map_append]
        have e0 : (outOf (l.take k) ++ (if 0 = 0 then ([] : List (List Nat)) else [[42]])) = outOf (l.take k) := by simp
        rw [e0] at hv
        exact hv.append' (.cons _ _ .nil)
      · split <;> nofun
    · obtain ⟨vs', x, t', rfl, htt, hx⟩ := hlast rfl hk0
      have ht0 : t' ≠ 0 := Nat.ne_of_gt (Nat.lt_of_le_of_lt (Nat.zero_le _) htt)
      have htn : t' ≠ t2 := Nat.ne_of_gt htt
      have hvl : (vs' ++ [Value.str x t']).toArray.size ≤ 1000000 := by
        rw [List.size_toArray]; omega
      have hne : (!(vs' ++ [Value.str x t']).toArray.isEmpty) = true := by simp
      ((repeat' (((fail_if_success (with_reducible first | show wpAny _ _ (exec (Stmt.For _ _ _ _ _) _) _ _ _ | show wpAny _ _ (exec (Stmt.While _ _ _ _) _) _ _ _ | show wpAny _ _ (eval (Expr.ListComp _ _ _ _) _) _ _ _ | show wpAny _ _ (eval (Expr.Dict _ _ _) _) _ _ _ | show wpAny _ _ (binaryOp _ _ (Value.str (S (List.flatten _)) _)) _ _ _ | show wpAny _ _ (exec (Stmt.Assign _ (Expr.ListComp _ _ _ _) _) _) _ _ _ | show wpAny _ _ (call (Value.ref _) _ _) _ _ _ | show wpAny _ _ (pyIter _) _ _ _ | show wpAny _ _ (call (Value.builtin "len") [Value.ref _]) _ _ _ | show wpAny _ _ (subscriptTail _ _ (Value.ref _) (Value.ref _)) _ _ _ | show wpAny _ _ (compareOp CmpOp.Lt (Value.ref _) (Value.ref _)) _ _ _ | show wpAny _ _ (setItem (Value.ref _) (Value.int _ _) _) _ _ _))); (first | (k_unfold; (try dsimp only)) | (k_end; wrow_close) | walk1 | (dsimp only; walk1) | (leave1; walk_say "STEP leave1"; try dsimp only) | fail "no step"))))
      · exact .of (by k_asm) (.head _)
      rename Fr _ _ _ _ => F9
      rename News _ _ _ _ => N9
      refine bound_append F9 N9 (.head _) (by k_upd) (fun h' F9 N9 => ?_) (by rw [sizeLine_eq, List.size_toArray]; omega)
      ((repeat' (((fail_if_success (with_reducible first | show wpAny _ _ (exec (Stmt.For _ _ _ _ _) _) _ _ _ | show wpAny _ _ (exec (Stmt.While _ _ _ _) _) _ _ _ | show wpAny _ _ (eval (Expr.ListComp _ _ _ _) _) _ _ _ | show wpAny _ _ (eval (Expr.Dict _ _ _) _) _ _ _ | show wpAny _ _ (binaryOp _ _ (Value.str (S (List.flatten _)) _)) _ _ _ | show wpAny _ _ (exec (Stmt.Assign _ (Expr.ListComp _ _ _ _) _) _) _ _ _ | show wpAny _ _ (call (Value.ref _) _ _) _ _ _ | show wpAny _ _ (pyIter _) _ _ _ | show wpAny _ _ (call (Value.builtin "len") [Value.ref _]) _ _ _ | show wpAny _ _ (subscriptTail _ _ (Value.ref _) (Value.ref _)) _ _ _ | show wpAny _ _ (compareOp CmpOp.Lt (Value.ref _) (Value.ref _)) _ _ _ | show wpAny _ _ (setItem (Value.ref _) (Value.int _ _) _) _ _ _))); (first | (k_unfold; (try dsimp only)) | (k_end; wrow_close) | walk1 | (dsimp only; walk1) | (leave1; walk_say "STEP leave1"; try dsimp only) | fail "no step"))))
      rename Fr _ _ _ _ => F9
      rename News _ _ _ _ => N9
      rw [push_list] at N9
      refine ⟨_, _, _, _, 2 * (l.length - k) + 2 - (if k = l.length then 2 else 1), rfl, F9, N9, ?_, k, (if k = l.length then 2 else 1), _, _, _, ps', iv + 1, rfl, hk, ?_, ?_, ?_, rfl, ?_, hpat, hS, hQ, hr, ha, ⟨tn, hnn⟩, rfl, hps', ?_, ?_⟩
      · split <;> first | exact meas2 (by assumption) | exact meas3 (by assumption) | omega
      · split <;> first | exact meas2 (by assumption) | exact meas3 (by assumption) | omega
      · split <;> first | exact meas2 (by assumption) | exact meas3 (by assumption) | omega
      · split <;> first | exact meas2 (by assumption) | exact meas3 (by assumption) | omega
      · rw [hiv]; split <;> omega
      · have e : (if (if k = l.length then 2 else 1) = 0 then ([] : List (List Nat)) else [[42]]) = [[42]] := by split <;> rfl
        rw [e, List.map_append]
        have e0 : (outOf (l.take k) ++ (if 0 = 0 then ([] : List (List Nat)) else [[42]])) = outOf (l.take k) := by simp
        rw [e0] at hv
        exact hv.append' (.cons _ _ .nil)
      · split <;> nofun
  · -- a mark
    obtain ⟨c, hc⟩ : ∃ c, l[k]? = some c := ⟨l[k]'(by have := hp1 rfl; omega), List.getElem?_eq_getElem _⟩
    have hlb : @LT.lt Nat _ lr b := hb2 (lr, _) (.head _)
    have hl50 : @LT.lt Nat _ 50 lr := hl2.1
    have hin0 := inOf_at hc
    have hc6 := h6 c (List.mem_of_getElem? hc)
    have hiv' : iv = (((inOf (l.take k)).length + 1 : Nat) : Int) := by rw [hiv]; rfl
    have hsi : ∀ (j d : Nat), (chunkIn c)[j]? = some d → SignIs (inOf l ++ [42]) (iv + j) d := by
      intro j d hd
      rw [hin0, List.append_assoc]
      refine signIs_app (j := j + 1) ?_ (by rw [hiv']; push_cast; omega)
      have hjl : j < (chunkIn c).length := (List.getElem?_eq_some_iff.mp hd).1
      simp only [List.cons_append, List.append_assoc, List.getElem?_cons_succ]
      rw [List.getElem?_append_left hjl]; exact hd
    have hbr : ((inOf (l.take (k + 1))).length : Int) = iv + (chunkIn c).length := by
      rw [take_at hc, inOf_app, List.length_append, hiv']
      simp [inOf]; omega
    have hin : iv + (chunkIn c).length < ((inOf l ++ [42]).length : Int) := by
      rw [hL, hin0, hiv']; simp; omega
    cases hbc : bracketed c with
    | true =>
      have hcb : c = 42 ∨ c = 63 ∨ c = 91 := by
        rcases hc6 with rfl | rfl | rfl | rfl | rfl | rfl <;> simp [bracketed] at hbc ⊢
      have hch : chunkIn c = [91, c, 93] := by simp [chunkIn, hbc]
      have h1 : SignIs (inOf l ++ [42]) iv 91 := by have := hsi 0 91 (by rw [hch]; rfl); simpa using this
      have h2 : SignIs (inOf l ++ [42]) (iv + 1) c := hsi 1 c (by rw [hch]; rfl)
      have h3 : SignIs (inOf l ++ [42]) (iv + 1 + 1) 93 := by have := hsi 2 93 (by rw [hch]; rfl); rw [Int.add_assoc]; exact this
      rw [hch] at hbr hin
      have hin1 : iv < ((inOf l ++ [42]).length : Int) := by simp at hin; omega
      have hin2 : iv + 1 < ((inOf l ++ [42]).length : Int) := by simp at hin; omega
      have hin3 : iv + 1 + 1 < ((inOf l ++ [42]).length : Int) := by simp at hin; omega
      have e1 : ((S [91]).cps.toList == (Str.ofString "*").cps.toList) = false := rfl
      have e2 : ((S [91]).cps.toList == (Str.ofString "?").cps.toList) = false := rfl
      have e3 : ((S [91]).cps.toList == (Str.ofString "[").cps.toList) = true := rfl
      have e4 : ((S [c]).cps.toList == (Str.ofString "!").cps.toList) = false := by rcases hcb with rfl | rfl | rfl <;> rfl
      have e5 : ((S [c]).cps.toList == (Str.ofString "]").cps.toList) = false := by rcases hcb with rfl | rfl | rfl <;> rfl
      have e6 : ((S [93]).cps.toList == (Str.ofString "]").cps.toList) = true := rfl
      have e7 : (PySem.Builtin.Str.occurrences (S [c]) (Str.ofString "-") 0 (S [c]).length 1).isEmpty = true := by rcases hcb with rfl | rfl | rfl <;> decide +kernel
      have e8 : (PySem.Builtin.Str.occurrences (S [c]) (Str.ofString "\\") 0 (S [c]).length ((S [c]).length + 1)).isEmpty = true := by rcases hcb with rfl | rfl | rfl <;> decide +kernel
      have e9 : Txt.slice (S (inOf l ++ [42])) (some (iv + 1)) (some (iv + 1 + 1)) = S [c] := by
        obtain ⟨q, hq, hq2⟩ := h2
        have hql := (List.getElem?_eq_some_iff.mp hq2).1
        rw [hq, show ((q : Int) + 1) = ((q + 1 : Nat) : Int) by push_cast; rfl, slice_S (Nat.le_succ _) hql]
        rw [show q + 1 - q = 1 by omega, List.take_one, List.head?_drop, hq2]; rfl
      have hszP : (S (inOf l ++ [42])).length ≤ sizeLine := by rw [S_len, sizeLine_eq]; omega
      ((repeat' (((fail_if_success (with_reducible first | show wpAny _ _ (exec (Stmt.For _ _ _ _ _) _) _ _ _ | show wpAny _ _ (exec (Stmt.While _ _ _ _) _) _ _ _ | show wpAny _ _ (eval (Expr.ListComp _ _ _ _) _) _ _ _ | show wpAny _ _ (eval (Expr.Dict _ _ _) _) _ _ _ | show wpAny _ _ (binaryOp _ _ (Value.str (S (List.flatten _)) _)) _ _ _ | show wpAny _ _ (exec (Stmt.Assign _ (Expr.ListComp _ _ _ _) _) _) _ _ _ | show wpAny _ _ (call (Value.ref _) _ _) _ _ _ | show wpAny _ _ (pyIter _) _ _ _ | show wpAny _ _ (call (Value.builtin "len") [Value.ref _]) _ _ _ | show wpAny _ _ (subscriptTail _ _ (Value.ref _) (Value.ref _)) _ _ _ | show wpAny _ _ (compareOp CmpOp.Lt (Value.ref _) (Value.ref _)) _ _ _ | show wpAny _ _ (setItem (Value.ref _) (Value.int _ _) _) _ _ _))); (first | (k_unfold; (try dsimp only)) | (k_end; wrow_close) | walk1 | (dsimp only; walk1) | (leave1; walk_say "STEP leave1"; try dsimp only) | fail "no step"))))
      refine whl_start 100 ?_
      have h0 : SignIs [c] 0 c := ⟨0, rfl, rfl⟩
      have hl0 : [c].length ≤ 1000000 := by simp
      have hnl : ∀ p ∈ news, p.1 ≠ lr := fun p hp => Nat.ne_of_lt (ktn_ltOf hl2.2 p hp)
      ((repeat' (((fail_if_success (with_reducible first | show wpAny _ _ (exec (Stmt.For _ _ _ _ _) _) _ _ _ | show wpAny _ _ (exec (Stmt.While _ _ _ _) _) _ _ _ | show wpAny _ _ (eval (Expr.ListComp _ _ _ _) _) _ _ _ | show wpAny _ _ (eval (Expr.Dict _ _ _) _) _ _ _ | show wpAny _ _ (binaryOp _ _ (Value.str (S (List.flatten _)) _)) _ _ _ | show wpAny _ _ (exec (Stmt.Assign _ (Expr.ListComp _ _ _ _) _) _) _ _ _ | show wpAny _ _ (call (Value.ref _) _ _) _ _ _ | show wpAny _ _ (pyIter _) _ _ _ | show wpAny _ _ (call (Value.builtin "len") [Value.ref _]) _ _ _ | show wpAny _ _ (subscriptTail _ _ (Value.ref _) (Value.ref _)) _ _ _ | show wpAny _ _ (compareOp CmpOp.Lt (Value.ref _) (Value.ref _)) _ _ _ | show wpAny _ _ (setItem (Value.ref _) (Value.int _ _) _) _ _ _))); (first | (k_unfold; (try dsimp only)) | (k_end; wrow_close) | walk1 | (dsimp only; walk1) | (leave1; walk_say "STEP leave1"; try dsimp only) | fail "no step"))))
      rename Fr _ _ _ _ => F9
      rename News _ _ _ _ => N9
      rename (_ = Value.type "function") => hfc
      rename Frag.In _ _ => X9
      refine sub_S (lo := t2 + 1) (by (walk_at "lo")) (pat_at (X9.keeps F9.keep)) (code_at (X9.keeps F9.keep)) (N9 _ (.head _)).1 hfc hcb fun h9 t9 k9 hlo9 hk9 => ?_
      have F8 := F9.keeps hk9
      have N8 := N9.grown hk9
      clear F9 N9 hk9
      have hmk : (S (markOf c) == S [42]) = false := by rcases hcb with rfl | rfl | rfl <;> decide
      by_cases h91 : c = 91
      · have e10 : ([Str.ofString "^", Str.ofString "["].any fun x => x == S [c]) = true := by subst h91; decide +kernel
        ((repeat' (((fail_if_success (with_reducible first | show wpAny _ _ (exec (Stmt.For _ _ _ _ _) _) _ _ _ | show wpAny _ _ (exec (Stmt.While _ _ _ _) _) _ _ _ | show wpAny _ _ (eval (Expr.ListComp _ _ _ _) _) _ _ _ | show wpAny _ _ (eval (Expr.Dict _ _ _) _) _ _ _ | show wpAny _ _ (binaryOp _ _ (Value.str (S (List.flatten _)) _)) _ _ _ | show wpAny _ _ (exec (Stmt.Assign _ (Expr.ListComp _ _ _ _) _) _) _ _ _ | show wpAny _ _ (call (Value.ref _) _ _) _ _ _ | show wpAny _ _ (pyIter _) _ _ _ | show wpAny _ _ (call (Value.builtin "len") [Value.ref _]) _ _ _ | show wpAny _ _ (subscriptTail _ _ (Value.ref _) (Value.ref _)) _ _ _ | show wpAny _ _ (compareOp CmpOp.Lt (Value.ref _) (Value.ref _)) _ _ _ | show wpAny _ _ (setItem (Value.ref _) (Value.int _ _) _) _ _ _))); (first | (k_unfold; (try dsimp only)) | (k_end; wrow_close) | walk1 | (dsimp only; walk1) | (leave1; walk_say "STEP leave1"; try dsimp only) | fail "no step"))))
        · exact .of (by k_asm) (.tail _ (.tail _ (.head _)))
        rename Fr _ _ _ _ => F9
        rename News _ _ _ _ => N9
        replace N9 := drop1 (drop1 N9)
        rename TabOk _ => htab
        have em : Str.empty ++ Str.ofString "[" ++ (Str.ofString "\\" ++ S [c]) ++ Str.ofString "]" = S (markOf c) := by subst h91; decide +kernel
        rw [em]
        refine bound_append F9 N9 (.head _) (by k_upd) (fun h' F9 N9 => ?_) (by rw [sizeLine_eq, List.size_toArray]; omega)
        ((repeat' (((fail_if_success (with_reducible first | show wpAny _ _ (exec (Stmt.For _ _ _ _ _) _) _ _ _ | show wpAny _ _ (exec (Stmt.While _ _ _ _) _) _ _ _ | show wpAny _ _ (eval (Expr.ListComp _ _ _ _) _) _ _ _ | show wpAny _ _ (eval (Expr.Dict _ _ _) _) _ _ _ | show wpAny _ _ (binaryOp _ _ (Value.str (S (List.flatten _)) _)) _ _ _ | show wpAny _ _ (exec (Stmt.Assign _ (Expr.ListComp _ _ _ _) _) _) _ _ _ | show wpAny _ _ (call (Value.ref _) _ _) _ _ _ | show wpAny _ _ (pyIter _) _ _ _ | show wpAny _ _ (call (Value.builtin "len") [Value.ref _]) _ _ _ | show wpAny _ _ (subscriptTail _ _ (Value.ref _) (Value.ref _)) _ _ _ | show wpAny _ _ (compareOp CmpOp.Lt (Value.ref _) (Value.ref _)) _ _ _ | show wpAny _ _ (setItem (Value.ref _) (Value.int _ _) _) _ _ _))); (first | (k_unfold; (try dsimp only)) | (k_end; wrow_close) | walk1 | (dsimp only; walk1) | (leave1; walk_say "STEP leave1"; try dsimp only) | fail "no step"))))
        rename Fr _ _ _ _ => F9
        rename News _ _ _ _ => N9
        rw [push_list] at N9
        have hkl : k < l.length := hp1 rfl
        refine ⟨_, _, _, _, 2 * (l.length - (k + 1)) + 2 - 0, rfl, F9, N9, ?_, k + 1, 0, _, _, _, _, iv + 1 + 1 + 1, rfl, hkl, Nat.zero_le _, nofun, nofun, rfl, ?_, hpat, hS, hQ, hr, ha, ⟨tn, hnn⟩, rfl, htab, ?_, ?_⟩
        · first | exact meas1 (by assumption) (by assumption) | omega
        · rw [Nat.zero_min, Nat.add_zero, hbr]; simp; omega
        · have e : outOf (l.take (k + 1)) ++ (if 0 = 0 then ([] : List (List Nat)) else [[42]]) = (outOf (l.take k) ++ [[42]]) ++ [markOf c] := by
            rw [take_at hc, outOf_app, if_pos rfl]; simp [outOf]
          rw [e, List.map_append]
          exact hv.append' (.cons _ _ .nil)
        · intro _ _
          exact ⟨_, _, _, rfl, (show Lo (t2 + 1) _ by ((try dsimp only); (walk_at "lo"))), hmk⟩
      · have hcc : c = 42 ∨ c = 63 := by first | exact two_left (by assumption) (by assumption) | omega
        have e10 : ([Str.ofString "^", Str.ofString "["].any fun x => x == S [c]) = false := by
          rcases hcc with rfl | rfl <;> decide +kernel
        ((repeat' (((fail_if_success (with_reducible first | show wpAny _ _ (exec (Stmt.For _ _ _ _ _) _) _ _ _ | show wpAny _ _ (exec (Stmt.While _ _ _ _) _) _ _ _ | show wpAny _ _ (eval (Expr.ListComp _ _ _ _) _) _ _ _ | show wpAny _ _ (eval (Expr.Dict _ _ _) _) _ _ _ | show wpAny _ _ (binaryOp _ _ (Value.str (S (List.flatten _)) _)) _ _ _ | show wpAny _ _ (exec (Stmt.Assign _ (Expr.ListComp _ _ _ _) _) _) _ _ _ | show wpAny _ _ (call (Value.ref _) _ _) _ _ _ | show wpAny _ _ (pyIter _) _ _ _ | show wpAny _ _ (call (Value.builtin "len") [Value.ref _]) _ _ _ | show wpAny _ _ (subscriptTail _ _ (Value.ref _) (Value.ref _)) _ _ _ | show wpAny _ _ (compareOp CmpOp.Lt (Value.ref _) (Value.ref _)) _ _ _ | show wpAny _ _ (setItem (Value.ref _) (Value.int _ _) _) _ _ _))); (first | (k_unfold; (try dsimp only)) | (k_end; wrow_close) | walk1 | (dsimp only; walk1) | (leave1; walk_say "STEP leave1"; try dsimp only) | fail "no step"))))
        · exact .of (by k_asm) (.tail _ (.tail _ (.head _)))
        rename Fr _ _ _ _ => F9
        rename News _ _ _ _ => N9
        replace N9 := drop1 (drop1 N9)
        rename TabOk _ => htab
        have em : Str.empty ++ Str.ofString "[" ++ S [c] ++ Str.ofString "]" = S (markOf c) := by rcases hcc with rfl | rfl <;> decide +kernel
        rw [em]
        refine bound_append F9 N9 (.head _) (by k_upd) (fun h' F9 N9 => ?_) (by rw [sizeLine_eq, List.size_toArray]; omega)
        ((repeat' (((fail_if_success (with_reducible first | show wpAny _ _ (exec (Stmt.For _ _ _ _ _) _) _ _ _ | show wpAny _ _ (exec (Stmt.While _ _ _ _) _) _ _ _ | show wpAny _ _ (eval (Expr.ListComp _ _ _ _) _) _ _ _ | show wpAny _ _ (eval (Expr.Dict _ _ _) _) _ _ _ | show wpAny _ _ (binaryOp _ _ (Value.str (S (List.flatten _)) _)) _ _ _ | show wpAny _ _ (exec (Stmt.Assign _ (Expr.ListComp _ _ _ _) _) _) _ _ _ | show wpAny _ _ (call (Value.ref _) _ _) _ _ _ | show wpAny _ _ (pyIter _) _ _ _ | show wpAny _ _ (call (Value.builtin "len") [Value.ref _]) _ _ _ | show wpAny _ _ (subscriptTail _ _ (Value.ref _) (Value.ref _)) _ _ _ | show wpAny _ _ (compareOp CmpOp.Lt (Value.ref _) (Value.ref _)) _ _ _ | show wpAny _ _ (setItem (Value.ref _) (Value.int _ _) _) _ _ _))); (first | (k_unfold; (try dsimp only)) | (k_end; wrow_close) | walk1 | (dsimp only; walk1) | (leave1; walk_say "STEP leave1"; try dsimp only) | fail "no step"))))
        rename Fr _ _ _ _ => F9
        rename News _ _ _ _ => N9
        rw [push_list] at N9
        have hkl : k < l.length := hp1 rfl
        refine ⟨_, _, _, _, 2 * (l.length - (k + 1)) + 2 - 0, rfl, F9, N9, ?_, k + 1, 0, _, _, _, _, iv + 1 + 1 + 1, rfl, hkl, Nat.zero_le _, nofun, nofun, rfl, ?_, hpat, hS, hQ, hr, ha, ⟨tn, hnn⟩, rfl, htab, ?_, ?_⟩
        · first | exact meas1 (by assumption) (by assumption) | omega
        · rw [Nat.zero_min, Nat.add_zero, hbr]; simp; omega
        · have e : outOf (l.take (k + 1)) ++ (if 0 = 0 then ([] : List (List Nat)) else [[42]]) = (outOf (l.take k) ++ [[42]]) ++ [markOf c] := by
            rw [take_at hc, outOf_app, if_pos rfl]; simp [outOf]
          rw [e, List.map_append]
          exact hv.append' (.cons _ _ .nil)
        · intro _ _
          exact ⟨_, _, _, rfl, (show Lo (t2 + 1) _ by ((try dsimp only); (walk_at "lo"))), hmk⟩
    | false =>
      have hcp : c = 97 ∨ c = 45 ∨ c = 33 := by
        rcases hc6 with rfl | rfl | rfl | rfl | rfl | rfl <;> simp [bracketed] at hbc ⊢
      have hch : chunkIn c = [c] := by simp [chunkIn, hbc]
      have h1 : SignIs (inOf l ++ [42]) iv c := by have := hsi 0 c (by rw [hch]; rfl); simpa using this
      rw [hch] at hbr hin
      have hin1 : iv < ((inOf l ++ [42]).length : Int) := by simp at hin; omega
      have e1 : ((S [c]).cps.toList == (Str.ofString "*").cps.toList) = false := by rcases hcp with rfl | rfl | rfl <;> rfl
      have e2 : ((S [c]).cps.toList == (Str.ofString "?").cps.toList) = false := by rcases hcp with rfl | rfl | rfl <;> rfl
      have e3 : ((S [c]).cps.toList == (Str.ofString "[").cps.toList) = false := by rcases hcp with rfl | rfl | rfl <;> rfl
      ((repeat' (((fail_if_success (with_reducible first | show wpAny _ _ (exec (Stmt.For _ _ _ _ _) _) _ _ _ | show wpAny _ _ (exec (Stmt.While _ _ _ _) _) _ _ _ | show wpAny _ _ (eval (Expr.ListComp _ _ _ _) _) _ _ _ | show wpAny _ _ (eval (Expr.Dict _ _ _) _) _ _ _ | show wpAny _ _ (binaryOp _ _ (Value.str (S (List.flatten _)) _)) _ _ _ | show wpAny _ _ (exec (Stmt.Assign _ (Expr.ListComp _ _ _ _) _) _) _ _ _ | show wpAny _ _ (call (Value.ref _) _ _) _ _ _ | show wpAny _ _ (pyIter _) _ _ _ | show wpAny _ _ (call (Value.builtin "len") [Value.ref _]) _ _ _ | show wpAny _ _ (subscriptTail _ _ (Value.ref _) (Value.ref _)) _ _ _ | show wpAny _ _ (compareOp CmpOp.Lt (Value.ref _) (Value.ref _)) _ _ _ | show wpAny _ _ (setItem (Value.ref _) (Value.int _ _) _) _ _ _))); (first | (k_unfold; (try dsimp only)) | (k_end; wrow_close) | walk1 | (dsimp only; walk1) | (leave1; walk_say "STEP leave1"; try dsimp only) | fail "no step"))))
      rename Fr _ _ _ _ => F9
      rename News _ _ _ _ => N9
      refine (escape_ctr w loose mean mg mb c hcp _ (t2 + 1) _).use B' F9 X' N9 T' rfl (hC.keeps FG'.keep) ?_ ?_ ?_ ?_
      · exact (by omega : dp + 1 + 3 < recursionLimit)
      · exact (by omega : un + 3 + 8 * 3 < cLine)
      · show Lo _ _
        (walk_at "lo")
      clear F9 N9
      intro r9 news9 h9 tk9 F9 N9 hlo9 hp9
      obtain ⟨rfl, tn', htn, rfl⟩ := hp9
      rw [show escaped c = markOf c by simp [markOf, hbc]; intro h; subst h; simp [bracketed] at hbc] 
      have hmk : (S (markOf c) == S [42]) = false := by rcases hcp with rfl | rfl | rfl <;> decide
      ((repeat' (((fail_if_success (with_reducible first | show wpAny _ _ (exec (Stmt.For _ _ _ _ _) _) _ _ _ | show wpAny _ _ (exec (Stmt.While _ _ _ _) _) _ _ _ | show wpAny _ _ (eval (Expr.ListComp _ _ _ _) _) _ _ _ | show wpAny _ _ (eval (Expr.Dict _ _ _) _) _ _ _ | show wpAny _ _ (binaryOp _ _ (Value.str (S (List.flatten _)) _)) _ _ _ | show wpAny _ _ (exec (Stmt.Assign _ (Expr.ListComp _ _ _ _) _) _) _ _ _ | show wpAny _ _ (call (Value.ref _) _ _) _ _ _ | show wpAny _ _ (pyIter _) _ _ _ | show wpAny _ _ (call (Value.builtin "len") [Value.ref _]) _ _ _ | show wpAny _ _ (subscriptTail _ _ (Value.ref _) (Value.ref _)) _ _ _ | show wpAny _ _ (compareOp CmpOp.Lt (Value.ref _) (Value.ref _)) _ _ _ | show wpAny _ _ (setItem (Value.ref _) (Value.int _ _) _) _ _ _))); (first | (k_unfold; (try dsimp only)) | (k_end; wrow_close) | walk1 | (dsimp only; walk1) | (leave1; walk_say "STEP leave1"; try dsimp only) | fail "no step"))))
      · exact .of (by k_asm) (.head _)
      rename Fr _ _ _ _ => F9
      rename News _ _ _ _ => N9
      refine bound_append F9 N9 (.head _) (by k_upd) (fun h' F9 N9 => ?_) (by rw [sizeLine_eq, List.size_toArray]; omega)
      ((repeat' (((fail_if_success (with_reducible first | show wpAny _ _ (exec (Stmt.For _ _ _ _ _) _) _ _ _ | show wpAny _ _ (exec (Stmt.While _ _ _ _) _) _ _ _ | show wpAny _ _ (eval (Expr.ListComp _ _ _ _) _) _ _ _ | show wpAny _ _ (eval (Expr.Dict _ _ _) _) _ _ _ | show wpAny _ _ (binaryOp _ _ (Value.str (S (List.flatten _)) _)) _ _ _ | show wpAny _ _ (exec (Stmt.Assign _ (Expr.ListComp _ _ _ _) _) _) _ _ _ | show wpAny _ _ (call (Value.ref _) _ _) _ _ _ | show wpAny _ _ (pyIter _) _ _ _ | show wpAny _ _ (call (Value.builtin "len") [Value.ref _]) _ _ _ | show wpAny _ _ (subscriptTail _ _ (Value.ref _) (Value.ref _)) _ _ _ | show wpAny _ _ (compareOp CmpOp.Lt (Value.ref _) (Value.ref _)) _ _ _ | show wpAny _ _ (setItem (Value.ref _) (Value.int _ _) _) _ _ _))); (first | (k_unfold; (try dsimp only)) | (k_end; wrow_close) | walk1 | (dsimp only; walk1) | (leave1; walk_say "STEP leave1"; try dsimp only) | fail "no step"))))
      rename Fr _ _ _ _ => F9
      rename News _ _ _ _ => N9
      rw [push_list] at N9
      have hkl : k < l.length := hp1 rfl
      refine ⟨_, _, _, _, 2 * (l.length - (k + 1)) + 2 - 0, rfl, F9, N9, ?_, k + 1, 0, _, _, _, ps', iv + 1, rfl, hkl, Nat.zero_le _, nofun, nofun, rfl, ?_, hpat, hS, hQ, hr, ha, ⟨tn, hnn⟩, rfl, hps', ?_, ?_⟩
      · first | exact meas1 (by assumption) (by assumption) | omega
      · rw [Nat.zero_min, Nat.add_zero, hbr]; simp
      · have e : outOf (l.take (k + 1)) ++ (if 0 = 0 then ([] : List (List Nat)) else [[42]]) = (outOf (l.take k) ++ [[42]]) ++ [markOf c] := by
          rw [take_at hc, outOf_app, if_pos rfl]; simp [outOf]
        rw [e, List.map_append]
        exact hv.append' (.cons _ _ .nil)
      · intro _ _
        exact ⟨_, _, _, rfl, htn, hmk⟩

end
section
def HlC (l : List Nat) (led : Led) (j : Nat) (ys : List Value) (nw : Led) : Prop := nw = led ∧ StrsAre ys ((l.take j).map fun c => S (chunkIn c ++ [42]))
theorem strsAre_put {vs : List Value} {ys : List Str} {y : Str} {t : Tok} (h : StrsAre vs ys) : StrsAre (vs ++ [.str y t]) (ys ++ [y]) := h.append' (.cons y t .nil)
theorem flat_inOf (l : List Nat) : [42] ++ (l.map fun c => chunkIn c ++ [42]).flatten = inOf l ++ [42] := by
  induction l with
  | nil => rfl
  | cons c r ih =>
    have e : [42] ++ ((c :: r).map fun c => chunkIn c ++ [42]).flatten = 42 :: chunkIn c ++ ([42] ++ (r.map fun c => chunkIn c ++ [42]).flatten) := by simp
    rw [e, ih]; simp [inOf]
theorem evens_map {α β : Type} (f : α → β) : ∀ l : List α, evens (l.map f) = (evens l).map f
  | [] => rfl
  | [_] => rfl
  | _ :: _ :: r => congrArg (f _ :: ·) (evens_map f r)
theorem odds_map {α β : Type} (f : α → β) : ∀ l : List α, odds (l.map f) = (odds l).map f
  | [] => rfl
  | _ :: r => evens_map f r
theorem evens_out (l : List Nat) : evens (outOf l ++ [[42]]) = List.replicate (l.length + 1) [42] := by
  induction l with
  | nil => rfl
  | cons c r ih =>
    show [42] :: evens (outOf r ++ [[42]]) = _
    rw [ih]; rfl
theorem odds_out (l : List Nat) : odds (outOf l ++ [[42]]) = l.map markOf := by
  induction l with
  | nil => rfl
  | cons c r ih =>
    show evens (markOf c :: (outOf r ++ [[42]])) = _
    have : ∀ x : List (List Nat), x ≠ [] → evens (markOf c :: x) = markOf c :: odds x := fun x hx => by
      cases x with
      | nil => exact absurd rfl hx
      | cons a b => rfl
    rw [this _ (by simp), ih]; rfl
theorem star_item {n j : Nat} {x : Str} (h : ((List.replicate n [42]).map S)[j]? = some x) : x = S [42] := by
  have := List.mem_of_getElem? h
  rw [List.map_replicate] at this
  exact (List.mem_replicate.mp this).2
theorem flat_marks {v : Value} {c : Nat} {a1 a2 a3 a4 a5 a6 b1 b2 b3 b4 b5 b6 : Tok} (hc6 : c = 42 ∨ c = 97 ∨ c = 91 ∨ c = 63 ∨ c = 45 ∨ c = 33)
    (h : PyProof.V.Flat v ((Spec.lookup (PyData.str (S (markOf c))) (strData [(.str (Str.ofString "[*]") a1, .str (Str.ofString "*") b1), (.str (Str.ofString "a") a2, .str (Str.ofString "a") b2), (.str (Str.ofString "[\\[]") a3, .str (Str.ofString "[") b3), (.str (Str.ofString "[?]") a4, .str (Str.ofString "?") b4), (.str (Str.ofString "\\-") a5, .str (Str.ofString "-") b5), (.str (Str.ofString "!") a6, .str (Str.ofString "!") b6)])).getD (PyData.str (Str.ofString "/")))) : ∃ t, v = .str (S [c]) t := by
  have e : (Spec.lookup (PyData.str (S (markOf c))) (strData [(.str (Str.ofString "[*]") a1, .str (Str.ofString "*") b1), (.str (Str.ofString "a") a2, .str (Str.ofString "a") b2), (.str (Str.ofString "[\\[]") a3, .str (Str.ofString "[") b3), (.str (Str.ofString "[?]") a4, .str (Str.ofString "?") b4), (.str (Str.ofString "\\-") a5, .str (Str.ofString "-") b5), (.str (Str.ofString "!") a6, .str (Str.ofString "!") b6)])).getD (PyData.str (Str.ofString "/")) = PyData.str (S [c]) := by
    rcases hc6 with rfl | rfl | rfl | rfl | rfl | rfl <;> kernel_rfl
  rw [e] at h
  exact PyProof.V.Flat.str_inv h
theorem flat_singles (l : List Nat) : (l.map fun c => [c]).flatten = l := by
  induction l with
  | nil => rfl
  | cons c r ih => rw [List.map_cons, List.flatten_cons, ih]; rfl
theorem rot4 {h₀ h : Heap} {L : Addr} {a b c d : Addr × Obj} {news : Led} (N : News h₀ L h (a :: b :: c :: d :: news)) : News h₀ L h (d :: a :: b :: c :: news) := cb_drop N (by intro p hp; simp only [List.mem_cons] at hp ⊢; grind)
theorem held_ctr (w loose mean mg mb) (l : List Nat) (hl : l.length ≤ 8) (h6 : SixOk l) (t1 : Tok) (ps : Array Value) (hps : TabOk ps) (news : Led) (h50 : ∀ p ∈ news, p.1 ≠ 50) :
    Ctr w loose mean mg mb 132 12 [.str (S l) t1] ((50, tabObj ps) :: news) (fun r news' => ∃ t ps', r = .str (S l) t ∧ news' = (50, tabObj ps') :: news ∧ TabOk ps') := by
  unfold Ctr; k_fill; intro dp un gd cn cs a ccd cl outer A₀ base h₀ L m s Q E B F X N T hk hC hd hu hret
  (refine wpAny_call ?_; k_dflt (refine' code_defC ?k1 ?k2 ?k3 ?k4 ?k5 ?kA ?kF ?kK ?k6 ?k7 ?k8 ?k9 ?kB ?kD ?_ ?c2 ?c3 ?c4; (case kA => exact rfl); (case kF => exact rfl); (case kK => assumption); (case k1 => k_asm); (case k2 => k_asm); (case k3 => k_asm); (case k4 => k_asm); (case k5 => k_asm); (case k6 => k_is); (case k7 => k_is); (case k8 => ktr_room); (case k9 => exact BindsTo.of_eq rfl); (case kB => exact rfl); (case kD => decide +kernel); (case c2 => exact rfl); (case c3 => exact rfl); (case c4 => exact rfl); k_whole)); intro g' L' h' tk' cells' FG' F' N' Y' B' X' T' hlt; have hlt0 := hlt; (try k_lt hlt)
  have hY := CellsAre.one Y'; obtain ⟨o', hE', d1'⟩ := hY; subst hE'; clear Y'; (try simp only [List.cons_append, List.nil_append] at N'); (try dsimp only); (try k_fold)
  ((repeat' (((fail_if_success (with_reducible first | show wpAny _ _ (exec (Stmt.For _ _ _ _ _) _) _ _ _ | show wpAny _ _ (exec (Stmt.While _ _ _ _) _) _ _ _ | show wpAny _ _ (eval (Expr.ListComp _ _ _ _) _) _ _ _ | show wpAny _ _ (eval (Expr.Dict _ _ _) _) _ _ _ | show wpAny _ _ (binaryOp _ _ (Value.str (S (List.flatten _)) _)) _ _ _ | show wpAny _ _ (exec (Stmt.Assign _ (Expr.ListComp _ _ _ _) _) _) _ _ _ | show wpAny _ _ (call (Value.ref _) _ _) _ _ _ | show wpAny _ _ (pyIter _) _ _ _ | show wpAny _ _ (call (Value.builtin "len") [Value.ref _]) _ _ _ | show wpAny _ _ (subscriptTail _ _ (Value.ref _) (Value.ref _)) _ _ _ | show wpAny _ _ (compareOp CmpOp.Lt (Value.ref _) (Value.ref _)) _ _ _ | show wpAny _ _ (setItem (Value.ref _) (Value.int _ _) _) _ _ _))); (first | (k_unfold; (try dsimp only)) | (k_end; wrow_close) | walk1 | (dsimp only; walk1) | (leave1; walk_say "STEP leave1"; try dsimp only) | fail "no step"))))
  k_dflt (refine' kdn_str ?q ?F ?N ?b ?a ?l ?e ?n ?_; (case q => rfl); (case F => k_asm); (case N => k_asm); (case b => exact Top.nolimit (by k_asm)); (case a => rfl); (case l => rfl); (case e => exact List.cons_ne_nil _ _); (case n => exact Nat.le_of_ble_eq_true rfl))
  intro d h2 o2 F2 N2 l1 lo hd2
  have hcd : @LT.lt Nat _ (L' + 1) d := l1 (L' + 1, o') (.head _)
  have h50L : @LT.lt Nat _ 50 (L' + 1) := Nat.lt_succ_of_lt (hlt0 (50, _) (.head _))
  have hnL : ∀ p ∈ news, p.1 ≠ L' + 1 := fun p hp => Nat.ne_of_lt (Nat.lt_succ_of_lt (hlt0 p (.tail _ hp)))
  have hnd : ∀ p ∈ news, p.1 ≠ d := fun p hp => Nat.ne_of_lt (l1 p (.tail _ (.tail _ hp)))
  ((repeat' (((fail_if_success (with_reducible first | show wpAny _ _ (exec (Stmt.For _ _ _ _ _) _) _ _ _ | show wpAny _ _ (exec (Stmt.While _ _ _ _) _) _ _ _ | show wpAny _ _ (eval (Expr.ListComp _ _ _ _) _) _ _ _ | show wpAny _ _ (eval (Expr.Dict _ _ _) _) _ _ _ | show wpAny _ _ (binaryOp _ _ (Value.str (S (List.flatten _)) _)) _ _ _ | show wpAny _ _ (exec (Stmt.Assign _ (Expr.ListComp _ _ _ _) _) _) _ _ _ | show wpAny _ _ (call (Value.ref _) _ _) _ _ _ | show wpAny _ _ (pyIter _) _ _ _ | show wpAny _ _ (call (Value.builtin "len") [Value.ref _]) _ _ _ | show wpAny _ _ (subscriptTail _ _ (Value.ref _) (Value.ref _)) _ _ _ | show wpAny _ _ (compareOp CmpOp.Lt (Value.ref _) (Value.ref _)) _ _ _ | show wpAny _ _ (setItem (Value.ref _) (Value.int _ _) _) _ _ _))); (first | (k_unfold; (try dsimp only)) | (k_end; wrow_close) | walk1 | (dsimp only; walk1) | (leave1; walk_say "STEP leave1"; try dsimp only) | fail "no step"))))
  (k_dflt (refine Assign_comp_str (F₀ := by k_asm) (by rfl) (by with_unfolding_all rfl) (by with_unfolding_all rfl) (by decide) (by rfl) (by decide) (by rfl) (by rfl) (by rfl) ?_))
  ((repeat' (((fail_if_success (with_reducible first | show wpAny _ _ (exec (Stmt.For _ _ _ _ _) _) _ _ _ | show wpAny _ _ (exec (Stmt.While _ _ _ _) _) _ _ _ | show wpAny _ _ (eval (Expr.ListComp _ _ _ _) _) _ _ _ | show wpAny _ _ (eval (Expr.Dict _ _ _) _) _ _ _ | show wpAny _ _ (binaryOp _ _ (Value.str (S (List.flatten _)) _)) _ _ _ | show wpAny _ _ (exec (Stmt.Assign _ (Expr.ListComp _ _ _ _) _) _) _ _ _ | show wpAny _ _ (call (Value.ref _) _ _) _ _ _ | show wpAny _ _ (pyIter _) _ _ _ | show wpAny _ _ (call (Value.builtin "len") [Value.ref _]) _ _ _ | show wpAny _ _ (subscriptTail _ _ (Value.ref _) (Value.ref _)) _ _ _ | show wpAny _ _ (compareOp CmpOp.Lt (Value.ref _) (Value.ref _)) _ _ _ | show wpAny _ _ (setItem (Value.ref _) (Value.int _ _) _) _ _ _))); (first | (k_unfold; (try dsimp only)) | (k_end; wrow_close) | walk1 | (dsimp only; walk1) | (leave1; walk_say "STEP leave1"; try dsimp only) | fail "no step"))))
  rename Fr _ _ _ _ => F4
  rename News _ _ _ _ => N4
  refine StrSrc.text rfl F4 N4 (by omega) fun g => ?_
  refine rest_J (HlC l _) ?_ ?_ ⟨rfl, .nil⟩
  · intro j v ys nw I2 oI2 C oC D m₂ h tk E' hj hv2 hJ hoC hx F5 N5 off hne5
    obtain ⟨rfl, hys⟩ := hJ
    obtain ⟨c, u, hc, rfl⟩ := hv2
    rw [S_get] at hc
    have hc6 := h6 c (List.mem_of_getElem? hc)
    cases hbc : bracketed c with
    | true =>
      have hcb : c = 42 ∨ c = 63 ∨ c = 91 := by
        rcases hc6 with rfl | rfl | rfl | rfl | rfl | rfl <;> simp [bracketed] at hbc ⊢
      have e1 : (PySem.Builtin.Str.occurrences (Str.ofString "*?[") ⟨#[c]⟩ 0 (Str.ofString "*?[").length 1).isEmpty = false := by rcases hcb with rfl | rfl | rfl <;> decide +kernel
      have e2 : Str.ofString "[" ++ (⟨#[c]⟩ : Str) ++ Str.ofString "]*" = S (chunkIn c ++ [42]) := by rcases hcb with rfl | rfl | rfl <;> decide +kernel
      ((repeat' (((fail_if_success (with_reducible first | show wpAny _ _ (exec (Stmt.For _ _ _ _ _) _) _ _ _ | show wpAny _ _ (exec (Stmt.While _ _ _ _) _) _ _ _ | show wpAny _ _ (eval (Expr.ListComp _ _ _ _) _) _ _ _ | show wpAny _ _ (eval (Expr.Dict _ _ _) _) _ _ _ | show wpAny _ _ (binaryOp _ _ (Value.str (S (List.flatten _)) _)) _ _ _ | show wpAny _ _ (exec (Stmt.Assign _ (Expr.ListComp _ _ _ _) _) _) _ _ _ | show wpAny _ _ (call (Value.ref _) _ _) _ _ _ | show wpAny _ _ (pyIter _) _ _ _ | show wpAny _ _ (call (Value.builtin "len") [Value.ref _]) _ _ _ | show wpAny _ _ (subscriptTail _ _ (Value.ref _) (Value.ref _)) _ _ _ | show wpAny _ _ (compareOp CmpOp.Lt (Value.ref _) (Value.ref _)) _ _ _ | show wpAny _ _ (setItem (Value.ref _) (Value.int _ _) _) _ _ _))); (first | (k_unfold; (try dsimp only)) | (k_end; wrow_close) | walk1 | (dsimp only; walk1) | (leave1; walk_say "STEP leave1"; try dsimp only) | fail "no step"))))
      rw [e2]
      refine comp_same (by k_asm) (by k_asm) off trivial ⟨rfl, ?_⟩
      rw [List.take_add_one, hc, List.map_append]
      exact strsAre_put hys
    | false =>
      have hcp : c = 97 ∨ c = 45 ∨ c = 33 := by
        rcases hc6 with rfl | rfl | rfl | rfl | rfl | rfl <;> simp [bracketed] at hbc ⊢
      have e1 : (PySem.Builtin.Str.occurrences (Str.ofString "*?[") ⟨#[c]⟩ 0 (Str.ofString "*?[").length 1).isEmpty = true := by rcases hcp with rfl | rfl | rfl <;> decide +kernel
      have e2 : (⟨#[c]⟩ : Str) ++ Str.ofString "*" = S (chunkIn c ++ [42]) := by rcases hcp with rfl | rfl | rfl <;> decide +kernel
      ((repeat' (((fail_if_success (with_reducible first | show wpAny _ _ (exec (Stmt.For _ _ _ _ _) _) _ _ _ | show wpAny _ _ (exec (Stmt.While _ _ _ _) _) _ _ _ | show wpAny _ _ (eval (Expr.ListComp _ _ _ _) _) _ _ _ | show wpAny _ _ (eval (Expr.Dict _ _ _) _) _ _ _ | show wpAny _ _ (binaryOp _ _ (Value.str (S (List.flatten _)) _)) _ _ _ | show wpAny _ _ (exec (Stmt.Assign _ (Expr.ListComp _ _ _ _) _) _) _ _ _ | show wpAny _ _ (call (Value.ref _) _ _) _ _ _ | show wpAny _ _ (pyIter _) _ _ _ | show wpAny _ _ (call (Value.builtin "len") [Value.ref _]) _ _ _ | show wpAny _ _ (subscriptTail _ _ (Value.ref _) (Value.ref _)) _ _ _ | show wpAny _ _ (compareOp CmpOp.Lt (Value.ref _) (Value.ref _)) _ _ _ | show wpAny _ _ (setItem (Value.ref _) (Value.int _ _) _) _ _ _))); (first | (k_unfold; (try dsimp only)) | (k_end; wrow_close) | walk1 | (dsimp only; walk1) | (leave1; walk_say "STEP leave1"; try dsimp only) | fail "no step"))))
      rw [e2]
      refine comp_same (by k_asm) (by k_asm) off trivial ⟨rfl, ?_⟩
      rw [List.take_add_one, hc, List.map_append]
      exact strsAre_put hys
  · intro ys nw hJ
    obtain ⟨rfl, hys⟩ := hJ
    rw [List.take_length] at hys
    intro D h tk F6 N6 o1
    dsimp only
    ((repeat' (((fail_if_success (with_reducible first | show wpAny _ _ (exec (Stmt.For _ _ _ _ _) _) _ _ _ | show wpAny _ _ (exec (Stmt.While _ _ _ _) _) _ _ _ | show wpAny _ _ (eval (Expr.ListComp _ _ _ _) _) _ _ _ | show wpAny _ _ (eval (Expr.Dict _ _ _) _) _ _ _ | show wpAny _ _ (binaryOp _ _ (Value.str (S (List.flatten _)) _)) _ _ _ | show wpAny _ _ (exec (Stmt.Assign _ (Expr.ListComp _ _ _ _) _) _) _ _ _ | show wpAny _ _ (call (Value.ref _) _ _) _ _ _ | show wpAny _ _ (pyIter _) _ _ _ | show wpAny _ _ (call (Value.builtin "len") [Value.ref _]) _ _ _ | show wpAny _ _ (subscriptTail _ _ (Value.ref _) (Value.ref _)) _ _ _ | show wpAny _ _ (compareOp CmpOp.Lt (Value.ref _) (Value.ref _)) _ _ _ | show wpAny _ _ (setItem (Value.ref _) (Value.int _ _) _) _ _ _))); (first | (k_unfold; (try dsimp only)) | (k_end; wrow_close) | walk1 | (dsimp only; walk1) | (leave1; walk_say "STEP leave1"; try dsimp only) | fail "no step"))))
    rename Fr _ _ _ _ => F7
    rename News _ _ _ _ => N7
    have hil := inOf_len l
    have hfl := congrArg List.length (flat_inOf l)
    rw [List.length_append, List.length_append, List.length_singleton] at hfl
    refine toks_keep (n := 1) (Nat.le_add_left 1 _) ?_
    refine join_S (ws := l.map fun c => chunkIn c ++ [42]) N7 (.head _) (by rw [List.map_map]; exact hys) (by omega) fun t2 k2 hk2 => ?_
    ((repeat' (((fail_if_success (with_reducible first | show wpAny _ _ (exec (Stmt.For _ _ _ _ _) _) _ _ _ | show wpAny _ _ (exec (Stmt.While _ _ _ _) _) _ _ _ | show wpAny _ _ (eval (Expr.ListComp _ _ _ _) _) _ _ _ | show wpAny _ _ (eval (Expr.Dict _ _ _) _) _ _ _ | show wpAny _ _ (binaryOp _ _ (Value.str (S (List.flatten _)) _)) _ _ _ | show wpAny _ _ (exec (Stmt.Assign _ (Expr.ListComp _ _ _ _) _) _) _ _ _ | show wpAny _ _ (call (Value.ref _) _ _) _ _ _ | show wpAny _ _ (pyIter _) _ _ _ | show wpAny _ _ (call (Value.builtin "len") [Value.ref _]) _ _ _ | show wpAny _ _ (subscriptTail _ _ (Value.ref _) (Value.ref _)) _ _ _ | show wpAny _ _ (compareOp CmpOp.Lt (Value.ref _) (Value.ref _)) _ _ _ | show wpAny _ _ (setItem (Value.ref _) (Value.int _ _) _) _ _ _))); (first | (k_unfold; (try dsimp only)) | (k_end; wrow_close) | walk1 | (dsimp only; walk1) | (leave1; walk_say "STEP leave1"; try dsimp only) | fail "no step"))))
    refine toks_keep (n := 1) hk2 ?_
    refine S_add (a := [42]) (by rw [sizeLine_eq, List.length_singleton]; omega) fun t3 k3 hk3 => ?_
    rw [flat_inOf]
    ((repeat' (((fail_if_success (with_reducible first | show wpAny _ _ (exec (Stmt.For _ _ _ _ _) _) _ _ _ | show wpAny _ _ (exec (Stmt.While _ _ _ _) _) _ _ _ | show wpAny _ _ (eval (Expr.ListComp _ _ _ _) _) _ _ _ | show wpAny _ _ (eval (Expr.Dict _ _ _) _) _ _ _ | show wpAny _ _ (binaryOp _ _ (Value.str (S (List.flatten _)) _)) _ _ _ | show wpAny _ _ (exec (Stmt.Assign _ (Expr.ListComp _ _ _ _) _) _) _ _ _ | show wpAny _ _ (call (Value.ref _) _ _) _ _ _ | show wpAny _ _ (pyIter _) _ _ _ | show wpAny _ _ (call (Value.builtin "len") [Value.ref _]) _ _ _ | show wpAny _ _ (subscriptTail _ _ (Value.ref _) (Value.ref _)) _ _ _ | show wpAny _ _ (compareOp CmpOp.Lt (Value.ref _) (Value.ref _)) _ _ _ | show wpAny _ _ (setItem (Value.ref _) (Value.int _ _) _) _ _ _))); (first | (k_unfold; (try dsimp only)) | (k_end; wrow_close) | walk1 | (dsimp only; walk1) | (leave1; walk_say "STEP leave1"; try dsimp only) | fail "no step"))))
    rename Fr _ _ _ _ => F8
    rename News _ _ _ _ => N8
    have e42 : Str.ofString "*" = S [42] := by decide +kernel
    have e46 : Str.ofString "." = S [46] := by decide +kernel
    rw [e42, e46]
    refine (translate_ctr w loose mean mg mb l hl h6 t3 k3 _ (Nat.ne_of_gt hk3) ps hps _ ?h50).use B' F8 X' (rot4 N8) T' rfl (hC.keeps FG'.keep) ?_ ?_ ?_ ?_
    case h50 =>
      intro p hp
      simp only [List.mem_cons] at hp
      rcases hp with rfl | rfl | rfl | hp
      · exact fun e => o1.2.2.1 e.symm
      · exact Nat.ne_of_gt (Nat.lt_trans h50L hcd)
      · exact Nat.ne_of_gt h50L
      · exact h50 p hp
    · exact (by omega : dp + 1 + 6 < recursionLimit)
    · exact (by omega : un + 3 + 8 * 6 < cLine)
    · show Lo _ _
      exact Nat.le_succ _
    clear N8 F8
    intro r9 news9 h9 tk9 F9 N9 hlo9 hp9
    obtain ⟨lr, vs9, k9, ps9, rfl, rfl, hps9, hv9, hne9⟩ := hp9
    have hlen9 : vs9.length = 2 * l.length + 1 := by
      have := hv9.len_eq
      rw [List.length_map, List.length_append, outOf_len] at this
      exact this
    ((repeat' (((fail_if_success (with_reducible first | show wpAny _ _ (exec (Stmt.For _ _ _ _ _) _) _ _ _ | show wpAny _ _ (exec (Stmt.While _ _ _ _) _) _ _ _ | show wpAny _ _ (eval (Expr.ListComp _ _ _ _) _) _ _ _ | show wpAny _ _ (eval (Expr.Dict _ _ _) _) _ _ _ | show wpAny _ _ (binaryOp _ _ (Value.str (S (List.flatten _)) _)) _ _ _ | show wpAny _ _ (exec (Stmt.Assign _ (Expr.ListComp _ _ _ _) _) _) _ _ _ | show wpAny _ _ (call (Value.ref _) _ _) _ _ _ | show wpAny _ _ (pyIter _) _ _ _ | show wpAny _ _ (call (Value.builtin "len") [Value.ref _]) _ _ _ | show wpAny _ _ (subscriptTail _ _ (Value.ref _) (Value.ref _)) _ _ _ | show wpAny _ _ (compareOp CmpOp.Lt (Value.ref _) (Value.ref _)) _ _ _ | show wpAny _ _ (setItem (Value.ref _) (Value.int _ _) _) _ _ _))); (first | (k_unfold; (try dsimp only)) | (k_end; wrow_close) | walk1 | (dsimp only; walk1) | (leave1; walk_say "STEP leave1"; try dsimp only) | fail "no step"))))
    rename News _ _ _ _ => N9
    refine len_N (n := ((2 * l.length + 1 : Nat) : Int)) N9 (.head _) (by rw [List.size_toArray]; omega) (by rw [List.size_toArray, hlen9]) ?_
    have hodd : ¬ (((2 * l.length + 1 : Nat) : Int)).fmod 2 = 0 := by rw [Int.fmod_eq_emod_of_nonneg _ (by decide)]; omega
    ((repeat' (((fail_if_success (with_reducible first | show wpAny _ _ (exec (Stmt.For _ _ _ _ _) _) _ _ _ | show wpAny _ _ (exec (Stmt.While _ _ _ _) _) _ _ _ | show wpAny _ _ (eval (Expr.ListComp _ _ _ _) _) _ _ _ | show wpAny _ _ (eval (Expr.Dict _ _ _) _) _ _ _ | show wpAny _ _ (binaryOp _ _ (Value.str (S (List.flatten _)) _)) _ _ _ | show wpAny _ _ (exec (Stmt.Assign _ (Expr.ListComp _ _ _ _) _) _) _ _ _ | show wpAny _ _ (call (Value.ref _) _ _) _ _ _ | show wpAny _ _ (pyIter _) _ _ _ | show wpAny _ _ (call (Value.builtin "len") [Value.ref _]) _ _ _ | show wpAny _ _ (subscriptTail _ _ (Value.ref _) (Value.ref _)) _ _ _ | show wpAny _ _ (compareOp CmpOp.Lt (Value.ref _) (Value.ref _)) _ _ _ | show wpAny _ _ (setItem (Value.ref _) (Value.int _ _) _) _ _ _))); (first | (k_unfold; (try dsimp only)) | (k_end; wrow_close) | walk1 | (dsimp only; walk1) | (leave1; walk_say "STEP leave1"; try dsimp only) | fail "no step"))))
    · exact absurd (by assumption) hodd
    k_dflt (refine LCt.ListComp_T (F₀ := by k_asm) (by with_unfolding_all rfl) (by decide) (by rfl) (by decide) (by rfl) ?_)
    ((repeat' (((fail_if_success (with_reducible first | show wpAny _ _ (exec (Stmt.For _ _ _ _ _) _) _ _ _ | show wpAny _ _ (exec (Stmt.While _ _ _ _) _) _ _ _ | show wpAny _ _ (eval (Expr.ListComp _ _ _ _) _) _ _ _ | show wpAny _ _ (eval (Expr.Dict _ _ _) _) _ _ _ | show wpAny _ _ (binaryOp _ _ (Value.str (S (List.flatten _)) _)) _ _ _ | show wpAny _ _ (exec (Stmt.Assign _ (Expr.ListComp _ _ _ _) _) _) _ _ _ | show wpAny _ _ (call (Value.ref _) _ _) _ _ _ | show wpAny _ _ (pyIter _) _ _ _ | show wpAny _ _ (call (Value.builtin "len") [Value.ref _]) _ _ _ | show wpAny _ _ (subscriptTail _ _ (Value.ref _) (Value.ref _)) _ _ _ | show wpAny _ _ (compareOp CmpOp.Lt (Value.ref _) (Value.ref _)) _ _ _ | show wpAny _ _ (setItem (Value.ref _) (Value.int _ _) _) _ _ _))); (first | (k_unfold; (try dsimp only)) | (k_end; wrow_close) | walk1 | (dsimp only; walk1) | (leave1; walk_say "STEP leave1"; try dsimp only) | fail "no step"))))
    rename Fr _ _ _ _ => F10
    refine slice_ev (s := ⟨_, _, _, _, _⟩) F10 N9 (.head _) (by omega) (fun D10 h10 F10 N10 l10 => ?_) (by with_unfolding_all rfl) (by intro _; with_unfolding_all rfl)
    have hse := strsAre_evens hv9
    rw [evens_map, evens_out] at hse
    refine LCt.CompSrcT.ledger rfl F10 N10 (.head _) (by rw [List.size_toArray, hse.len_eq, List.length_map, List.length_replicate, sizeLine_eq]; omega) fun g2 => ?_
    refine restT_J (fun _ ys nw => ys = [] ∧ nw = _) ?_ ?_ ⟨rfl, rfl⟩
    · intro j v ys2 nw I2 oI2 C oC D2 m₂ h tk E' hj hv2 hJ hoC hx F5 N5 off hne5
      obtain ⟨rfl, rfl⟩ := hJ
      obtain ⟨x, t, rfl, hxs⟩ := hse.item j v (by simpa using hv2)
      obtain rfl := star_item hxs
      have e1 : ((S [42]).cps.toList == (S [42]).cps.toList) = true := rfl
      ((repeat' (((fail_if_success (with_reducible first | show wpAny _ _ (exec (Stmt.For _ _ _ _ _) _) _ _ _ | show wpAny _ _ (exec (Stmt.While _ _ _ _) _) _ _ _ | show wpAny _ _ (eval (Expr.ListComp _ _ _ _) _) _ _ _ | show wpAny _ _ (eval (Expr.Dict _ _ _) _) _ _ _ | show wpAny _ _ (binaryOp _ _ (Value.str (S (List.flatten _)) _)) _ _ _ | show wpAny _ _ (exec (Stmt.Assign _ (Expr.ListComp _ _ _ _) _) _) _ _ _ | show wpAny _ _ (call (Value.ref _) _ _) _ _ _ | show wpAny _ _ (pyIter _) _ _ _ | show wpAny _ _ (call (Value.builtin "len") [Value.ref _]) _ _ _ | show wpAny _ _ (subscriptTail _ _ (Value.ref _) (Value.ref _)) _ _ _ | show wpAny _ _ (compareOp CmpOp.Lt (Value.ref _) (Value.ref _)) _ _ _ | show wpAny _ _ (setItem (Value.ref _) (Value.int _ _) _) _ _ _))); (first | (k_unfold; (try dsimp only)) | (k_end; wrow_close) | walk1 | (dsimp only; walk1) | (leave1; walk_say "STEP leave1"; try dsimp only) | fail "no step"))))
      refine comp_same (by k_asm) (by k_asm) off (.inr ⟨_, .head _, rfl, _, rfl⟩) ⟨rfl, rfl⟩
    · intro ys2 nw hJ
      obtain ⟨rfl, rfl⟩ := hJ
      intro D2 h tk F6 N6 o6
      have hz0 : (List.toArray ([] : List Value)).size ≤ 1000000 := by simp
      have hb0 : (!(List.toArray ([] : List Value)).isEmpty) = false := rfl
      dsimp only
      ((repeat' (((fail_if_success (with_reducible first | show wpAny _ _ (exec (Stmt.For _ _ _ _ _) _) _ _ _ | show wpAny _ _ (exec (Stmt.While _ _ _ _) _) _ _ _ | show wpAny _ _ (eval (Expr.ListComp _ _ _ _) _) _ _ _ | show wpAny _ _ (eval (Expr.Dict _ _ _) _) _ _ _ | show wpAny _ _ (binaryOp _ _ (Value.str (S (List.flatten _)) _)) _ _ _ | show wpAny _ _ (exec (Stmt.Assign _ (Expr.ListComp _ _ _ _) _) _) _ _ _ | show wpAny _ _ (call (Value.ref _) _ _) _ _ _ | show wpAny _ _ (pyIter _) _ _ _ | show wpAny _ _ (call (Value.builtin "len") [Value.ref _]) _ _ _ | show wpAny _ _ (subscriptTail _ _ (Value.ref _) (Value.ref _)) _ _ _ | show wpAny _ _ (compareOp CmpOp.Lt (Value.ref _) (Value.ref _)) _ _ _ | show wpAny _ _ (setItem (Value.ref _) (Value.int _ _) _) _ _ _))); (first | (k_unfold; (try dsimp only)) | (k_end; wrow_close) | walk1 | (dsimp only; walk1) | (leave1; walk_say "STEP leave1"; try dsimp only) | fail "no step"))))
      k_dflt (refine LCg.ListComp_U (F₀ := by k_asm) (by with_unfolding_all rfl) (by decide) (by rfl) (by decide) (by rfl) ?_)
      ((repeat' (((fail_if_success (with_reducible first | show wpAny _ _ (exec (Stmt.For _ _ _ _ _) _) _ _ _ | show wpAny _ _ (exec (Stmt.While _ _ _ _) _) _ _ _ | show wpAny _ _ (eval (Expr.ListComp _ _ _ _) _) _ _ _ | show wpAny _ _ (eval (Expr.Dict _ _ _) _) _ _ _ | show wpAny _ _ (binaryOp _ _ (Value.str (S (List.flatten _)) _)) _ _ _ | show wpAny _ _ (exec (Stmt.Assign _ (Expr.ListComp _ _ _ _) _) _) _ _ _ | show wpAny _ _ (call (Value.ref _) _ _) _ _ _ | show wpAny _ _ (pyIter _) _ _ _ | show wpAny _ _ (call (Value.builtin "len") [Value.ref _]) _ _ _ | show wpAny _ _ (subscriptTail _ _ (Value.ref _) (Value.ref _)) _ _ _ | show wpAny _ _ (compareOp CmpOp.Lt (Value.ref _) (Value.ref _)) _ _ _ | show wpAny _ _ (setItem (Value.ref _) (Value.int _ _) _) _ _ _))); (first | (k_unfold; (try dsimp only)) | (k_end; wrow_close) | walk1 | (dsimp only; walk1) | (leave1; walk_say "STEP leave1"; try dsimp only) | fail "no step"))))
      rename Fr _ _ _ _ => F11
      rename News _ _ _ _ => N11
      refine slice_od (s := ⟨_, _, _, _, _⟩) F11 N11 (.tail _ (.tail _ (.head _))) (by omega) (by omega) (fun D11 h11 F11 N11 l11 => ?_) (by with_unfolding_all rfl) (by intro _; with_unfolding_all rfl)
      have hso := strsAre_odds hv9
      rw [odds_map, odds_out, List.map_map] at hso
      have hsl : (odds vs9).length = l.length := by rw [hso.len_eq, List.length_map]
      refine LCg.CompSrc.ledger rfl F11 N11 (.head _) (by rw [List.size_toArray, hsl, sizeLine_eq]; omega) fun g2 => ?_
      refine rest_J (fun j ys nw => nw = _ ∧ StrsAre ys ((l.take j).map fun c => S [c])) ?_ ?_ ⟨rfl, .nil⟩
      · intro j v ys2 nw I2 oI2 C oC D2 m₂ h tk E' hj hv2 hJ hoC hx F5 N5 off hne5
        obtain ⟨rfl, hys2⟩ := hJ
        obtain ⟨x, t, rfl, hxs⟩ := hso.item j v (by simpa using hv2)
        obtain ⟨c, hc, rfl⟩ : ∃ c, l[j]? = some c ∧ S (markOf c) = x := by
          rw [List.getElem?_map] at hxs
          cases hq : l[j]? with
          | none => rw [hq] at hxs; cases hxs
          | some c => rw [hq] at hxs; exact ⟨c, rfl, Option.some.inj hxs⟩
        have hc6 := h6 c (List.mem_of_getElem? hc)
        ((repeat' (((fail_if_success (with_reducible first | show wpAny _ _ (exec (Stmt.For _ _ _ _ _) _) _ _ _ | show wpAny _ _ (exec (Stmt.While _ _ _ _) _) _ _ _ | show wpAny _ _ (eval (Expr.ListComp _ _ _ _) _) _ _ _ | show wpAny _ _ (eval (Expr.Dict _ _ _) _) _ _ _ | show wpAny _ _ (binaryOp _ _ (Value.str (S (List.flatten _)) _)) _ _ _ | show wpAny _ _ (exec (Stmt.Assign _ (Expr.ListComp _ _ _ _) _) _) _ _ _ | show wpAny _ _ (call (Value.ref _) _ _) _ _ _ | show wpAny _ _ (pyIter _) _ _ _ | show wpAny _ _ (call (Value.builtin "len") [Value.ref _]) _ _ _ | show wpAny _ _ (subscriptTail _ _ (Value.ref _) (Value.ref _)) _ _ _ | show wpAny _ _ (compareOp CmpOp.Lt (Value.ref _) (Value.ref _)) _ _ _ | show wpAny _ _ (setItem (Value.ref _) (Value.int _ _) _) _ _ _))); (first | (k_unfold; (try dsimp only)) | (k_end; wrow_close) | walk1 | (dsimp only; walk1) | (leave1; walk_say "STEP leave1"; try dsimp only) | fail "no step"))))
        rename PyProof.V.Flat _ _ => hvF
        obtain ⟨t', rfl⟩ := flat_marks hc6 hvF
        refine comp_same (by k_asm) (by k_asm) off (.inr ⟨_, .head _, rfl, _, rfl⟩) ⟨rfl, ?_⟩
        rw [List.take_add_one, hc, List.map_append]
        exact strsAre_put hys2
      · intro ys2 nw hJ
        obtain ⟨rfl, hys2⟩ := hJ
        rw [List.size_toArray, hsl, List.take_length] at hys2
        intro D2 h tk F6 N6 o6
        dsimp only
        ((repeat' (((fail_if_success (with_reducible first | show wpAny _ _ (exec (Stmt.For _ _ _ _ _) _) _ _ _ | show wpAny _ _ (exec (Stmt.While _ _ _ _) _) _ _ _ | show wpAny _ _ (eval (Expr.ListComp _ _ _ _) _) _ _ _ | show wpAny _ _ (eval (Expr.Dict _ _ _) _) _ _ _ | show wpAny _ _ (binaryOp _ _ (Value.str (S (List.flatten _)) _)) _ _ _ | show wpAny _ _ (exec (Stmt.Assign _ (Expr.ListComp _ _ _ _) _) _) _ _ _ | show wpAny _ _ (call (Value.ref _) _ _) _ _ _ | show wpAny _ _ (pyIter _) _ _ _ | show wpAny _ _ (call (Value.builtin "len") [Value.ref _]) _ _ _ | show wpAny _ _ (subscriptTail _ _ (Value.ref _) (Value.ref _)) _ _ _ | show wpAny _ _ (compareOp CmpOp.Lt (Value.ref _) (Value.ref _)) _ _ _ | show wpAny _ _ (setItem (Value.ref _) (Value.int _ _) _) _ _ _))); (first | (k_unfold; (try dsimp only)) | (k_end; wrow_close) | walk1 | (dsimp only; walk1) | (leave1; walk_say "STEP leave1"; try dsimp only) | fail "no step"))))
        rename Fr _ _ _ _ => F12
        rename News _ _ _ _ => N12
        have hfl2 := flat_singles l
        refine join_S (ws := l.map fun c => [c]) N12 (.head _) (by rw [List.map_map]; exact hys2) (by rw [hfl2]; omega) fun t4 k4 => ?_
        rw [hfl2]
        ((repeat' (((fail_if_success (with_reducible first | show wpAny _ _ (exec (Stmt.For _ _ _ _ _) _) _ _ _ | show wpAny _ _ (exec (Stmt.While _ _ _ _) _) _ _ _ | show wpAny _ _ (eval (Expr.ListComp _ _ _ _) _) _ _ _ | show wpAny _ _ (eval (Expr.Dict _ _ _) _) _ _ _ | show wpAny _ _ (binaryOp _ _ (Value.str (S (List.flatten _)) _)) _ _ _ | show wpAny _ _ (exec (Stmt.Assign _ (Expr.ListComp _ _ _ _) _) _) _ _ _ | show wpAny _ _ (call (Value.ref _) _ _) _ _ _ | show wpAny _ _ (pyIter _) _ _ _ | show wpAny _ _ (call (Value.builtin "len") [Value.ref _]) _ _ _ | show wpAny _ _ (subscriptTail _ _ (Value.ref _) (Value.ref _)) _ _ _ | show wpAny _ _ (compareOp CmpOp.Lt (Value.ref _) (Value.ref _)) _ _ _ | show wpAny _ _ (setItem (Value.ref _) (Value.int _ _) _) _ _ _))); (first | (k_unfold; (try dsimp only)) | (k_end; wrow_close) | walk1 | (dsimp only; walk1) | (leave1; walk_say "STEP leave1"; try dsimp only) | fail "no step"))))
        refine hret _ _ _ _ (by k_asm) (cb_drop (by k_asm) ?_) ⟨_, ps9, rfl, rfl, hps9⟩
        intro p hp; simp only [List.mem_cons] at hp ⊢; grind

end
section
def SdJ (res : List Ent) (new : Ent) (lh an : Addr) (news n1 : Led) (n : Nat) (m₁ : Str → Option Value) (news₁ : Led) : Prop :=
  ∃ vs k xs tp t0, m₁ "pos" = some (.int (n : Int) tp) ∧ m₁ "startpos" = some (.int 0 t0) ∧ m₁ "heap" = some (.ref lh) ∧ m₁ "newitem" = some (.ref an) ∧ news₁ = (lh, listOf (List.toArray vs) k) :: news ∧ Ents n1 vs xs ∧ xs.length = res.length ∧ n < res.length ∧ sdown new xs n = res
def SdX (res : List Ent) (new : Ent) (lh an : Addr) (news n1 : Led) (m₁ : Str → Option Value) (news₁ : Led) : Prop :=
  ∃ n vs k xs tp, m₁ "pos" = some (.int ((n : Nat) : Int) tp) ∧ m₁ "heap" = some (.ref lh) ∧ m₁ "newitem" = some (.ref an) ∧ news₁ = (lh, listOf (List.toArray vs) k) :: news ∧ Ents n1 vs xs ∧ xs.length = res.length ∧ n < res.length ∧ xs.set n new = res
theorem sdown_ctr (w loose mean mg mb) (lh : Addr) (vs : List Value) (k : Nat) (xs : List Ent) (pos : Nat) (t0 tp : Tok) (news n1 : Led) (hn1 : ∀ p ∈ n1, p ∈ news) (hE : Ents n1 vs xs) (hp : pos < xs.length) (hz : xs.length ≤ 1000000) (hne : ∀ p ∈ news, p.1 ≠ lh) :
    Ctr w loose mean mg mb 120 12 [.ref lh, .int 0 t0, .int (pos : Int) tp] ((lh, listOf (List.toArray vs) k) :: news) (fun r news' => r = .none ∧ ∃ vs' k', news' = (lh, listOf (List.toArray vs') k') :: news ∧ Ents n1 vs' (sdown (g xs pos) xs pos)) := by
  unfold Ctr; k_fill; intro dp un gd cn cs a ccd cl outer A₀ base h₀ L m s Q E B F X N T hk hC hd hu hret
  (refine wpAny_call ?_; k_dflt (refine' code_def ?k1 ?k2 ?k3 ?k4 ?k5 ?kA ?kF ?kK ?k6 ?k7 ?k8 ?k9 ?kB ?_ ?c2 ?c3 ?c4 ?c5; (case kA => exact rfl); (case kF => exact rfl); (case kK => assumption); (case k1 => k_asm); (case k2 => k_asm); (case k3 => k_asm); (case k4 => k_asm); (case k5 => k_asm); (case k6 => k_is); (case k7 => k_is); (case k8 => ktr_room); (case k9 => exact BindsTo.of_eq rfl); (case c5 => decide); (case kB => exact locs rfl); (case c2 => exact rfl); (case c3 => exact rfl); (case c4 => exact rfl); k_whole)); intro g' L' h' FG' F' N' B' X' T'; (try dsimp only); (try k_fold)
  (repeat' ((fail_if_success (with_reducible show wpAny _ _ (subscriptTail _ _ (Value.ref _) (Value.int _ _)) _ _ _)); ((fail_if_success (with_reducible first | show wpAny _ _ (exec (Stmt.For _ _ _ _ _) _) _ _ _ | show wpAny _ _ (exec (Stmt.While _ _ _ _) _) _ _ _ | show wpAny _ _ (eval (Expr.ListComp _ _ _ _) _) _ _ _ | show wpAny _ _ (eval (Expr.Dict _ _ _) _) _ _ _ | show wpAny _ _ (binaryOp _ _ (Value.str (S (List.flatten _)) _)) _ _ _ | show wpAny _ _ (exec (Stmt.Assign _ (Expr.ListComp _ _ _ _) _) _) _ _ _ | show wpAny _ _ (call (Value.ref _) _ _) _ _ _ | show wpAny _ _ (pyIter _) _ _ _ | show wpAny _ _ (call (Value.builtin "len") [Value.ref _]) _ _ _ | show wpAny _ _ (subscriptTail _ _ (Value.ref _) (Value.ref _)) _ _ _ | show wpAny _ _ (compareOp CmpOp.Lt (Value.ref _) (Value.ref _)) _ _ _ | show wpAny _ _ (setItem (Value.ref _) (Value.int _ _) _) _ _ _))); (first | (k_unfold; (try dsimp only)) | (k_end; wrow_close) | walk1 | (dsimp only; walk1) | (leave1; walk_say "STEP leave1"; try dsimp only) | fail "no step")))
  obtain ⟨an, on, hv, han, hen⟩ := hE.get hp
  refine item_L N' (.head _) (by rw [List.size_toArray, hE.1]; exact hz) (v := .ref an) (by simpa using hv) ?_
  (repeat' ((fail_if_success (with_reducible show wpAny _ _ (subscriptTail _ _ (Value.ref _) (Value.int _ _)) _ _ _)); ((fail_if_success (with_reducible first | show wpAny _ _ (exec (Stmt.For _ _ _ _ _) _) _ _ _ | show wpAny _ _ (exec (Stmt.While _ _ _ _) _) _ _ _ | show wpAny _ _ (eval (Expr.ListComp _ _ _ _) _) _ _ _ | show wpAny _ _ (eval (Expr.Dict _ _ _) _) _ _ _ | show wpAny _ _ (binaryOp _ _ (Value.str (S (List.flatten _)) _)) _ _ _ | show wpAny _ _ (exec (Stmt.Assign _ (Expr.ListComp _ _ _ _) _) _) _ _ _ | show wpAny _ _ (call (Value.ref _) _ _) _ _ _ | show wpAny _ _ (pyIter _) _ _ _ | show wpAny _ _ (call (Value.builtin "len") [Value.ref _]) _ _ _ | show wpAny _ _ (subscriptTail _ _ (Value.ref _) (Value.ref _)) _ _ _ | show wpAny _ _ (compareOp CmpOp.Lt (Value.ref _) (Value.ref _)) _ _ _ | show wpAny _ _ (setItem (Value.ref _) (Value.int _ _) _) _ _ _))); (first | (k_unfold; (try dsimp only)) | (k_end; wrow_close) | walk1 | (dsimp only; walk1) | (leave1; walk_say "STEP leave1"; try dsimp only) | fail "no step")))
  rename Fr _ _ _ _ => F1
  rename News _ _ _ _ => N1
  have hlen := sdown_len (g xs pos) xs pos
  refine While_J (n₀ := pos) (SdJ (sdown (g xs pos) xs pos) (g xs pos) lh an news n1) (SdX (sdown (g xs pos) xs pos) (g xs pos) lh an news n1) F1 N1 ⟨vs, k, xs, _, _, rfl, rfl, rfl, rfl, rfl, hE, hlen.symm, by omega, rfl⟩ ?turn ?fin (hE := ?pe)
  case pe => first | passes_own | with_unfolding_all passes_own
  case turn =>
    clear F1 N1
    intro n m₁ news₁ h₁ tk₁ F4 N4 hJ
    obtain ⟨vs2, k2, xs2, tp2, t02, hpos, hst, hhp, hni, rfl, hE2, hl2, hn2, hr2⟩ := hJ
    rcases Nat.eq_zero_or_pos n with rfl | hn0
    · ((repeat' (((fail_if_success (with_reducible first | show wpAny _ _ (exec (Stmt.For _ _ _ _ _) _) _ _ _ | show wpAny _ _ (exec (Stmt.While _ _ _ _) _) _ _ _ | show wpAny _ _ (eval (Expr.ListComp _ _ _ _) _) _ _ _ | show wpAny _ _ (eval (Expr.Dict _ _ _) _) _ _ _ | show wpAny _ _ (binaryOp _ _ (Value.str (S (List.flatten _)) _)) _ _ _ | show wpAny _ _ (exec (Stmt.Assign _ (Expr.ListComp _ _ _ _) _) _) _ _ _ | show wpAny _ _ (call (Value.ref _) _ _) _ _ _ | show wpAny _ _ (pyIter _) _ _ _ | show wpAny _ _ (call (Value.builtin "len") [Value.ref _]) _ _ _ | show wpAny _ _ (subscriptTail _ _ (Value.ref _) (Value.ref _)) _ _ _ | show wpAny _ _ (compareOp CmpOp.Lt (Value.ref _) (Value.ref _)) _ _ _ | show wpAny _ _ (setItem (Value.ref _) (Value.int _ _) _) _ _ _))); (first | (k_unfold; (try dsimp only)) | (k_end; wrow_close) | walk1 | (dsimp only; walk1) | (leave1; walk_say "STEP leave1"; try dsimp only) | fail "no step"))))
      exact .mk F4 N4 ⟨0, vs2, k2, xs2, tp2, hpos, hhp, hni, rfl, hE2, hl2, hn2, by rw [← hr2, sdown_zero]⟩
    · have hvl := hE2.1
      (repeat' ((fail_if_success (with_reducible show wpAny _ _ (subscriptTail _ _ (Value.ref _) (Value.int _ _)) _ _ _)); ((fail_if_success (with_reducible first | show wpAny _ _ (exec (Stmt.For _ _ _ _ _) _) _ _ _ | show wpAny _ _ (exec (Stmt.While _ _ _ _) _) _ _ _ | show wpAny _ _ (eval (Expr.ListComp _ _ _ _) _) _ _ _ | show wpAny _ _ (eval (Expr.Dict _ _ _) _) _ _ _ | show wpAny _ _ (binaryOp _ _ (Value.str (S (List.flatten _)) _)) _ _ _ | show wpAny _ _ (exec (Stmt.Assign _ (Expr.ListComp _ _ _ _) _) _) _ _ _ | show wpAny _ _ (call (Value.ref _) _ _) _ _ _ | show wpAny _ _ (pyIter _) _ _ _ | show wpAny _ _ (call (Value.builtin "len") [Value.ref _]) _ _ _ | show wpAny _ _ (subscriptTail _ _ (Value.ref _) (Value.ref _)) _ _ _ | show wpAny _ _ (compareOp CmpOp.Lt (Value.ref _) (Value.ref _)) _ _ _ | show wpAny _ _ (setItem (Value.ref _) (Value.int _ _) _) _ _ _))); (first | (k_unfold; (try dsimp only)) | (k_end; wrow_close) | walk1 | (dsimp only; walk1) | (leave1; walk_say "STEP leave1"; try dsimp only) | fail "no step")))
      rename Fr _ _ _ _ => F6
      rename News _ _ _ _ => N6
      have ep : ((n : Int) - 1).fdiv (2 ^ Int.toNat 1) = (((n - 1) / 2 : Nat) : Int) := by
        rw [Int.fdiv_eq_ediv_of_nonneg _ (by decide)]
        show ((n : Int) - 1) / 2 = _
        omega
      rw [ep] at F6 ⊢
      obtain ⟨ap, op, hv2, hap, hep⟩ := hE2.get (i := (n - 1) / 2) (by omega)
      refine item_L N6 (.head _) (by rw [List.size_toArray]; omega) (v := .ref ap) (by simpa using hv2) ?_
      (repeat' ((fail_if_success (with_reducible show wpAny _ _ (subscriptTail _ _ (Value.ref _) (Value.int _ _)) _ _ _)); ((fail_if_success (with_reducible first | show wpAny _ _ (exec (Stmt.For _ _ _ _ _) _) _ _ _ | show wpAny _ _ (exec (Stmt.While _ _ _ _) _) _ _ _ | show wpAny _ _ (eval (Expr.ListComp _ _ _ _) _) _ _ _ | show wpAny _ _ (eval (Expr.Dict _ _ _) _) _ _ _ | show wpAny _ _ (binaryOp _ _ (Value.str (S (List.flatten _)) _)) _ _ _ | show wpAny _ _ (exec (Stmt.Assign _ (Expr.ListComp _ _ _ _) _) _) _ _ _ | show wpAny _ _ (call (Value.ref _) _ _) _ _ _ | show wpAny _ _ (pyIter _) _ _ _ | show wpAny _ _ (call (Value.builtin "len") [Value.ref _]) _ _ _ | show wpAny _ _ (subscriptTail _ _ (Value.ref _) (Value.ref _)) _ _ _ | show wpAny _ _ (compareOp CmpOp.Lt (Value.ref _) (Value.ref _)) _ _ _ | show wpAny _ _ (setItem (Value.ref _) (Value.int _ _) _) _ _ _))); (first | (k_unfold; (try dsimp only)) | (k_end; wrow_close) | walk1 | (dsimp only; walk1) | (leave1; walk_say "STEP leave1"; try dsimp only) | fail "no step")))
      rename News _ _ _ _ => N7
      refine lt_ent (N7 _ (.tail _ (hn1 _ han))).1 hen (N7 _ (.tail _ (hn1 _ hap))).1 hep (show un + 3 + 64 < cLine from by omega) ?_
      cases hlt : elt (g xs pos) (g xs2 ((n - 1) / 2)) with
      | true =>
        (repeat' ((fail_if_success (with_reducible show wpAny _ _ (subscriptTail _ _ (Value.ref _) (Value.int _ _)) _ _ _)); ((fail_if_success (with_reducible first | show wpAny _ _ (exec (Stmt.For _ _ _ _ _) _) _ _ _ | show wpAny _ _ (exec (Stmt.While _ _ _ _) _) _ _ _ | show wpAny _ _ (eval (Expr.ListComp _ _ _ _) _) _ _ _ | show wpAny _ _ (eval (Expr.Dict _ _ _) _) _ _ _ | show wpAny _ _ (binaryOp _ _ (Value.str (S (List.flatten _)) _)) _ _ _ | show wpAny _ _ (exec (Stmt.Assign _ (Expr.ListComp _ _ _ _) _) _) _ _ _ | show wpAny _ _ (call (Value.ref _) _ _) _ _ _ | show wpAny _ _ (pyIter _) _ _ _ | show wpAny _ _ (call (Value.builtin "len") [Value.ref _]) _ _ _ | show wpAny _ _ (subscriptTail _ _ (Value.ref _) (Value.ref _)) _ _ _ | show wpAny _ _ (compareOp CmpOp.Lt (Value.ref _) (Value.ref _)) _ _ _ | show wpAny _ _ (setItem (Value.ref _) (Value.int _ _) _) _ _ _))); (first | (k_unfold; (try dsimp only)) | (k_end; wrow_close) | walk1 | (dsimp only; walk1) | (leave1; walk_say "STEP leave1"; try dsimp only) | fail "no step")))
        rename Fr _ _ _ _ => F8
        refine set_H F8 N7 hne (by omega) (by omega) fun h8 F8 N8 => ?_
        (repeat' ((fail_if_success (with_reducible show wpAny _ _ (subscriptTail _ _ (Value.ref _) (Value.int _ _)) _ _ _)); ((fail_if_success (with_reducible first | show wpAny _ _ (exec (Stmt.For _ _ _ _ _) _) _ _ _ | show wpAny _ _ (exec (Stmt.While _ _ _ _) _) _ _ _ | show wpAny _ _ (eval (Expr.ListComp _ _ _ _) _) _ _ _ | show wpAny _ _ (eval (Expr.Dict _ _ _) _) _ _ _ | show wpAny _ _ (binaryOp _ _ (Value.str (S (List.flatten _)) _)) _ _ _ | show wpAny _ _ (exec (Stmt.Assign _ (Expr.ListComp _ _ _ _) _) _) _ _ _ | show wpAny _ _ (call (Value.ref _) _ _) _ _ _ | show wpAny _ _ (pyIter _) _ _ _ | show wpAny _ _ (call (Value.builtin "len") [Value.ref _]) _ _ _ | show wpAny _ _ (subscriptTail _ _ (Value.ref _) (Value.ref _)) _ _ _ | show wpAny _ _ (compareOp CmpOp.Lt (Value.ref _) (Value.ref _)) _ _ _ | show wpAny _ _ (setItem (Value.ref _) (Value.int _ _) _) _ _ _))); (first | (k_unfold; (try dsimp only)) | (k_end; wrow_close) | walk1 | (dsimp only; walk1) | (leave1; walk_say "STEP leave1"; try dsimp only) | fail "no step")))
        rename Fr _ _ _ _ => F9
        rename News _ _ _ _ => N9
        exact ⟨(n - 1) / 2, by omega, .mk F9 N9 ⟨_, _, xs2.set n (g xs2 ((n - 1) / 2)), _, t02, rfl, hst, hhp, hni, rfl, hE2.set (by omega) hap hep, by rw [List.length_set]; exact hl2, by omega, by rw [← hr2, sdown_up hn0 hlt]⟩⟩
      | false =>
        (repeat' ((fail_if_success (with_reducible show wpAny _ _ (subscriptTail _ _ (Value.ref _) (Value.int _ _)) _ _ _)); ((fail_if_success (with_reducible first | show wpAny _ _ (exec (Stmt.For _ _ _ _ _) _) _ _ _ | show wpAny _ _ (exec (Stmt.While _ _ _ _) _) _ _ _ | show wpAny _ _ (eval (Expr.ListComp _ _ _ _) _) _ _ _ | show wpAny _ _ (eval (Expr.Dict _ _ _) _) _ _ _ | show wpAny _ _ (binaryOp _ _ (Value.str (S (List.flatten _)) _)) _ _ _ | show wpAny _ _ (exec (Stmt.Assign _ (Expr.ListComp _ _ _ _) _) _) _ _ _ | show wpAny _ _ (call (Value.ref _) _ _) _ _ _ | show wpAny _ _ (pyIter _) _ _ _ | show wpAny _ _ (call (Value.builtin "len") [Value.ref _]) _ _ _ | show wpAny _ _ (subscriptTail _ _ (Value.ref _) (Value.ref _)) _ _ _ | show wpAny _ _ (compareOp CmpOp.Lt (Value.ref _) (Value.ref _)) _ _ _ | show wpAny _ _ (setItem (Value.ref _) (Value.int _ _) _) _ _ _))); (first | (k_unfold; (try dsimp only)) | (k_end; wrow_close) | walk1 | (dsimp only; walk1) | (leave1; walk_say "STEP leave1"; try dsimp only) | fail "no step")))
        rename Fr _ _ _ _ => F9
        rename News _ _ _ _ => N9
        exact .mk F9 N9 ⟨n, vs2, k2, xs2, tp2, hpos, hhp, hni, rfl, hE2, hl2, hn2, by rw [← hr2, sdown_stop hlt]⟩
  case fin =>
    clear F1 N1
    intro h5 tk5 m5 news5 F5 N5 hX
    obtain ⟨n, vs2, k2, xs2, tp2, hpos, hhp, hni, rfl, hE2, hl2, hn2, hr2⟩ := hX
    have hvl := hE2.1
    (repeat' ((fail_if_success (with_reducible show wpAny _ _ (subscriptTail _ _ (Value.ref _) (Value.int _ _)) _ _ _)); ((fail_if_success (with_reducible first | show wpAny _ _ (exec (Stmt.For _ _ _ _ _) _) _ _ _ | show wpAny _ _ (exec (Stmt.While _ _ _ _) _) _ _ _ | show wpAny _ _ (eval (Expr.ListComp _ _ _ _) _) _ _ _ | show wpAny _ _ (eval (Expr.Dict _ _ _) _) _ _ _ | show wpAny _ _ (binaryOp _ _ (Value.str (S (List.flatten _)) _)) _ _ _ | show wpAny _ _ (exec (Stmt.Assign _ (Expr.ListComp _ _ _ _) _) _) _ _ _ | show wpAny _ _ (call (Value.ref _) _ _) _ _ _ | show wpAny _ _ (pyIter _) _ _ _ | show wpAny _ _ (call (Value.builtin "len") [Value.ref _]) _ _ _ | show wpAny _ _ (subscriptTail _ _ (Value.ref _) (Value.ref _)) _ _ _ | show wpAny _ _ (compareOp CmpOp.Lt (Value.ref _) (Value.ref _)) _ _ _ | show wpAny _ _ (setItem (Value.ref _) (Value.int _ _) _) _ _ _))); (first | (k_unfold; (try dsimp only)) | (k_end; wrow_close) | walk1 | (dsimp only; walk1) | (leave1; walk_say "STEP leave1"; try dsimp only) | fail "no step")))
    refine set_H F5 N5 hne (by omega) (by omega) fun h8 F8 N8 => ?_
    (repeat' ((fail_if_success (with_reducible show wpAny _ _ (subscriptTail _ _ (Value.ref _) (Value.int _ _)) _ _ _)); ((fail_if_success (with_reducible first | show wpAny _ _ (exec (Stmt.For _ _ _ _ _) _) _ _ _ | show wpAny _ _ (exec (Stmt.While _ _ _ _) _) _ _ _ | show wpAny _ _ (eval (Expr.ListComp _ _ _ _) _) _ _ _ | show wpAny _ _ (eval (Expr.Dict _ _ _) _) _ _ _ | show wpAny _ _ (binaryOp _ _ (Value.str (S (List.flatten _)) _)) _ _ _ | show wpAny _ _ (exec (Stmt.Assign _ (Expr.ListComp _ _ _ _) _) _) _ _ _ | show wpAny _ _ (call (Value.ref _) _ _) _ _ _ | show wpAny _ _ (pyIter _) _ _ _ | show wpAny _ _ (call (Value.builtin "len") [Value.ref _]) _ _ _ | show wpAny _ _ (subscriptTail _ _ (Value.ref _) (Value.ref _)) _ _ _ | show wpAny _ _ (compareOp CmpOp.Lt (Value.ref _) (Value.ref _)) _ _ _ | show wpAny _ _ (setItem (Value.ref _) (Value.int _ _) _) _ _ _))); (first | (k_unfold; (try dsimp only)) | (k_end; wrow_close) | walk1 | (dsimp only; walk1) | (leave1; walk_say "STEP leave1"; try dsimp only) | fail "no step")))
    exact hret _ _ _ _ (by k_asm) (by k_asm) ⟨rfl, _, _, rfl, hr2 ▸ hE2.set (by omega) han hen⟩

end
section
def SuJ (res : List Ent × Nat) (len : Nat) (lh an : Addr) (news : Led) (n : Nat) (m₁ : Str → Option Value) (news₁ : Led) : Prop :=
  ∃ p vs k xs tp tc te t0, n = len - p ∧ m₁ "pos" = some (.int ((p : Nat) : Int) tp) ∧ m₁ "childpos" = some (.int ((2 * p + 1 : Nat) : Int) tc) ∧ m₁ "endpos" = some (.int (len : Int) te) ∧ m₁ "startpos" = some (.int 0 t0) ∧ m₁ "heap" = some (.ref lh) ∧ m₁ "newitem" = some (.ref an) ∧ news₁ = (lh, listOf (List.toArray vs) k) :: news ∧ Ents news vs xs ∧ xs.length = len ∧ p < len ∧ sup xs p = res
def SuX (res : List Ent × Nat) (len : Nat) (lh an : Addr) (news : Led) (m₁ : Str → Option Value) (news₁ : Led) : Prop :=
  ∃ p vs k xs tp t0, m₁ "pos" = some (.int ((p : Nat) : Int) tp) ∧ m₁ "startpos" = some (.int 0 t0) ∧ m₁ "heap" = some (.ref lh) ∧ m₁ "newitem" = some (.ref an) ∧ news₁ = (lh, listOf (List.toArray vs) k) :: news ∧ Ents news vs xs ∧ xs.length = len ∧ p < len ∧ res = (xs, p)
theorem sup_ctr (w loose mean mg mb) (lh : Addr) (vs : List Value) (k : Nat) (xs : List Ent) (t0 : Tok) (news : Led) (hE : Ents news vs xs) (hp : 0 < xs.length) (hz : xs.length ≤ 1000000) (hne : ∀ p ∈ news, p.1 ≠ lh) :
    Ctr w loose mean mg mb 127 14 [.ref lh, .int 0 t0] ((lh, listOf (List.toArray vs) k) :: news) (fun r news' => r = .none ∧ ∃ vs' k', news' = (lh, listOf (List.toArray vs') k') :: news ∧ Ents news vs' (siftup xs)) := by
  unfold Ctr; k_fill; intro dp un gd cn cs a ccd cl outer A₀ base h₀ L m s Q E B F X N T hk hC hd hu hret
  (refine wpAny_call ?_; k_dflt (refine' code_def ?k1 ?k2 ?k3 ?k4 ?k5 ?kA ?kF ?kK ?k6 ?k7 ?k8 ?k9 ?kB ?_ ?c2 ?c3 ?c4 ?c5; (case kA => exact rfl); (case kF => exact rfl); (case kK => assumption); (case k1 => k_asm); (case k2 => k_asm); (case k3 => k_asm); (case k4 => k_asm); (case k5 => k_asm); (case k6 => k_is); (case k7 => k_is); (case k8 => ktr_room); (case k9 => exact BindsTo.of_eq rfl); (case c5 => decide); (case kB => exact locs rfl); (case c2 => exact rfl); (case c3 => exact rfl); (case c4 => exact rfl); k_whole)); intro g' L' h' FG' F' N' B' X' T'; (try dsimp only); (try k_fold)
  (repeat' ((fail_if_success (with_reducible show wpAny _ _ (subscriptTail _ _ (Value.ref _) (Value.int _ _)) _ _ _)); ((fail_if_success (with_reducible first | show wpAny _ _ (exec (Stmt.For _ _ _ _ _) _) _ _ _ | show wpAny _ _ (exec (Stmt.While _ _ _ _) _) _ _ _ | show wpAny _ _ (eval (Expr.ListComp _ _ _ _) _) _ _ _ | show wpAny _ _ (eval (Expr.Dict _ _ _) _) _ _ _ | show wpAny _ _ (binaryOp _ _ (Value.str (S (List.flatten _)) _)) _ _ _ | show wpAny _ _ (exec (Stmt.Assign _ (Expr.ListComp _ _ _ _) _) _) _ _ _ | show wpAny _ _ (call (Value.ref _) _ _) _ _ _ | show wpAny _ _ (pyIter _) _ _ _ | show wpAny _ _ (call (Value.builtin "len") [Value.ref _]) _ _ _ | show wpAny _ _ (subscriptTail _ _ (Value.ref _) (Value.ref _)) _ _ _ | show wpAny _ _ (compareOp CmpOp.Lt (Value.ref _) (Value.ref _)) _ _ _ | show wpAny _ _ (setItem (Value.ref _) (Value.int _ _) _) _ _ _))); (first | (k_unfold; (try dsimp only)) | (k_end; wrow_close) | walk1 | (dsimp only; walk1) | (leave1; walk_say "STEP leave1"; try dsimp only) | fail "no step")))
  rename News _ _ _ ((lh, _) :: _) => N0
  have hvl0 := hE.1
  refine len_N (n := (xs.length : Int)) N0 (.head _) (by rw [List.size_toArray]; omega) (by rw [List.size_toArray, hvl0]) ?_
  (repeat' ((fail_if_success (with_reducible show wpAny _ _ (subscriptTail _ _ (Value.ref _) (Value.int _ _)) _ _ _)); ((fail_if_success (with_reducible first | show wpAny _ _ (exec (Stmt.For _ _ _ _ _) _) _ _ _ | show wpAny _ _ (exec (Stmt.While _ _ _ _) _) _ _ _ | show wpAny _ _ (eval (Expr.ListComp _ _ _ _) _) _ _ _ | show wpAny _ _ (eval (Expr.Dict _ _ _) _) _ _ _ | show wpAny _ _ (binaryOp _ _ (Value.str (S (List.flatten _)) _)) _ _ _ | show wpAny _ _ (exec (Stmt.Assign _ (Expr.ListComp _ _ _ _) _) _) _ _ _ | show wpAny _ _ (call (Value.ref _) _ _) _ _ _ | show wpAny _ _ (pyIter _) _ _ _ | show wpAny _ _ (call (Value.builtin "len") [Value.ref _]) _ _ _ | show wpAny _ _ (subscriptTail _ _ (Value.ref _) (Value.ref _)) _ _ _ | show wpAny _ _ (compareOp CmpOp.Lt (Value.ref _) (Value.ref _)) _ _ _ | show wpAny _ _ (setItem (Value.ref _) (Value.int _ _) _) _ _ _))); (first | (k_unfold; (try dsimp only)) | (k_end; wrow_close) | walk1 | (dsimp only; walk1) | (leave1; walk_say "STEP leave1"; try dsimp only) | fail "no step")))
  rename News _ _ _ ((lh, _) :: _) => N0'
  obtain ⟨an, on, hv, han, hen⟩ := hE.get hp
  refine item_L (i := 0) N0' (.head _) (by rw [List.size_toArray]; omega) (v := .ref an) (by simpa using hv) ?_
  (repeat' ((fail_if_success (with_reducible show wpAny _ _ (subscriptTail _ _ (Value.ref _) (Value.int _ _)) _ _ _)); ((fail_if_success (with_reducible first | show wpAny _ _ (exec (Stmt.For _ _ _ _ _) _) _ _ _ | show wpAny _ _ (exec (Stmt.While _ _ _ _) _) _ _ _ | show wpAny _ _ (eval (Expr.ListComp _ _ _ _) _) _ _ _ | show wpAny _ _ (eval (Expr.Dict _ _ _) _) _ _ _ | show wpAny _ _ (binaryOp _ _ (Value.str (S (List.flatten _)) _)) _ _ _ | show wpAny _ _ (exec (Stmt.Assign _ (Expr.ListComp _ _ _ _) _) _) _ _ _ | show wpAny _ _ (call (Value.ref _) _ _) _ _ _ | show wpAny _ _ (pyIter _) _ _ _ | show wpAny _ _ (call (Value.builtin "len") [Value.ref _]) _ _ _ | show wpAny _ _ (subscriptTail _ _ (Value.ref _) (Value.ref _)) _ _ _ | show wpAny _ _ (compareOp CmpOp.Lt (Value.ref _) (Value.ref _)) _ _ _ | show wpAny _ _ (setItem (Value.ref _) (Value.int _ _) _) _ _ _))); (first | (k_unfold; (try dsimp only)) | (k_end; wrow_close) | walk1 | (dsimp only; walk1) | (leave1; walk_say "STEP leave1"; try dsimp only) | fail "no step")))
  rename Fr _ _ _ _ => F1
  rename News _ _ _ _ => N1
  refine While_J (n₀ := xs.length - 0) (SuJ (sup xs 0) xs.length lh an news) (SuX (sup xs 0) xs.length lh an news) F1 N1 ⟨0, vs, k, xs, _, _, _, _, rfl, rfl, rfl, rfl, rfl, rfl, rfl, rfl, hE, rfl, hp, rfl⟩ ?turn ?fin (hE := ?pe)
  case pe => first | passes_own | with_unfolding_all passes_own
  case turn =>
    clear F1 N1
    intro n m₁ news₁ h₁ tk₁ F4 N4 hJ
    obtain ⟨p, vs2, k2, xs2, tp, tc, te, t0', rfl, hpos, hch, hend, hst, hhp, hni, rfl, hE2, hl2, hp2, hr2⟩ := hJ
    have hvl := hE2.1
    by_cases hc : 2 * p + 1 < xs.length
    · ((repeat' (((fail_if_success (with_reducible first | show wpAny _ _ (exec (Stmt.For _ _ _ _ _) _) _ _ _ | show wpAny _ _ (exec (Stmt.While _ _ _ _) _) _ _ _ | show wpAny _ _ (eval (Expr.ListComp _ _ _ _) _) _ _ _ | show wpAny _ _ (eval (Expr.Dict _ _ _) _) _ _ _ | show wpAny _ _ (binaryOp _ _ (Value.str (S (List.flatten _)) _)) _ _ _ | show wpAny _ _ (exec (Stmt.Assign _ (Expr.ListComp _ _ _ _) _) _) _ _ _ | show wpAny _ _ (call (Value.ref _) _ _) _ _ _ | show wpAny _ _ (pyIter _) _ _ _ | show wpAny _ _ (call (Value.builtin "len") [Value.ref _]) _ _ _ | show wpAny _ _ (subscriptTail _ _ (Value.ref _) (Value.ref _)) _ _ _ | show wpAny _ _ (compareOp CmpOp.Lt (Value.ref _) (Value.ref _)) _ _ _ | show wpAny _ _ (setItem (Value.ref _) (Value.int _ _) _) _ _ _))); (first | (k_unfold; (try dsimp only)) | (k_end; wrow_close) | walk1 | (dsimp only; walk1) | (leave1; walk_say "STEP leave1"; try dsimp only) | fail "no step"))))
      · have e2 : ((2 * p + 1 : Nat) : Int) + 1 = ((2 * p + 2 : Nat) : Int) := by omega
        have hc2 : 2 * p + 2 < xs.length := by rename (_ : Int) < _ => hq; omega
        rename Fr _ _ _ _ => F6
        rename News _ _ _ ((lh, _) :: _) => N6
        rw [e2] at F6
        obtain ⟨a1, o1, hv1, ha1, he1⟩ := hE2.get (i := 2 * p + 1) (by omega)
        obtain ⟨a2, o2, hv2, ha2, he2⟩ := hE2.get (i := 2 * p + 2) (by omega)
        refine item_L N6 (.head _) (by rw [List.size_toArray]; omega) (v := .ref a1) (by simpa using hv1) ?_
        (repeat' ((fail_if_success (with_reducible show wpAny _ _ (subscriptTail _ _ (Value.ref _) (Value.int _ _)) _ _ _)); ((fail_if_success (with_reducible first | show wpAny _ _ (exec (Stmt.For _ _ _ _ _) _) _ _ _ | show wpAny _ _ (exec (Stmt.While _ _ _ _) _) _ _ _ | show wpAny _ _ (eval (Expr.ListComp _ _ _ _) _) _ _ _ | show wpAny _ _ (eval (Expr.Dict _ _ _) _) _ _ _ | show wpAny _ _ (binaryOp _ _ (Value.str (S (List.flatten _)) _)) _ _ _ | show wpAny _ _ (exec (Stmt.Assign _ (Expr.ListComp _ _ _ _) _) _) _ _ _ | show wpAny _ _ (call (Value.ref _) _ _) _ _ _ | show wpAny _ _ (pyIter _) _ _ _ | show wpAny _ _ (call (Value.builtin "len") [Value.ref _]) _ _ _ | show wpAny _ _ (subscriptTail _ _ (Value.ref _) (Value.ref _)) _ _ _ | show wpAny _ _ (compareOp CmpOp.Lt (Value.ref _) (Value.ref _)) _ _ _ | show wpAny _ _ (setItem (Value.ref _) (Value.int _ _) _) _ _ _))); (first | (k_unfold; (try dsimp only)) | (k_end; wrow_close) | walk1 | (dsimp only; walk1) | (leave1; walk_say "STEP leave1"; try dsimp only) | fail "no step")))
        refine item_L N6 (.head _) (by rw [List.size_toArray]; omega) (v := .ref a2) (by simpa using hv2) ?_
        (repeat' ((fail_if_success (with_reducible show wpAny _ _ (subscriptTail _ _ (Value.ref _) (Value.int _ _)) _ _ _)); ((fail_if_success (with_reducible first | show wpAny _ _ (exec (Stmt.For _ _ _ _ _) _) _ _ _ | show wpAny _ _ (exec (Stmt.While _ _ _ _) _) _ _ _ | show wpAny _ _ (eval (Expr.ListComp _ _ _ _) _) _ _ _ | show wpAny _ _ (eval (Expr.Dict _ _ _) _) _ _ _ | show wpAny _ _ (binaryOp _ _ (Value.str (S (List.flatten _)) _)) _ _ _ | show wpAny _ _ (exec (Stmt.Assign _ (Expr.ListComp _ _ _ _) _) _) _ _ _ | show wpAny _ _ (call (Value.ref _) _ _) _ _ _ | show wpAny _ _ (pyIter _) _ _ _ | show wpAny _ _ (call (Value.builtin "len") [Value.ref _]) _ _ _ | show wpAny _ _ (subscriptTail _ _ (Value.ref _) (Value.ref _)) _ _ _ | show wpAny _ _ (compareOp CmpOp.Lt (Value.ref _) (Value.ref _)) _ _ _ | show wpAny _ _ (setItem (Value.ref _) (Value.int _ _) _) _ _ _))); (first | (k_unfold; (try dsimp only)) | (k_end; wrow_close) | walk1 | (dsimp only; walk1) | (leave1; walk_say "STEP leave1"; try dsimp only) | fail "no step")))
        refine lt_ent (N6 _ (.tail _ ha1)).1 he1 (N6 _ (.tail _ ha2)).1 he2 (show un + 3 + 64 < cLine from by omega) ?_
        cases hlt : elt (g xs2 (2 * p + 1)) (g xs2 (2 * p + 2)) with
        | true =>
          have hcd : child xs2 p = 2 * p + 1 := by unfold child; rw [if_neg (by rw [hlt]; exact fun h => absurd h.2 (by decide))]
          (repeat' ((fail_if_success (with_reducible show wpAny _ _ (subscriptTail _ _ (Value.ref _) (Value.int _ _)) _ _ _)); ((fail_if_success (with_reducible first | show wpAny _ _ (exec (Stmt.For _ _ _ _ _) _) _ _ _ | show wpAny _ _ (exec (Stmt.While _ _ _ _) _) _ _ _ | show wpAny _ _ (eval (Expr.ListComp _ _ _ _) _) _ _ _ | show wpAny _ _ (eval (Expr.Dict _ _ _) _) _ _ _ | show wpAny _ _ (binaryOp _ _ (Value.str (S (List.flatten _)) _)) _ _ _ | show wpAny _ _ (exec (Stmt.Assign _ (Expr.ListComp _ _ _ _) _) _) _ _ _ | show wpAny _ _ (call (Value.ref _) _ _) _ _ _ | show wpAny _ _ (pyIter _) _ _ _ | show wpAny _ _ (call (Value.builtin "len") [Value.ref _]) _ _ _ | show wpAny _ _ (subscriptTail _ _ (Value.ref _) (Value.ref _)) _ _ _ | show wpAny _ _ (compareOp CmpOp.Lt (Value.ref _) (Value.ref _)) _ _ _ | show wpAny _ _ (setItem (Value.ref _) (Value.int _ _) _) _ _ _))); (first | (k_unfold; (try dsimp only)) | (k_end; wrow_close) | walk1 | (dsimp only; walk1) | (leave1; walk_say "STEP leave1"; try dsimp only) | fail "no step")))
          rename News _ _ _ ((lh, _) :: _) => N7
          obtain ⟨ac, oc, hvc, hac, hec⟩ := hE2.get (i := 2 * p + 1) (by omega)
          refine item_L N7 (.head _) (by rw [List.size_toArray]; omega) (v := .ref ac) (by simpa using hvc) ?_
          (repeat' ((fail_if_success (with_reducible show wpAny _ _ (subscriptTail _ _ (Value.ref _) (Value.int _ _)) _ _ _)); ((fail_if_success (with_reducible first | show wpAny _ _ (exec (Stmt.For _ _ _ _ _) _) _ _ _ | show wpAny _ _ (exec (Stmt.While _ _ _ _) _) _ _ _ | show wpAny _ _ (eval (Expr.ListComp _ _ _ _) _) _ _ _ | show wpAny _ _ (eval (Expr.Dict _ _ _) _) _ _ _ | show wpAny _ _ (binaryOp _ _ (Value.str (S (List.flatten _)) _)) _ _ _ | show wpAny _ _ (exec (Stmt.Assign _ (Expr.ListComp _ _ _ _) _) _) _ _ _ | show wpAny _ _ (call (Value.ref _) _ _) _ _ _ | show wpAny _ _ (pyIter _) _ _ _ | show wpAny _ _ (call (Value.builtin "len") [Value.ref _]) _ _ _ | show wpAny _ _ (subscriptTail _ _ (Value.ref _) (Value.ref _)) _ _ _ | show wpAny _ _ (compareOp CmpOp.Lt (Value.ref _) (Value.ref _)) _ _ _ | show wpAny _ _ (setItem (Value.ref _) (Value.int _ _) _) _ _ _))); (first | (k_unfold; (try dsimp only)) | (k_end; wrow_close) | walk1 | (dsimp only; walk1) | (leave1; walk_say "STEP leave1"; try dsimp only) | fail "no step")))
          rename Fr _ _ _ _ => F8
          rename News _ _ _ ((lh, _) :: _) => N8
          refine set_H F8 N8 hne (by omega) (by omega) fun h9 F9 N9 => ?_
          (repeat' ((fail_if_success (with_reducible show wpAny _ _ (subscriptTail _ _ (Value.ref _) (Value.int _ _)) _ _ _)); ((fail_if_success (with_reducible first | show wpAny _ _ (exec (Stmt.For _ _ _ _ _) _) _ _ _ | show wpAny _ _ (exec (Stmt.While _ _ _ _) _) _ _ _ | show wpAny _ _ (eval (Expr.ListComp _ _ _ _) _) _ _ _ | show wpAny _ _ (eval (Expr.Dict _ _ _) _) _ _ _ | show wpAny _ _ (binaryOp _ _ (Value.str (S (List.flatten _)) _)) _ _ _ | show wpAny _ _ (exec (Stmt.Assign _ (Expr.ListComp _ _ _ _) _) _) _ _ _ | show wpAny _ _ (call (Value.ref _) _ _) _ _ _ | show wpAny _ _ (pyIter _) _ _ _ | show wpAny _ _ (call (Value.builtin "len") [Value.ref _]) _ _ _ | show wpAny _ _ (subscriptTail _ _ (Value.ref _) (Value.ref _)) _ _ _ | show wpAny _ _ (compareOp CmpOp.Lt (Value.ref _) (Value.ref _)) _ _ _ | show wpAny _ _ (setItem (Value.ref _) (Value.int _ _) _) _ _ _))); (first | (k_unfold; (try dsimp only)) | (k_end; wrow_close) | walk1 | (dsimp only; walk1) | (leave1; walk_say "STEP leave1"; try dsimp only) | fail "no step")))
          rename Fr _ _ _ _ => F10
          rename News _ _ _ ((lh, _) :: _) => N10
          exact ⟨xs.length - (2 * p + 1), by omega, .mk F10 N10 ⟨2 * p + 1, _, _, xs2.set p (g xs2 (2 * p + 1)), _, _, te, t0', rfl, rfl, rfl, hend, hst, hhp, hni, rfl, hE2.set (by omega) hac hec, by rw [List.length_set]; exact hl2, by omega, by rw [← hr2, sup_go (xs := xs2) (n := p) (by omega), hcd]⟩⟩
        | false =>
          have hcd : child xs2 p = 2 * p + 2 := by unfold child; rw [if_pos ⟨by omega, hlt⟩]
          (repeat' ((fail_if_success (with_reducible show wpAny _ _ (subscriptTail _ _ (Value.ref _) (Value.int _ _)) _ _ _)); ((fail_if_success (with_reducible first | show wpAny _ _ (exec (Stmt.For _ _ _ _ _) _) _ _ _ | show wpAny _ _ (exec (Stmt.While _ _ _ _) _) _ _ _ | show wpAny _ _ (eval (Expr.ListComp _ _ _ _) _) _ _ _ | show wpAny _ _ (eval (Expr.Dict _ _ _) _) _ _ _ | show wpAny _ _ (binaryOp _ _ (Value.str (S (List.flatten _)) _)) _ _ _ | show wpAny _ _ (exec (Stmt.Assign _ (Expr.ListComp _ _ _ _) _) _) _ _ _ | show wpAny _ _ (call (Value.ref _) _ _) _ _ _ | show wpAny _ _ (pyIter _) _ _ _ | show wpAny _ _ (call (Value.builtin "len") [Value.ref _]) _ _ _ | show wpAny _ _ (subscriptTail _ _ (Value.ref _) (Value.ref _)) _ _ _ | show wpAny _ _ (compareOp CmpOp.Lt (Value.ref _) (Value.ref _)) _ _ _ | show wpAny _ _ (setItem (Value.ref _) (Value.int _ _) _) _ _ _))); (first | (k_unfold; (try dsimp only)) | (k_end; wrow_close) | walk1 | (dsimp only; walk1) | (leave1; walk_say "STEP leave1"; try dsimp only) | fail "no step")))
          rename News _ _ _ ((lh, _) :: _) => N7
          obtain ⟨ac, oc, hvc, hac, hec⟩ := hE2.get (i := 2 * p + 2) (by omega)
          refine item_L N7 (.head _) (by rw [List.size_toArray]; omega) (v := .ref ac) (by simpa using hvc) ?_
          (repeat' ((fail_if_success (with_reducible show wpAny _ _ (subscriptTail _ _ (Value.ref _) (Value.int _ _)) _ _ _)); ((fail_if_success (with_reducible first | show wpAny _ _ (exec (Stmt.For _ _ _ _ _) _) _ _ _ | show wpAny _ _ (exec (Stmt.While _ _ _ _) _) _ _ _ | show wpAny _ _ (eval (Expr.ListComp _ _ _ _) _) _ _ _ | show wpAny _ _ (eval (Expr.Dict _ _ _) _) _ _ _ | show wpAny _ _ (binaryOp _ _ (Value.str (S (List.flatten _)) _)) _ _ _ | show wpAny _ _ (exec (Stmt.Assign _ (Expr.ListComp _ _ _ _) _) _) _ _ _ | show wpAny _ _ (call (Value.ref _) _ _) _ _ _ | show wpAny _ _ (pyIter _) _ _ _ | show wpAny _ _ (call (Value.builtin "len") [Value.ref _]) _ _ _ | show wpAny _ _ (subscriptTail _ _ (Value.ref _) (Value.ref _)) _ _ _ | show wpAny _ _ (compareOp CmpOp.Lt (Value.ref _) (Value.ref _)) _ _ _ | show wpAny _ _ (setItem (Value.ref _) (Value.int _ _) _) _ _ _))); (first | (k_unfold; (try dsimp only)) | (k_end; wrow_close) | walk1 | (dsimp only; walk1) | (leave1; walk_say "STEP leave1"; try dsimp only) | fail "no step")))
          rename Fr _ _ _ _ => F8
          rename News _ _ _ ((lh, _) :: _) => N8
          refine set_H F8 N8 hne (by omega) (by omega) fun h9 F9 N9 => ?_
          (repeat' ((fail_if_success (with_reducible show wpAny _ _ (subscriptTail _ _ (Value.ref _) (Value.int _ _)) _ _ _)); ((fail_if_success (with_reducible first | show wpAny _ _ (exec (Stmt.For _ _ _ _ _) _) _ _ _ | show wpAny _ _ (exec (Stmt.While _ _ _ _) _) _ _ _ | show wpAny _ _ (eval (Expr.ListComp _ _ _ _) _) _ _ _ | show wpAny _ _ (eval (Expr.Dict _ _ _) _) _ _ _ | show wpAny _ _ (binaryOp _ _ (Value.str (S (List.flatten _)) _)) _ _ _ | show wpAny _ _ (exec (Stmt.Assign _ (Expr.ListComp _ _ _ _) _) _) _ _ _ | show wpAny _ _ (call (Value.ref _) _ _) _ _ _ | show wpAny _ _ (pyIter _) _ _ _ | show wpAny _ _ (call (Value.builtin "len") [Value.ref _]) _ _ _ | show wpAny _ _ (subscriptTail _ _ (Value.ref _) (Value.ref _)) _ _ _ | show wpAny _ _ (compareOp CmpOp.Lt (Value.ref _) (Value.ref _)) _ _ _ | show wpAny _ _ (setItem (Value.ref _) (Value.int _ _) _) _ _ _))); (first | (k_unfold; (try dsimp only)) | (k_end; wrow_close) | walk1 | (dsimp only; walk1) | (leave1; walk_say "STEP leave1"; try dsimp only) | fail "no step")))
          rename Fr _ _ _ _ => F10
          rename News _ _ _ ((lh, _) :: _) => N10
          exact ⟨xs.length - (2 * p + 2), by omega, .mk F10 N10 ⟨2 * p + 2, _, _, xs2.set p (g xs2 (2 * p + 2)), _, _, te, t0', rfl, rfl, rfl, hend, hst, hhp, hni, rfl, hE2.set (by omega) hac hec, by rw [List.length_set]; exact hl2, by omega, by rw [← hr2, sup_go (xs := xs2) (n := p) (by omega), hcd]⟩⟩
      · have hcd : child xs2 p = 2 * p + 1 := by
          unfold child
          rw [if_neg]
          rename ¬ (_ : Int) < _ => hq
          exact fun h => hq (by have := h.1; omega)
        rename News _ _ _ ((lh, _) :: _) => N7
        obtain ⟨ac, oc, hvc, hac, hec⟩ := hE2.get (i := 2 * p + 1) (by omega)
        refine item_L N7 (.head _) (by rw [List.size_toArray]; omega) (v := .ref ac) (by simpa using hvc) ?_
        (repeat' ((fail_if_success (with_reducible show wpAny _ _ (subscriptTail _ _ (Value.ref _) (Value.int _ _)) _ _ _)); ((fail_if_success (with_reducible first | show wpAny _ _ (exec (Stmt.For _ _ _ _ _) _) _ _ _ | show wpAny _ _ (exec (Stmt.While _ _ _ _) _) _ _ _ | show wpAny _ _ (eval (Expr.ListComp _ _ _ _) _) _ _ _ | show wpAny _ _ (eval (Expr.Dict _ _ _) _) _ _ _ | show wpAny _ _ (binaryOp _ _ (Value.str (S (List.flatten _)) _)) _ _ _ | show wpAny _ _ (exec (Stmt.Assign _ (Expr.ListComp _ _ _ _) _) _) _ _ _ | show wpAny _ _ (call (Value.ref _) _ _) _ _ _ | show wpAny _ _ (pyIter _) _ _ _ | show wpAny _ _ (call (Value.builtin "len") [Value.ref _]) _ _ _ | show wpAny _ _ (subscriptTail _ _ (Value.ref _) (Value.ref _)) _ _ _ | show wpAny _ _ (compareOp CmpOp.Lt (Value.ref _) (Value.ref _)) _ _ _ | show wpAny _ _ (setItem (Value.ref _) (Value.int _ _) _) _ _ _))); (first | (k_unfold; (try dsimp only)) | (k_end; wrow_close) | walk1 | (dsimp only; walk1) | (leave1; walk_say "STEP leave1"; try dsimp only) | fail "no step")))
        rename Fr _ _ _ _ => F8
        rename News _ _ _ ((lh, _) :: _) => N8
        refine set_H F8 N8 hne (by omega) (by omega) fun h9 F9 N9 => ?_
        (repeat' ((fail_if_success (with_reducible show wpAny _ _ (subscriptTail _ _ (Value.ref _) (Value.int _ _)) _ _ _)); ((fail_if_success (with_reducible first | show wpAny _ _ (exec (Stmt.For _ _ _ _ _) _) _ _ _ | show wpAny _ _ (exec (Stmt.While _ _ _ _) _) _ _ _ | show wpAny _ _ (eval (Expr.ListComp _ _ _ _) _) _ _ _ | show wpAny _ _ (eval (Expr.Dict _ _ _) _) _ _ _ | show wpAny _ _ (binaryOp _ _ (Value.str (S (List.flatten _)) _)) _ _ _ | show wpAny _ _ (exec (Stmt.Assign _ (Expr.ListComp _ _ _ _) _) _) _ _ _ | show wpAny _ _ (call (Value.ref _) _ _) _ _ _ | show wpAny _ _ (pyIter _) _ _ _ | show wpAny _ _ (call (Value.builtin "len") [Value.ref _]) _ _ _ | show wpAny _ _ (subscriptTail _ _ (Value.ref _) (Value.ref _)) _ _ _ | show wpAny _ _ (compareOp CmpOp.Lt (Value.ref _) (Value.ref _)) _ _ _ | show wpAny _ _ (setItem (Value.ref _) (Value.int _ _) _) _ _ _))); (first | (k_unfold; (try dsimp only)) | (k_end; wrow_close) | walk1 | (dsimp only; walk1) | (leave1; walk_say "STEP leave1"; try dsimp only) | fail "no step")))
        rename Fr _ _ _ _ => F10
        rename News _ _ _ ((lh, _) :: _) => N10
        exact ⟨xs.length - (2 * p + 1), by omega, .mk F10 N10 ⟨2 * p + 1, _, _, xs2.set p (g xs2 (2 * p + 1)), _, _, te, t0', rfl, rfl, rfl, hend, hst, hhp, hni, rfl, hE2.set (by omega) hac hec, by rw [List.length_set]; exact hl2, by omega, by rw [← hr2, sup_go (xs := xs2) (n := p) (by omega), hcd]⟩⟩
    · have hc' : ¬ ((2 * p + 1 : Nat) : Int) < (xs.length : Int) := by omega
      (repeat' ((fail_if_success (with_reducible show wpAny _ _ (subscriptTail _ _ (Value.ref _) (Value.int _ _)) _ _ _)); ((fail_if_success (with_reducible first | show wpAny _ _ (exec (Stmt.For _ _ _ _ _) _) _ _ _ | show wpAny _ _ (exec (Stmt.While _ _ _ _) _) _ _ _ | show wpAny _ _ (eval (Expr.ListComp _ _ _ _) _) _ _ _ | show wpAny _ _ (eval (Expr.Dict _ _ _) _) _ _ _ | show wpAny _ _ (binaryOp _ _ (Value.str (S (List.flatten _)) _)) _ _ _ | show wpAny _ _ (exec (Stmt.Assign _ (Expr.ListComp _ _ _ _) _) _) _ _ _ | show wpAny _ _ (call (Value.ref _) _ _) _ _ _ | show wpAny _ _ (pyIter _) _ _ _ | show wpAny _ _ (call (Value.builtin "len") [Value.ref _]) _ _ _ | show wpAny _ _ (subscriptTail _ _ (Value.ref _) (Value.ref _)) _ _ _ | show wpAny _ _ (compareOp CmpOp.Lt (Value.ref _) (Value.ref _)) _ _ _ | show wpAny _ _ (setItem (Value.ref _) (Value.int _ _) _) _ _ _))); (first | (k_unfold; (try dsimp only)) | (k_end; wrow_close) | walk1 | (dsimp only; walk1) | (leave1; walk_say "STEP leave1"; try dsimp only) | fail "no step")))
      exact .mk F4 N4 ⟨p, vs2, k2, xs2, tp, t0', hpos, hst, hhp, hni, rfl, hE2, hl2, hp2, by rw [← hr2, sup_end (by omega)]⟩
  case fin =>
    clear F1 N1
    intro h5 tk5 m5 news5 F5 N5 hX
    obtain ⟨p, vs2, k2, xs2, tp, t0', hpos, hst, hhp, hni, rfl, hE2, hl2, hp2, hr2⟩ := hX
    have hvl := hE2.1
    (repeat' ((fail_if_success (with_reducible show wpAny _ _ (subscriptTail _ _ (Value.ref _) (Value.int _ _)) _ _ _)); ((fail_if_success (with_reducible first | show wpAny _ _ (exec (Stmt.For _ _ _ _ _) _) _ _ _ | show wpAny _ _ (exec (Stmt.While _ _ _ _) _) _ _ _ | show wpAny _ _ (eval (Expr.ListComp _ _ _ _) _) _ _ _ | show wpAny _ _ (eval (Expr.Dict _ _ _) _) _ _ _ | show wpAny _ _ (binaryOp _ _ (Value.str (S (List.flatten _)) _)) _ _ _ | show wpAny _ _ (exec (Stmt.Assign _ (Expr.ListComp _ _ _ _) _) _) _ _ _ | show wpAny _ _ (call (Value.ref _) _ _) _ _ _ | show wpAny _ _ (pyIter _) _ _ _ | show wpAny _ _ (call (Value.builtin "len") [Value.ref _]) _ _ _ | show wpAny _ _ (subscriptTail _ _ (Value.ref _) (Value.ref _)) _ _ _ | show wpAny _ _ (compareOp CmpOp.Lt (Value.ref _) (Value.ref _)) _ _ _ | show wpAny _ _ (setItem (Value.ref _) (Value.int _ _) _) _ _ _))); (first | (k_unfold; (try dsimp only)) | (k_end; wrow_close) | walk1 | (dsimp only; walk1) | (leave1; walk_say "STEP leave1"; try dsimp only) | fail "no step")))
    refine set_H F5 N5 hne (by omega) (by omega) fun h8 F8 N8 => ?_
    (repeat' ((fail_if_success (with_reducible show wpAny _ _ (subscriptTail _ _ (Value.ref _) (Value.int _ _)) _ _ _)); ((fail_if_success (with_reducible first | show wpAny _ _ (exec (Stmt.For _ _ _ _ _) _) _ _ _ | show wpAny _ _ (exec (Stmt.While _ _ _ _) _) _ _ _ | show wpAny _ _ (eval (Expr.ListComp _ _ _ _) _) _ _ _ | show wpAny _ _ (eval (Expr.Dict _ _ _) _) _ _ _ | show wpAny _ _ (binaryOp _ _ (Value.str (S (List.flatten _)) _)) _ _ _ | show wpAny _ _ (exec (Stmt.Assign _ (Expr.ListComp _ _ _ _) _) _) _ _ _ | show wpAny _ _ (call (Value.ref _) _ _) _ _ _ | show wpAny _ _ (pyIter _) _ _ _ | show wpAny _ _ (call (Value.builtin "len") [Value.ref _]) _ _ _ | show wpAny _ _ (subscriptTail _ _ (Value.ref _) (Value.ref _)) _ _ _ | show wpAny _ _ (compareOp CmpOp.Lt (Value.ref _) (Value.ref _)) _ _ _ | show wpAny _ _ (setItem (Value.ref _) (Value.int _ _) _) _ _ _))); (first | (k_unfold; (try dsimp only)) | (k_end; wrow_close) | walk1 | (dsimp only; walk1) | (leave1; walk_say "STEP leave1"; try dsimp only) | fail "no step")))
    rename Fr _ _ _ _ => F9
    rename News _ _ _ ((lh, _) :: _) => N9
    have hg : g (xs2.set p (g xs 0)) p = g xs 0 := by rw [g_set _ _ _ _ (by omega), if_pos rfl]
    refine (sdown_ctr w loose mean mg mb lh _ _ (xs2.set p (g xs 0)) p _ _ news news (fun _ h => h) (hE2.set (by omega) han hen) (by rw [List.length_set]; omega) (by rw [List.length_set]; omega) hne).use B' F9 X' N9 T' rfl (hC.keeps FG'.keep) ?_ ?_ ?_
    · exact (by omega : dp + 1 + 12 < recursionLimit)
    · exact (by omega : un + 3 + 8 * 12 < cLine)
    intro r10 news10 h10 tk10 F10 N10 hp10
    obtain ⟨rfl, vs10, k10, rfl, hE10⟩ := hp10
    (repeat' ((fail_if_success (with_reducible show wpAny _ _ (subscriptTail _ _ (Value.ref _) (Value.int _ _)) _ _ _)); ((fail_if_success (with_reducible first | show wpAny _ _ (exec (Stmt.For _ _ _ _ _) _) _ _ _ | show wpAny _ _ (exec (Stmt.While _ _ _ _) _) _ _ _ | show wpAny _ _ (eval (Expr.ListComp _ _ _ _) _) _ _ _ | show wpAny _ _ (eval (Expr.Dict _ _ _) _) _ _ _ | show wpAny _ _ (binaryOp _ _ (Value.str (S (List.flatten _)) _)) _ _ _ | show wpAny _ _ (exec (Stmt.Assign _ (Expr.ListComp _ _ _ _) _) _) _ _ _ | show wpAny _ _ (call (Value.ref _) _ _) _ _ _ | show wpAny _ _ (pyIter _) _ _ _ | show wpAny _ _ (call (Value.builtin "len") [Value.ref _]) _ _ _ | show wpAny _ _ (subscriptTail _ _ (Value.ref _) (Value.ref _)) _ _ _ | show wpAny _ _ (compareOp CmpOp.Lt (Value.ref _) (Value.ref _)) _ _ _ | show wpAny _ _ (setItem (Value.ref _) (Value.int _ _) _) _ _ _))); (first | (k_unfold; (try dsimp only)) | (k_end; wrow_close) | walk1 | (dsimp only; walk1) | (leave1; walk_say "STEP leave1"; try dsimp only) | fail "no step")))
    refine hret _ _ _ _ (by k_asm) (by k_asm) ⟨rfl, _, _, rfl, ?_⟩
    rw [hg] at hE10
    unfold siftup
    rw [hr2]
    exact hE10

end
section
theorem push_ctr (w loose mean mg mb) (lh ai : Addr) (oi : Obj) (e : Ent) (vs : List Value) (k : Nat) (xs : List Ent) (news n1 : Led) (hn1 : ∀ p ∈ n1, p ∈ news) (hE : Ents n1 vs xs) (hi : (ai, oi) ∈ n1) (hei : EntO e oi) (hz : xs.length ≤ 100000) (hne : ∀ p ∈ news, p.1 ≠ lh) :
    Ctr w loose mean mg mb 106 14 [.ref lh, .ref ai] ((lh, listOf (List.toArray vs) k) :: news) (fun r news' => r = .none ∧ ∃ vs' k', news' = (lh, listOf (List.toArray vs') k') :: news ∧ Ents n1 vs' (hpush xs e)) := by
  unfold Ctr; k_fill; intro dp un gd cn cs a ccd cl outer A₀ base h₀ L m s Q E B F X N T hk hC hd hu hret
  (refine wpAny_call ?_; k_dflt (refine' code_def ?k1 ?k2 ?k3 ?k4 ?k5 ?kA ?kF ?kK ?k6 ?k7 ?k8 ?k9 ?kB ?_ ?c2 ?c3 ?c4 ?c5; (case kA => exact rfl); (case kF => exact rfl); (case kK => assumption); (case k1 => k_asm); (case k2 => k_asm); (case k3 => k_asm); (case k4 => k_asm); (case k5 => k_asm); (case k6 => k_is); (case k7 => k_is); (case k8 => ktr_room); (case k9 => exact BindsTo.of_eq rfl); (case c5 => decide); (case kB => exact locs rfl); (case c2 => exact rfl); (case c3 => exact rfl); (case c4 => exact rfl); k_whole)); intro g' L' h' FG' F' N' B' X' T'; (try dsimp only); (try k_fold)
  have hvl := hE.1
  (repeat' ((fail_if_success (with_reducible show wpAny _ _ (subscriptTail _ _ (Value.ref _) (Value.int _ _)) _ _ _)); ((fail_if_success (with_reducible first | show wpAny _ _ (exec (Stmt.For _ _ _ _ _) _) _ _ _ | show wpAny _ _ (exec (Stmt.While _ _ _ _) _) _ _ _ | show wpAny _ _ (eval (Expr.ListComp _ _ _ _) _) _ _ _ | show wpAny _ _ (eval (Expr.Dict _ _ _) _) _ _ _ | show wpAny _ _ (binaryOp _ _ (Value.str (S (List.flatten _)) _)) _ _ _ | show wpAny _ _ (exec (Stmt.Assign _ (Expr.ListComp _ _ _ _) _) _) _ _ _ | show wpAny _ _ (call (Value.ref _) _ _) _ _ _ | show wpAny _ _ (pyIter _) _ _ _ | show wpAny _ _ (call (Value.builtin "len") [Value.ref _]) _ _ _ | show wpAny _ _ (subscriptTail _ _ (Value.ref _) (Value.ref _)) _ _ _ | show wpAny _ _ (compareOp CmpOp.Lt (Value.ref _) (Value.ref _)) _ _ _ | show wpAny _ _ (setItem (Value.ref _) (Value.int _ _) _) _ _ _))); (first | (k_unfold; (try dsimp only)) | (k_end; wrow_close) | walk1 | (dsimp only; walk1) | (leave1; walk_say "STEP leave1"; try dsimp only) | fail "no step")))
  rename Fr _ _ _ _ => F1
  rename News _ _ _ ((lh, _) :: _) => N1
  rw [List.push_toArray] at N1
  refine len_N (n := ((xs.length + 1 : Nat) : Int)) N1 (.head _) (by rw [List.size_toArray, List.length_append, List.length_singleton]; omega) (by rw [List.size_toArray, List.length_append, List.length_singleton, hvl]) ?_
  (repeat' ((fail_if_success (with_reducible show wpAny _ _ (subscriptTail _ _ (Value.ref _) (Value.int _ _)) _ _ _)); ((fail_if_success (with_reducible first | show wpAny _ _ (exec (Stmt.For _ _ _ _ _) _) _ _ _ | show wpAny _ _ (exec (Stmt.While _ _ _ _) _) _ _ _ | show wpAny _ _ (eval (Expr.ListComp _ _ _ _) _) _ _ _ | show wpAny _ _ (eval (Expr.Dict _ _ _) _) _ _ _ | show wpAny _ _ (binaryOp _ _ (Value.str (S (List.flatten _)) _)) _ _ _ | show wpAny _ _ (exec (Stmt.Assign _ (Expr.ListComp _ _ _ _) _) _) _ _ _ | show wpAny _ _ (call (Value.ref _) _ _) _ _ _ | show wpAny _ _ (pyIter _) _ _ _ | show wpAny _ _ (call (Value.builtin "len") [Value.ref _]) _ _ _ | show wpAny _ _ (subscriptTail _ _ (Value.ref _) (Value.ref _)) _ _ _ | show wpAny _ _ (compareOp CmpOp.Lt (Value.ref _) (Value.ref _)) _ _ _ | show wpAny _ _ (setItem (Value.ref _) (Value.int _ _) _) _ _ _))); (first | (k_unfold; (try dsimp only)) | (k_end; wrow_close) | walk1 | (dsimp only; walk1) | (leave1; walk_say "STEP leave1"; try dsimp only) | fail "no step")))
  have ep : ((xs.length + 1 : Nat) : Int) - 1 = ((xs.length : Nat) : Int) := by omega
  rw [ep]
  have hg : g (xs ++ [e]) xs.length = e := by simp [g]
  have hxl : (xs ++ [e]).length = xs.length + 1 := by simp
  refine (sdown_ctr w loose mean mg mb lh _ _ (xs ++ [e]) xs.length _ _ news n1 hn1 (hE.snoc hi hei) (by omega) (by omega) hne).use B' F1 X' N1 T' rfl (hC.keeps FG'.keep) ?_ ?_ ?_
  · exact (by omega : dp + 1 + 12 < recursionLimit)
  · exact (by omega : un + 3 + 8 * 12 < cLine)
  intro r10 news10 h10 tk10 F10 N10 hp10
  obtain ⟨rfl, vs10, k10, rfl, hE10⟩ := hp10
  rw [hg] at hE10
  (repeat' ((fail_if_success (with_reducible show wpAny _ _ (subscriptTail _ _ (Value.ref _) (Value.int _ _)) _ _ _)); ((fail_if_success (with_reducible first | show wpAny _ _ (exec (Stmt.For _ _ _ _ _) _) _ _ _ | show wpAny _ _ (exec (Stmt.While _ _ _ _) _) _ _ _ | show wpAny _ _ (eval (Expr.ListComp _ _ _ _) _) _ _ _ | show wpAny _ _ (eval (Expr.Dict _ _ _) _) _ _ _ | show wpAny _ _ (binaryOp _ _ (Value.str (S (List.flatten _)) _)) _ _ _ | show wpAny _ _ (exec (Stmt.Assign _ (Expr.ListComp _ _ _ _) _) _) _ _ _ | show wpAny _ _ (call (Value.ref _) _ _) _ _ _ | show wpAny _ _ (pyIter _) _ _ _ | show wpAny _ _ (call (Value.builtin "len") [Value.ref _]) _ _ _ | show wpAny _ _ (subscriptTail _ _ (Value.ref _) (Value.ref _)) _ _ _ | show wpAny _ _ (compareOp CmpOp.Lt (Value.ref _) (Value.ref _)) _ _ _ | show wpAny _ _ (setItem (Value.ref _) (Value.int _ _) _) _ _ _))); (first | (k_unfold; (try dsimp only)) | (k_end; wrow_close) | walk1 | (dsimp only; walk1) | (leave1; walk_say "STEP leave1"; try dsimp only) | fail "no step")))
  exact hret _ _ _ _ (by k_asm) (by k_asm) ⟨rfl, _, _, rfl, hE10⟩
theorem pop_ctr (w loose mean mg mb) (lh : Addr) (vs : List Value) (k : Nat) (xs : List Ent) (news : Led) (hE : Ents news vs xs) (hp : 0 < xs.length) (hz : xs.length ≤ 100000) (hne : ∀ p ∈ news, p.1 ≠ lh) :
    Ctr w loose mean mg mb 113 16 [.ref lh] ((lh, listOf (List.toArray vs) k) :: news) (fun r news' => ∃ a o vs' k', r = .ref a ∧ (a, o) ∈ news ∧ EntO (g xs 0) o ∧ news' = (lh, listOf (List.toArray vs') k') :: news ∧ Ents news vs' (hrest xs)) := by
  obtain ⟨vs, y, rfl⟩ : ∃ vs₀ y, vs = vs₀ ++ [y] := ⟨vs.dropLast, vs.getLast (by intro e; subst e; rw [← hE.1] at hp; simp at hp), (List.dropLast_concat_getLast _).symm⟩
  have hvl := hE.1
  rw [List.length_append, List.length_singleton] at hvl
  unfold Ctr; k_fill; intro dp un gd cn cs a ccd cl outer A₀ base h₀ L m s Q E B F X N T hk hC hd hu hret
  (refine wpAny_call ?_; k_dflt (refine' code_def ?k1 ?k2 ?k3 ?k4 ?k5 ?kA ?kF ?kK ?k6 ?k7 ?k8 ?k9 ?kB ?_ ?c2 ?c3 ?c4 ?c5; (case kA => exact rfl); (case kF => exact rfl); (case kK => assumption); (case k1 => k_asm); (case k2 => k_asm); (case k3 => k_asm); (case k4 => k_asm); (case k5 => k_asm); (case k6 => k_is); (case k7 => k_is); (case k8 => ktr_room); (case k9 => exact BindsTo.of_eq rfl); (case c5 => decide); (case kB => exact locs rfl); (case c2 => exact rfl); (case c3 => exact rfl); (case c4 => exact rfl); k_whole)); intro g' L' h' FG' F' N' B' X' T'; (try dsimp only); (try k_fold)
  (repeat' ((fail_if_success (with_reducible show wpAny _ _ (subscriptTail _ _ (Value.ref _) (Value.int _ _)) _ _ _)); ((fail_if_success (with_reducible first | show wpAny _ _ (exec (Stmt.For _ _ _ _ _) _) _ _ _ | show wpAny _ _ (exec (Stmt.While _ _ _ _) _) _ _ _ | show wpAny _ _ (eval (Expr.ListComp _ _ _ _) _) _ _ _ | show wpAny _ _ (eval (Expr.Dict _ _ _) _) _ _ _ | show wpAny _ _ (binaryOp _ _ (Value.str (S (List.flatten _)) _)) _ _ _ | show wpAny _ _ (exec (Stmt.Assign _ (Expr.ListComp _ _ _ _) _) _) _ _ _ | show wpAny _ _ (call (Value.ref _) _ _) _ _ _ | show wpAny _ _ (pyIter _) _ _ _ | show wpAny _ _ (call (Value.builtin "len") [Value.ref _]) _ _ _ | show wpAny _ _ (subscriptTail _ _ (Value.ref _) (Value.ref _)) _ _ _ | show wpAny _ _ (compareOp CmpOp.Lt (Value.ref _) (Value.ref _)) _ _ _ | show wpAny _ _ (setItem (Value.ref _) (Value.int _ _) _) _ _ _))); (first | (k_unfold; (try dsimp only)) | (k_end; wrow_close) | walk1 | (dsimp only; walk1) | (leave1; walk_say "STEP leave1"; try dsimp only) | fail "no step")))
  refine pop_H F' N' hne (by omega) fun h1 F1 N1 => ?_
  have hyl : ∃ ay oy, y = .ref ay ∧ (ay, oy) ∈ news ∧ EntO (g xs (xs.length - 1)) oy := by
    obtain ⟨ay, oy, e1, e2, e3⟩ := hE.get (i := xs.length - 1) (by omega)
    rw [show xs.length - 1 = vs.length by omega, List.getElem?_concat_length] at e1
    exact ⟨ay, oy, Option.some.inj e1, e2, e3⟩
  obtain ⟨ay, oy, rfl, hay, hey⟩ := hyl
  by_cases hvs : vs = []
  · subst hvs
    have hx1 : xs.length = 1 := hvl.symm
    have hz0 : (List.toArray ([] : List Value)).size ≤ 1000000 := by simp
    have hb0 : (!(List.toArray ([] : List Value)).isEmpty) = false := rfl
    (repeat' ((fail_if_success (with_reducible show wpAny _ _ (subscriptTail _ _ (Value.ref _) (Value.int _ _)) _ _ _)); ((fail_if_success (with_reducible first | show wpAny _ _ (exec (Stmt.For _ _ _ _ _) _) _ _ _ | show wpAny _ _ (exec (Stmt.While _ _ _ _) _) _ _ _ | show wpAny _ _ (eval (Expr.ListComp _ _ _ _) _) _ _ _ | show wpAny _ _ (eval (Expr.Dict _ _ _) _) _ _ _ | show wpAny _ _ (binaryOp _ _ (Value.str (S (List.flatten _)) _)) _ _ _ | show wpAny _ _ (exec (Stmt.Assign _ (Expr.ListComp _ _ _ _) _) _) _ _ _ | show wpAny _ _ (call (Value.ref _) _ _) _ _ _ | show wpAny _ _ (pyIter _) _ _ _ | show wpAny _ _ (call (Value.builtin "len") [Value.ref _]) _ _ _ | show wpAny _ _ (subscriptTail _ _ (Value.ref _) (Value.ref _)) _ _ _ | show wpAny _ _ (compareOp CmpOp.Lt (Value.ref _) (Value.ref _)) _ _ _ | show wpAny _ _ (setItem (Value.ref _) (Value.int _ _) _) _ _ _))); (first | (k_unfold; (try dsimp only)) | (k_end; wrow_close) | walk1 | (dsimp only; walk1) | (leave1; walk_say "STEP leave1"; try dsimp only) | fail "no step")))
    refine hret _ _ _ _ (by k_asm) (by k_asm) ⟨ay, oy, [], _, rfl, hay, by rw [hx1] at hey; exact hey, rfl, ?_⟩
    unfold hrest
    rw [if_pos (by omega)]
    exact ⟨rfl, fun i v hv => by simp at hv⟩
  · have hvp : 0 < vs.length := List.length_pos_iff.mpr hvs
    have hz0 : vs.toArray.size ≤ 1000000 := by rw [List.size_toArray]; omega
    have hb0 : (!vs.toArray.isEmpty) = true := by simp [hvs]
    (repeat' ((fail_if_success (with_reducible show wpAny _ _ (subscriptTail _ _ (Value.ref _) (Value.int _ _)) _ _ _)); ((fail_if_success (with_reducible first | show wpAny _ _ (exec (Stmt.For _ _ _ _ _) _) _ _ _ | show wpAny _ _ (exec (Stmt.While _ _ _ _) _) _ _ _ | show wpAny _ _ (eval (Expr.ListComp _ _ _ _) _) _ _ _ | show wpAny _ _ (eval (Expr.Dict _ _ _) _) _ _ _ | show wpAny _ _ (binaryOp _ _ (Value.str (S (List.flatten _)) _)) _ _ _ | show wpAny _ _ (exec (Stmt.Assign _ (Expr.ListComp _ _ _ _) _) _) _ _ _ | show wpAny _ _ (call (Value.ref _) _ _) _ _ _ | show wpAny _ _ (pyIter _) _ _ _ | show wpAny _ _ (call (Value.builtin "len") [Value.ref _]) _ _ _ | show wpAny _ _ (subscriptTail _ _ (Value.ref _) (Value.ref _)) _ _ _ | show wpAny _ _ (compareOp CmpOp.Lt (Value.ref _) (Value.ref _)) _ _ _ | show wpAny _ _ (setItem (Value.ref _) (Value.int _ _) _) _ _ _))); (first | (k_unfold; (try dsimp only)) | (k_end; wrow_close) | walk1 | (dsimp only; walk1) | (leave1; walk_say "STEP leave1"; try dsimp only) | fail "no step")))
    rename News _ _ _ ((lh, _) :: _) => N2
    obtain ⟨a0, o0, hv0, ha0, he0⟩ := hE.get (i := 0) (by omega)
    rw [List.getElem?_append_left hvp] at hv0
    refine item_L (i := 0) N2 (.head _) hz0 (v := .ref a0) (by simpa using hv0) ?_
    (repeat' ((fail_if_success (with_reducible show wpAny _ _ (subscriptTail _ _ (Value.ref _) (Value.int _ _)) _ _ _)); ((fail_if_success (with_reducible first | show wpAny _ _ (exec (Stmt.For _ _ _ _ _) _) _ _ _ | show wpAny _ _ (exec (Stmt.While _ _ _ _) _) _ _ _ | show wpAny _ _ (eval (Expr.ListComp _ _ _ _) _) _ _ _ | show wpAny _ _ (eval (Expr.Dict _ _ _) _) _ _ _ | show wpAny _ _ (binaryOp _ _ (Value.str (S (List.flatten _)) _)) _ _ _ | show wpAny _ _ (exec (Stmt.Assign _ (Expr.ListComp _ _ _ _) _) _) _ _ _ | show wpAny _ _ (call (Value.ref _) _ _) _ _ _ | show wpAny _ _ (pyIter _) _ _ _ | show wpAny _ _ (call (Value.builtin "len") [Value.ref _]) _ _ _ | show wpAny _ _ (subscriptTail _ _ (Value.ref _) (Value.ref _)) _ _ _ | show wpAny _ _ (compareOp CmpOp.Lt (Value.ref _) (Value.ref _)) _ _ _ | show wpAny _ _ (setItem (Value.ref _) (Value.int _ _) _) _ _ _))); (first | (k_unfold; (try dsimp only)) | (k_end; wrow_close) | walk1 | (dsimp only; walk1) | (leave1; walk_say "STEP leave1"; try dsimp only) | fail "no step")))
    rename Fr _ _ _ _ => F3
    rename News _ _ _ ((lh, _) :: _) => N3
    refine set_H (i := 0) F3 N3 hne hvp (by omega) fun h4 F4 N4 => ?_
    (repeat' ((fail_if_success (with_reducible show wpAny _ _ (subscriptTail _ _ (Value.ref _) (Value.int _ _)) _ _ _)); ((fail_if_success (with_reducible first | show wpAny _ _ (exec (Stmt.For _ _ _ _ _) _) _ _ _ | show wpAny _ _ (exec (Stmt.While _ _ _ _) _) _ _ _ | show wpAny _ _ (eval (Expr.ListComp _ _ _ _) _) _ _ _ | show wpAny _ _ (eval (Expr.Dict _ _ _) _) _ _ _ | show wpAny _ _ (binaryOp _ _ (Value.str (S (List.flatten _)) _)) _ _ _ | show wpAny _ _ (exec (Stmt.Assign _ (Expr.ListComp _ _ _ _) _) _) _ _ _ | show wpAny _ _ (call (Value.ref _) _ _) _ _ _ | show wpAny _ _ (pyIter _) _ _ _ | show wpAny _ _ (call (Value.builtin "len") [Value.ref _]) _ _ _ | show wpAny _ _ (subscriptTail _ _ (Value.ref _) (Value.ref _)) _ _ _ | show wpAny _ _ (compareOp CmpOp.Lt (Value.ref _) (Value.ref _)) _ _ _ | show wpAny _ _ (setItem (Value.ref _) (Value.int _ _) _) _ _ _))); (first | (k_unfold; (try dsimp only)) | (k_end; wrow_close) | walk1 | (dsimp only; walk1) | (leave1; walk_say "STEP leave1"; try dsimp only) | fail "no step")))
    rename Fr _ _ _ _ => F5
    rename News _ _ _ ((lh, _) :: _) => N5
    have hE5 := hE.pop
    rw [List.dropLast_concat] at hE5
    have hdl : xs.dropLast.length = xs.length - 1 := List.length_dropLast
    refine (sup_ctr w loose mean mg mb lh _ _ (xs.dropLast.set 0 (g xs (xs.length - 1))) _ news (hE5.set (by omega) hay hey) (by rw [List.length_set]; omega) (by rw [List.length_set]; omega) hne).use B' F5 X' N5 T' rfl (hC.keeps FG'.keep) ?_ ?_ ?_
    · exact (by omega : dp + 1 + 14 < recursionLimit)
    · exact (by omega : un + 3 + 8 * 14 < cLine)
    intro r10 news10 h10 tk10 F10 N10 hp10
    obtain ⟨rfl, vs10, k10, rfl, hE10⟩ := hp10
    (repeat' ((fail_if_success (with_reducible show wpAny _ _ (subscriptTail _ _ (Value.ref _) (Value.int _ _)) _ _ _)); ((fail_if_success (with_reducible first | show wpAny _ _ (exec (Stmt.For _ _ _ _ _) _) _ _ _ | show wpAny _ _ (exec (Stmt.While _ _ _ _) _) _ _ _ | show wpAny _ _ (eval (Expr.ListComp _ _ _ _) _) _ _ _ | show wpAny _ _ (eval (Expr.Dict _ _ _) _) _ _ _ | show wpAny _ _ (binaryOp _ _ (Value.str (S (List.flatten _)) _)) _ _ _ | show wpAny _ _ (exec (Stmt.Assign _ (Expr.ListComp _ _ _ _) _) _) _ _ _ | show wpAny _ _ (call (Value.ref _) _ _) _ _ _ | show wpAny _ _ (pyIter _) _ _ _ | show wpAny _ _ (call (Value.builtin "len") [Value.ref _]) _ _ _ | show wpAny _ _ (subscriptTail _ _ (Value.ref _) (Value.ref _)) _ _ _ | show wpAny _ _ (compareOp CmpOp.Lt (Value.ref _) (Value.ref _)) _ _ _ | show wpAny _ _ (setItem (Value.ref _) (Value.int _ _) _) _ _ _))); (first | (k_unfold; (try dsimp only)) | (k_end; wrow_close) | walk1 | (dsimp only; walk1) | (leave1; walk_say "STEP leave1"; try dsimp only) | fail "no step")))
    refine hret _ _ _ _ (by k_asm) (by k_asm) ⟨a0, o0, vs10, _, rfl, ha0, he0, rfl, ?_⟩
    unfold hrest
    rw [if_neg (by omega)]
    exact hE10

end
section
local macro_rules | `(tactic| walk_at "callWith ref") => `(tactic| (k_here; (with_reducible rename News _ _ _ _ => Nw); k_dflt (refine callWith_wrap1 (id := "list.__contains__") Nw (by first | exact .tail _ (.tail _ (.tail _ (.tail _ (.head _)))) | walk_at "lm") ?_)))
theorem iter_ctr (w loose mean mg mb) (x : Addr) (news : Led) : Ctr w loose mean mg mb 77 2 [.ref x] news (fun r news' => r = .ref x ∧ news' = news) := by
  unfold Ctr; k_fill; intro dp un gd cn cs a ccd cl outer A₀ base h₀ L m s Q E B F X N T hk hC hd hu hret
  (refine wpAny_call ?_; k_dflt (refine' code_def ?k1 ?k2 ?k3 ?k4 ?k5 ?kA ?kF ?kK ?k6 ?k7 ?k8 ?k9 ?kB ?_ ?c2 ?c3 ?c4 ?c5; (case kA => exact rfl); (case kF => exact rfl); (case kK => assumption); (case k1 => k_asm); (case k2 => k_asm); (case k3 => k_asm); (case k4 => k_asm); (case k5 => k_asm); (case k6 => k_is); (case k7 => k_is); (case k8 => ktr_room); (case k9 => exact BindsTo.of_eq rfl); (case c5 => decide); (case kB => exact locs rfl); (case c2 => exact rfl); (case c3 => exact rfl); (case c4 => exact rfl); k_whole)); intro g' L' h' FG' F' N' B' X' T'; (try dsimp only); (try k_fold)
  (repeat' ((fail_if_success (with_reducible show wpAny _ _ (subscriptTail _ _ (Value.ref _) (Value.int _ _)) _ _ _)); ((fail_if_success (with_reducible first | show wpAny _ _ (exec (Stmt.For _ _ _ _ _) _) _ _ _ | show wpAny _ _ (exec (Stmt.While _ _ _ _) _) _ _ _ | show wpAny _ _ (eval (Expr.ListComp _ _ _ _) _) _ _ _ | show wpAny _ _ (eval (Expr.Dict _ _ _) _) _ _ _ | show wpAny _ _ (binaryOp _ _ (Value.str (S (List.flatten _)) _)) _ _ _ | show wpAny _ _ (exec (Stmt.Assign _ (Expr.ListComp _ _ _ _) _) _) _ _ _ | show wpAny _ _ (call (Value.ref _) _ _) _ _ _ | show wpAny _ _ (pyIter _) _ _ _ | show wpAny _ _ (call (Value.builtin "len") [Value.ref _]) _ _ _ | show wpAny _ _ (subscriptTail _ _ (Value.ref _) (Value.ref _)) _ _ _ | show wpAny _ _ (compareOp CmpOp.Lt (Value.ref _) (Value.ref _)) _ _ _ | show wpAny _ _ (setItem (Value.ref _) (Value.int _ _) _) _ _ _))); (first | (k_unfold; (try dsimp only)) | (k_end; wrow_close) | walk1 | (dsimp only; walk1) | (leave1; walk_say "STEP leave1"; try dsimp only) | fail "no step")))
  exact hret _ _ _ _ (by k_asm) (by k_asm) ⟨rfl, rfl⟩
/-- the filter's list between the turns -/
def FiInv (s : Shared) (h₀ : Heap) (L : Addr) (m : Str → Option Value) (ns ts : List (List Nat)) (it lf : Addr) (rest : Led) (S : Addr) (n : Nat) (s₁ : Shared) : Prop :=
  ∃ h tk i acc k, s₁ = { s with heap := h, toks := tk } ∧ Fr h₀ L h m ∧ News h₀ L h ((S, listOf (List.toArray acc) k) :: (it, iterObj lf i) :: rest) ∧ (∀ p ∈ (it, iterObj lf i) :: rest, p.1 < S) ∧ n = ns.length + 1 - i ∧ i ≤ ns.length ∧ acc.length ≤ i ∧ StrsAre acc (((ns.take i).filter (fun n => decide (n ∉ ts))).map Mine.S)
def FjJ (ns ts : List (List Nat)) (i : Nat) (bx x S : Addr) (lo : Obj) (it lf : Addr) (rest : Led) (n : Nat) (m₁ : Str → Option Value) (news₁ : Led) : Prop :=
  ∃ j, n = ns.length - j ∧ i ≤ j ∧ j ≤ ns.length ∧ m₁ "func" = some (.ref bx) ∧ m₁ "self" = some (.ref x) ∧ news₁ = (S, lo) :: (it, iterObj lf j) :: rest ∧ (ns.take j).filter (fun n => decide (n ∉ ts)) = (ns.take i).filter (fun n => decide (n ∉ ts))
theorem strs_at {vs : List Value} {ws : List (List Nat)} (h : StrsAre vs (ws.map S)) {j : Nat} {n : List Nat} (hj : ws[j]? = some n) : ∃ t, vs[j]? = some (.str (S n) t) := by
  have hl : j < vs.length := by rw [h.len_eq, List.length_map]; exact (List.getElem?_eq_some_iff.mp hj).1
  obtain ⟨x, t, e, hx⟩ := h.item j vs[j] (List.getElem?_eq_getElem hl)
  rw [List.getElem?_map, hj] at hx
  cases hx
  exact ⟨t, by rw [List.getElem?_eq_getElem hl, e]⟩
def hasE (n : List Nat) (y : Value) : Bool := match y with
  | .str a _ => decide (a = S n)
  | _ => false
theorem has_any {vs : List Value} : ∀ {ws : List (List Nat)}, StrsAre vs (ws.map S) → ∀ n, vs.toArray.any (hasE n) = decide (n ∈ ws) := by
  intro ws h n
  rw [List.any_toArray]
  generalize hw : ws.map S = ys at h
  induction h generalizing ws with
  | nil =>
    cases ws with
    | nil => rfl
    | cons a b => cases hw
  | cons x t r ih =>
    cases ws with
    | nil => cases hw
    | cons a b =>
      obtain ⟨rfl, hb⟩ := List.cons.inj hw
      rw [List.any_cons, ih hb]
      have : hasE n (.str (S a) t) = decide (n = a) := by
        show decide (S a = S n) = _
        exact decide_eq_decide.mpr ⟨fun e => (S_inj e).symm, fun e => by rw [e]⟩
      rw [this, ← Bool.decide_or]
      exact decide_eq_decide.mpr List.mem_cons.symm
theorem has_gives {vs : List Value} {ws : List (List Nat)} (h : StrsAre vs (ws.map S)) (n : List Nat) (t : Tok) : ∀ y, y ∈ vs.toArray → MeetsSeq.EqGives y (.str (S n) t) (hasE n y) := by
  intro y hy
  obtain ⟨j, hj, rfl⟩ := List.getElem_of_mem (List.mem_toArray.mp hy)
  obtain ⟨x, u, e, _⟩ := h.item j vs[j] (List.getElem?_eq_getElem hj)
  rw [e]
  exact eqgives_str x (S n) u t
/-- the end of an iterator of the text's own, the base turned -/
theorem stop_S {M : Model} {A A₀ : Around} {Q : Option Value → Shared → Prop} {E : Value → Shared → Prop} {base g G : Heap} {outer : List Env} {L a e : Addr} {m : Str → Option Value} {name : Str} {scope : Scope} {cd : Value} {news : Led} {s : Shared}
    (B : Below A₀ base outer g) (F : Fr g L G m) (R : RaisedSN base G (envOf name scope L a cd :: outer) e (.type "StopIteration") news s.heap) (hsm : G.UpToSlots s.heap)
    (k : ∀ g₁, KtsTurn (fra outer) g g₁ → Below A₀ base outer g₁ → Fr g₁ L s.heap m → News g₁ L s.heap news → Q none s) : OwitStop M A Q E (.ref e) s := by
  obtain ⟨B0, a0, hB, hBG, hl, hfl⟩ := R
  have hL : B0.get? L = none := by
    obtain ⟨_, ⟨L', _, hf, hn', _⟩, _⟩ := hfl.2.2.1
    obtain rfl : L = L' := Option.some.inj hf
    exact hn'
  have hf' := flyingW_base hB hfl
  obtain ⟨ob, hob, hobc⟩ := hf'.there
  have hT : s.TypeIs (.ref e) "StopIteration" := (show ∃ o, s.heap.get? e = some o ∧ o.cls = .type "StopIteration" from ⟨ob, hob, hobc⟩)
  obtain ⟨g₁, T₁, F₁, B₁⟩ := kts_ground B F hBG hfl.1 hsm
  unfold OwitStop
  refine wpAny_isInstance (b := true) hT isSubtype_stop ?_
  show (if true = true then Q none s else E (.ref e) s)
  rw [if_pos rfl]
  exact k g₁ T₁ B₁ F₁ fun q hq => ⟨hfl.1 _ _ (hl q hq).1, (fun z => by have := (hl q hq).1; rw [z, hL] at this; cases this), T₁.none_ _ (kts_none F.keep (hl q hq).2.1)⟩
/-- what a call of the def at f does, the frames of its callers turned -/
def CtrS (w : World) (loose : List Str) (mean : ExcName → Option Value) (mg mb : Str → Option Value) (f : Addr) (need : Nat) (vs : List Value) (news : Led) (post : Value → Led → Prop) : Prop :=
  ∀ (dp un : Nat) (gd : Option (List Code)) (cn : Str) (cs : Scope) (a : Addr) (ccd : Value) (cl : List (Str × Addr)) (outer : List Env) (A₀ : Around) (base h₀ : Heap) (L : Addr) (m : Str → Option Value) (s : Shared)
    (Q E : Value → Shared → Prop),
    Below A₀ base outer h₀ → Fr h₀ L s.heap m → (K w.params).In base → News h₀ L s.heap news → Top topProg loose mean mg mb base → cs.kind = .function → CodeHd base 54 50 →
    dp + need < recursionLimit → un + 8 * need < cLine →
    (∀ r news' h₁ h' tk', Below A₀ base outer h₁ → KtsTurn (fra outer) h₀ h₁ → Fr h₁ L h' m → News h₁ L h' news' → post r news' → Q r { s with heap := h', toks := tk' }) →
    wpAny (model PySem.Challenge.rw_ku0020_01.row.prog w) (ktrTop dp un gd cn cs L a ccd cl outer) (call (.ref f) vs) Q E s
theorem CtrS.use {w : World} {loose : List Str} {mean : ExcName → Option Value} {mg mb : Str → Option Value} {f : Addr} {need : Nat} {vs : List Value} {news : Led} {post : Value → Led → Prop}
    {dp un : Nat} {gd : Option (List Code)} {cn : Str} {cs : Scope} {a : Addr} {ccd : Value} {cl : List (Str × Addr)} {outer : List Env} {A₀ : Around} {base h₀ : Heap} {L : Addr} {m : Str → Option Value} {s : Shared}
    {Q E : Value → Shared → Prop} (C : CtrS w loose mean mg mb f need vs news post)
    (B : Below A₀ base outer h₀) (F : Fr h₀ L s.heap m) (XB : (K w.params).In base) (N : News h₀ L s.heap news) (TB : Top topProg loose mean mg mb base) (hk : cs.kind = .function) (hC : CodeHd base 54 50)
    (h1 : dp + need < recursionLimit) (h2 : un + 8 * need < cLine)
    (ret : ∀ r news' h₁ h' tk', Below A₀ base outer h₁ → KtsTurn (fra outer) h₀ h₁ → Fr h₁ L h' m → News h₁ L h' news' → post r news' → Q r { s with heap := h', toks := tk' }) :
    wpAny (model PySem.Challenge.rw_ku0020_01.row.prog w) (ktrTop dp un gd cn cs L a ccd cl outer) (call (.ref f) vs) Q E s :=
  C _ _ _ _ _ _ _ _ _ _ _ _ _ _ _ _ _ B F XB N TB hk hC h1 h2 ret
theorem filter_ctr (w loose mean mg mb) (lf ls : Addr) (fs ss : List Value) (kf ks : Nat) (ns ts : List (List Nat)) (news : Led) (hmf : (lf, listOf (List.toArray fs) kf) ∈ news) (hms : (ls, listOf (List.toArray ss) ks) ∈ news) (hf : StrsAre fs (ns.map S)) (hs : StrsAre ss (ts.map S)) (hnz : ns.length ≤ 100000) :
    CtrS w loose mean mg mb 99 20 [.ref lf, .ref ls] news (fun r news' => ∃ l vs k, r = .ref l ∧ news' = (l, listOf (List.toArray vs) k) :: news ∧ (∀ p ∈ news, p.1 ≠ l) ∧ StrsAre vs ((ns.filter (fun n => decide (n ∉ ts))).map S)) := by
  unfold CtrS; k_fill; intro dp un gd cn cs a ccd cl outer A₀ base h₀ L m s Q E B F X N T hk hC hd hu hret
  (refine wpAny_call ?_; k_dflt (refine' code_turn ?k1 ?k2 ?k3 ?k4 ?k5 ?kA ?kF ?kK ?k6 ?k7 ?k8 ?kB ?k9 ?_ ?c2 ?c3 ?c4 ?c5; (case k1 => assumption); (case kA => exact rfl); (case kF => exact rfl); (case kK => assumption); (case k2 => k_asm); (case k3 => assumption); (case k4 => k_asm); (case k5 => assumption); (case k6 => k_is); (case k7 => k_is); (case k8 => ktr_room); (case kB => exact BindsTo.of_eq rfl); (case c5 => decide); (case k9 => exact locs rfl); (case c2 => exact rfl); (case c3 => exact rfl); (case c4 => exact rfl); k_whole)); intro g' L' h' FG' F' N' B' X' T'; (try dsimp only); (try k_fold)
  (repeat' ((fail_if_success (with_reducible show wpAny _ _ (subscriptTail _ _ (Value.ref _) (Value.int _ _)) _ _ _)); ((fail_if_success (with_reducible first | show wpAny _ _ (exec (Stmt.For _ _ _ _ _) _) _ _ _ | show wpAny _ _ (exec (Stmt.While _ _ _ _) _) _ _ _ | show wpAny _ _ (eval (Expr.ListComp _ _ _ _) _) _ _ _ | show wpAny _ _ (eval (Expr.Dict _ _ _) _) _ _ _ | show wpAny _ _ (binaryOp _ _ (Value.str (S (List.flatten _)) _)) _ _ _ | show wpAny _ _ (exec (Stmt.Assign _ (Expr.ListComp _ _ _ _) _) _) _ _ _ | show wpAny _ _ (call (Value.ref _) _ _) _ _ _ | show wpAny _ _ (pyIter _) _ _ _ | show wpAny _ _ (call (Value.builtin "len") [Value.ref _]) _ _ _ | show wpAny _ _ (subscriptTail _ _ (Value.ref _) (Value.ref _)) _ _ _ | show wpAny _ _ (compareOp CmpOp.Lt (Value.ref _) (Value.ref _)) _ _ _ | show wpAny _ _ (setItem (Value.ref _) (Value.int _ _) _) _ _ _))); (first | (k_unfold; (try dsimp only)) | (k_end; wrow_close) | walk1 | (dsimp only; walk1) | (leave1; walk_say "STEP leave1"; try dsimp only) | fail "no step")))
  rename Fr _ _ _ _ => F1
  rename News _ _ _ _ => N1
  refine has_attrN F1 N1 hms fun bx h2 F2 N2 hb2 => ?_
  (repeat' ((fail_if_success (with_reducible show wpAny _ _ (subscriptTail _ _ (Value.ref _) (Value.int _ _)) _ _ _)); ((fail_if_success (with_reducible first | show wpAny _ _ (exec (Stmt.For _ _ _ _ _) _) _ _ _ | show wpAny _ _ (exec (Stmt.While _ _ _ _) _) _ _ _ | show wpAny _ _ (eval (Expr.ListComp _ _ _ _) _) _ _ _ | show wpAny _ _ (eval (Expr.Dict _ _ _) _) _ _ _ | show wpAny _ _ (binaryOp _ _ (Value.str (S (List.flatten _)) _)) _ _ _ | show wpAny _ _ (exec (Stmt.Assign _ (Expr.ListComp _ _ _ _) _) _) _ _ _ | show wpAny _ _ (call (Value.ref _) _ _) _ _ _ | show wpAny _ _ (pyIter _) _ _ _ | show wpAny _ _ (call (Value.builtin "len") [Value.ref _]) _ _ _ | show wpAny _ _ (subscriptTail _ _ (Value.ref _) (Value.ref _)) _ _ _ | show wpAny _ _ (compareOp CmpOp.Lt (Value.ref _) (Value.ref _)) _ _ _ | show wpAny _ _ (setItem (Value.ref _) (Value.int _ _) _) _ _ _))); (first | (k_unfold; (try dsimp only)) | (k_end; wrow_close) | walk1 | (dsimp only; walk1) | (leave1; walk_say "STEP leave1"; try dsimp only) | fail "no step")))
  k_dflt (refine' call_cls ?k1 ?k2 ?k3 ?k4 ?k5 ?k6 ?_; (case k1 => k_asm); (case k2 => k_asm); (case k3 => k_asm); (case k4 => k_is); (case k5 => k_is); (case k6 => k_is); k_whole)
  intro x dx h3 F3 N3 l3 l4
  have hb2' := hb2
  have l3' := l3
  (try k_lt hb2)
  (try k_lt l3)
  (try k_lt2 l4)
  have hxn : ∀ p ∈ news, p.1 ≠ x := fun p hp => Nat.ne_of_lt (Nat.lt_trans (l3' p (.tail _ hp)) l4)
  (k_dflt (refine' code_def ?k1 ?k2 ?k3 ?k4 ?k5 ?kA ?kF ?kK ?k6 ?k7 ?k8 ?k9 ?kB ?_ ?c2 ?c3 ?c4 ?c5; (case kA => exact rfl); (case kF => exact rfl); (case kK => exact rfl); (case k1 => k_asm); (case k2 => k_asm); (case k3 => k_asm); (case k4 => k_asm); (case k5 => k_asm); (case k6 => k_is); (case k7 => k_is); (case k8 => ktr_room); (case k9 => exact BindsTo.of_eq rfl); (case c5 => decide); (case kB => exact locs rfl); (case c2 => exact rfl); (case c3 => exact rfl); (case c4 => exact rfl); k_whole))
  intro g4 L4 h4 FG4 F4 N4 B4 X4 T4
  (try dsimp only)
  (try k_fold)
  (repeat' ((fail_if_success (with_reducible show wpAny _ _ (subscriptTail _ _ (Value.ref _) (Value.int _ _)) _ _ _)); ((fail_if_success (with_reducible first | show wpAny _ _ (exec (Stmt.For _ _ _ _ _) _) _ _ _ | show wpAny _ _ (exec (Stmt.While _ _ _ _) _) _ _ _ | show wpAny _ _ (eval (Expr.ListComp _ _ _ _) _) _ _ _ | show wpAny _ _ (eval (Expr.Dict _ _ _) _) _ _ _ | show wpAny _ _ (binaryOp _ _ (Value.str (S (List.flatten _)) _)) _ _ _ | show wpAny _ _ (exec (Stmt.Assign _ (Expr.ListComp _ _ _ _) _) _) _ _ _ | show wpAny _ _ (call (Value.ref _) _ _) _ _ _ | show wpAny _ _ (pyIter _) _ _ _ | show wpAny _ _ (call (Value.builtin "len") [Value.ref _]) _ _ _ | show wpAny _ _ (subscriptTail _ _ (Value.ref _) (Value.ref _)) _ _ _ | show wpAny _ _ (compareOp CmpOp.Lt (Value.ref _) (Value.ref _)) _ _ _ | show wpAny _ _ (setItem (Value.ref _) (Value.int _ _) _) _ _ _))); (first | (k_unfold; (try dsimp only)) | (k_end; wrow_close) | walk1 | (dsimp only; walk1) | (leave1; walk_say "STEP leave1"; try dsimp only) | fail "no step")))
  refine iter_L F4 N4 (.tail _ (.tail _ (.tail _ hmf))) fun it h5 F5 N5 l5 => ?_
  have l5' := l5
  (try k_lt l5)
  (repeat' ((fail_if_success (with_reducible show wpAny _ _ (subscriptTail _ _ (Value.ref _) (Value.int _ _)) _ _ _)); ((fail_if_success (with_reducible first | show wpAny _ _ (exec (Stmt.For _ _ _ _ _) _) _ _ _ | show wpAny _ _ (exec (Stmt.While _ _ _ _) _) _ _ _ | show wpAny _ _ (eval (Expr.ListComp _ _ _ _) _) _ _ _ | show wpAny _ _ (eval (Expr.Dict _ _ _) _) _ _ _ | show wpAny _ _ (binaryOp _ _ (Value.str (S (List.flatten _)) _)) _ _ _ | show wpAny _ _ (exec (Stmt.Assign _ (Expr.ListComp _ _ _ _) _) _) _ _ _ | show wpAny _ _ (call (Value.ref _) _ _) _ _ _ | show wpAny _ _ (pyIter _) _ _ _ | show wpAny _ _ (call (Value.builtin "len") [Value.ref _]) _ _ _ | show wpAny _ _ (subscriptTail _ _ (Value.ref _) (Value.ref _)) _ _ _ | show wpAny _ _ (compareOp CmpOp.Lt (Value.ref _) (Value.ref _)) _ _ _ | show wpAny _ _ (setItem (Value.ref _) (Value.int _ _) _) _ _ _))); (first | (k_unfold; (try dsimp only)) | (k_end; wrow_close) | walk1 | (dsimp only; walk1) | (leave1; walk_say "STEP leave1"; try dsimp only) | fail "no step")))
  clear F1 N1 F2 N2
  rename Fr g' L' _ _ => F6
  rename News g' L' _ _ => N6
  have hnl : ns.length = fs.length := by rw [hf.len_eq, List.length_map]
  refine list_own (K := K w.params) (C := 88) (fun m led => FiInv s g' L' m ns ts it lf led.tail) (n₀ := ns.length + 1) F6 N6 X' (fun h N => InstAt.of_news N (.tail _ (.head _)) (.tail _ (.tail _ (.head _)))) (by k_is) (by k_is) ⟨_, .tail _ (.head _)⟩ ?iter ?start ?turn
  case iter =>
    intro S k h' E' Q' F7 N7 l7 done
    refine owit_iter F7 X' (InstAt.of_news N7 (.tail _ (.tail _ (.head _))) (.tail _ (.tail _ (.tail _ (.head _))))) (f := 77) (by k_is) (by k_is) ?_
    refine (iter_ctr w loose mean mg mb x _).use B' F7 X' N7 T' rfl (hC.keeps B'.stays) ?_ ?_ ?_
    · exact (by omega : dp + 1 + 2 < recursionLimit)
    · exact (show un + 3 + 1 + 1 + 8 * 2 < cLine from by omega)
    intro r news' h'' tk' F8 N8 hp
    obtain ⟨rfl, rfl⟩ := hp
    exact owit_it F8 X' (InstAt.of_news N8 (.tail _ (.tail _ (.head _))) (.tail _ (.tail _ (.tail _ (.head _))))) (by k_is) (done h'' tk' F8 N8)
  case start =>
    intro S k h' tk F7 N7 l7
    exact ⟨h', tk, 0, [], k, rfl, F7, N7, l7, rfl, Nat.zero_le _, Nat.zero_le _, .nil⟩
  case turn =>
    rintro Sl n s₁ ⟨h, tk, i, acc, k, rfl, F7, N7, l7, rfl, hi, hai, hacc⟩
    refine owit_next F7 X' (InstAt.of_news N7 (.tail _ (.tail _ (.head _))) (.tail _ (.tail _ (.tail _ (.head _))))) (f := 84) (by k_is) (by k_is) ?_
    refine wpAny_call ?_
    (k_dflt (refine' code_def ?k1 ?k2 ?k3 ?k4 ?k5 ?kA ?kF ?kK ?k6 ?k7 ?k8 ?k9 ?kB ?_ ?c2 ?c3 ?c4 ?c5; (case kA => exact rfl); (case kF => exact rfl); (case kK => exact rfl); (case k1 => k_asm); (case k2 => k_asm); (case k3 => k_asm); (case k4 => k_asm); (case k5 => k_asm); (case k6 => k_is); (case k7 => k_is); (case k8 => ktr_room); (case k9 => exact BindsTo.of_eq rfl); (case c5 => decide); (case kB => exact locs rfl); (case c2 => exact rfl); (case c3 => exact rfl); (case c4 => exact rfl); k_whole))
    intro g8 L8 h8 FG8 F8 N8 B8 X8 T8
    (try dsimp only)
    (try k_fold)
    clear F3 N3 F6 N6
    dsimp only [List.tail] at N8 N7 l7
    (repeat' ((fail_if_success (with_reducible show wpAny _ _ (subscriptTail _ _ (Value.ref _) (Value.int _ _)) _ _ _)); ((fail_if_success (with_reducible first | show wpAny _ _ (exec (Stmt.For _ _ _ _ _) _) _ _ _ | show wpAny _ _ (exec (Stmt.While _ _ _ _) _) _ _ _ | show wpAny _ _ (eval (Expr.ListComp _ _ _ _) _) _ _ _ | show wpAny _ _ (eval (Expr.Dict _ _ _) _) _ _ _ | show wpAny _ _ (binaryOp _ _ (Value.str (S (List.flatten _)) _)) _ _ _ | show wpAny _ _ (exec (Stmt.Assign _ (Expr.ListComp _ _ _ _) _) _) _ _ _ | show wpAny _ _ (call (Value.ref _) _ _) _ _ _ | show wpAny _ _ (pyIter _) _ _ _ | show wpAny _ _ (call (Value.builtin "len") [Value.ref _]) _ _ _ | show wpAny _ _ (subscriptTail _ _ (Value.ref _) (Value.ref _)) _ _ _ | show wpAny _ _ (compareOp CmpOp.Lt (Value.ref _) (Value.ref _)) _ _ _ | show wpAny _ _ (setItem (Value.ref _) (Value.int _ _) _) _ _ _))); (first | (k_unfold; (try dsimp only)) | (k_end; wrow_close) | walk1 | (dsimp only; walk1) | (leave1; walk_say "STEP leave1"; try dsimp only) | fail "no step")))
    rename Fr g8 L8 _ _ => F9
    rename News g8 L8 _ _ => N9
    refine While_J (n₀ := ns.length - i) (FjJ ns ts i bx x Sl (listOf (List.toArray acc) k) it lf _) (fun _ _ => False) F9 N9 ⟨i, rfl, Nat.le_refl _, hi, rfl, rfl, rfl, rfl⟩ ?turn2 (fun _ _ _ _ _ _ h => h.elim) (hE := ?pe2)
    case pe2 => first | passes_own | with_unfolding_all passes_own
    case turn2 =>
      clear F9 N9
      rintro n m₁ news₁ h₁ tk₁ F9 N9 ⟨j, rfl, hij, hj, hfn, hsf, rfl, hfil⟩
      (repeat' ((fail_if_success (with_reducible show wpAny _ _ (subscriptTail _ _ (Value.ref _) (Value.int _ _)) _ _ _)); ((fail_if_success (with_reducible first | show wpAny _ _ (exec (Stmt.For _ _ _ _ _) _) _ _ _ | show wpAny _ _ (exec (Stmt.While _ _ _ _) _) _ _ _ | show wpAny _ _ (eval (Expr.ListComp _ _ _ _) _) _ _ _ | show wpAny _ _ (eval (Expr.Dict _ _ _) _) _ _ _ | show wpAny _ _ (binaryOp _ _ (Value.str (S (List.flatten _)) _)) _ _ _ | show wpAny _ _ (exec (Stmt.Assign _ (Expr.ListComp _ _ _ _) _) _) _ _ _ | show wpAny _ _ (call (Value.ref _) _ _) _ _ _ | show wpAny _ _ (pyIter _) _ _ _ | show wpAny _ _ (call (Value.builtin "len") [Value.ref _]) _ _ _ | show wpAny _ _ (subscriptTail _ _ (Value.ref _) (Value.ref _)) _ _ _ | show wpAny _ _ (compareOp CmpOp.Lt (Value.ref _) (Value.ref _)) _ _ _ | show wpAny _ _ (setItem (Value.ref _) (Value.int _ _) _) _ _ _))); (first | (k_unfold; (try dsimp only)) | (k_end; wrow_close) | walk1 | (dsimp only; walk1) | (leave1; walk_say "STEP leave1"; try dsimp only) | fail "no step")))
      rename Fr g8 L8 _ _ => F9
      rename News g8 L8 _ _ => N9
      have q1 : @LT.lt Nat _ it Sl := l7 _ (.head _)
      have hrest : ∀ (a b c : Obj), ∀ p ∈ (x, a) :: (dx, b) :: (bx, c) :: news, p.1 ≠ it := by
        intro a b c p hp
        simp only [List.mem_cons] at hp
        rcases hp with rfl | rfl | rfl | hp
        · exact Nat.ne_of_lt l5.1
        · exact Nat.ne_of_lt l5.2.1
        · exact Nat.ne_of_lt l5.2.2.1
        · exact Nat.ne_of_lt (ktn_ltOf l5.2.2.2 p hp)
      by_cases hjl : j < ns.length
      · obtain ⟨nm, hnm⟩ : ∃ nm, ns[j]? = some nm := ⟨ns[j], List.getElem?_eq_getElem hjl⟩
        obtain ⟨tn, hv⟩ : ∃ tn, fs[j]? = some (.str (S nm) tn) := strs_at hf hnm
        refine next_item F9 N9 (Upd.tail (Nat.ne_of_gt q1) (Upd.head (hrest _ _ _))) (.tail _ (.tail _ (.tail _ (.tail _ (.tail _ hmf))))) (v := .str (S nm) tn) (by simpa using hv) fun h10 F10 N10 => ?_
        (repeat' ((fail_if_success (with_reducible show wpAny _ _ (subscriptTail _ _ (Value.ref _) (Value.int _ _)) _ _ _)); ((fail_if_success (with_reducible first | show wpAny _ _ (exec (Stmt.For _ _ _ _ _) _) _ _ _ | show wpAny _ _ (exec (Stmt.While _ _ _ _) _) _ _ _ | show wpAny _ _ (eval (Expr.ListComp _ _ _ _) _) _ _ _ | show wpAny _ _ (eval (Expr.Dict _ _ _) _) _ _ _ | show wpAny _ _ (binaryOp _ _ (Value.str (S (List.flatten _)) _)) _ _ _ | show wpAny _ _ (exec (Stmt.Assign _ (Expr.ListComp _ _ _ _) _) _) _ _ _ | show wpAny _ _ (call (Value.ref _) _ _) _ _ _ | show wpAny _ _ (pyIter _) _ _ _ | show wpAny _ _ (call (Value.builtin "len") [Value.ref _]) _ _ _ | show wpAny _ _ (subscriptTail _ _ (Value.ref _) (Value.ref _)) _ _ _ | show wpAny _ _ (compareOp CmpOp.Lt (Value.ref _) (Value.ref _)) _ _ _ | show wpAny _ _ (setItem (Value.ref _) (Value.int _ _) _) _ _ _))); (first | (k_unfold; (try dsimp only)) | (k_end; wrow_close) | walk1 | (dsimp only; walk1) | (leave1; walk_say "STEP leave1"; try dsimp only) | fail "no step")))
        · rename News g8 L8 _ _ => N11
          exact (N11 _ (.tail _ (.tail _ (.tail _ (.tail _ (.head _)))))).1
        rename News g8 L8 _ _ => N11
        refine bound_has_call (N11 _ (.tail _ (.tail _ (.tail _ (.tail _ (.head _)))))).1 (N11 _ (.tail _ (.tail _ (.tail _ (.tail _ (.tail _ hms)))))).1 (e := hasE nm) (has_gives hs nm tn) ?_
        rw [has_any hs nm]
        cases hb : decide (nm ∈ ts) with
        | true =>
          (repeat' ((fail_if_success (with_reducible show wpAny _ _ (subscriptTail _ _ (Value.ref _) (Value.int _ _)) _ _ _)); ((fail_if_success (with_reducible first | show wpAny _ _ (exec (Stmt.For _ _ _ _ _) _) _ _ _ | show wpAny _ _ (exec (Stmt.While _ _ _ _) _) _ _ _ | show wpAny _ _ (eval (Expr.ListComp _ _ _ _) _) _ _ _ | show wpAny _ _ (eval (Expr.Dict _ _ _) _) _ _ _ | show wpAny _ _ (binaryOp _ _ (Value.str (S (List.flatten _)) _)) _ _ _ | show wpAny _ _ (exec (Stmt.Assign _ (Expr.ListComp _ _ _ _) _) _) _ _ _ | show wpAny _ _ (call (Value.ref _) _ _) _ _ _ | show wpAny _ _ (pyIter _) _ _ _ | show wpAny _ _ (call (Value.builtin "len") [Value.ref _]) _ _ _ | show wpAny _ _ (subscriptTail _ _ (Value.ref _) (Value.ref _)) _ _ _ | show wpAny _ _ (compareOp CmpOp.Lt (Value.ref _) (Value.ref _)) _ _ _ | show wpAny _ _ (setItem (Value.ref _) (Value.int _ _) _) _ _ _))); (first | (k_unfold; (try dsimp only)) | (k_end; wrow_close) | walk1 | (dsimp only; walk1) | (leave1; walk_say "STEP leave1"; try dsimp only) | fail "no step")))
          rename Fr g8 L8 _ _ => F12
          rename News g8 L8 _ _ => N12
          exact ⟨ns.length - (j + 1), by omega, .mk F12 N12 ⟨j + 1, rfl, by omega, by omega, hfn, hsf, rfl, by rw [List.take_add_one, hnm, List.filter_append, hfil]; simp [of_decide_eq_true hb]⟩⟩
        | false =>
          (repeat' ((fail_if_success (with_reducible show wpAny _ _ (subscriptTail _ _ (Value.ref _) (Value.int _ _)) _ _ _)); ((fail_if_success (with_reducible first | show wpAny _ _ (exec (Stmt.For _ _ _ _ _) _) _ _ _ | show wpAny _ _ (exec (Stmt.While _ _ _ _) _) _ _ _ | show wpAny _ _ (eval (Expr.ListComp _ _ _ _) _) _ _ _ | show wpAny _ _ (eval (Expr.Dict _ _ _) _) _ _ _ | show wpAny _ _ (binaryOp _ _ (Value.str (S (List.flatten _)) _)) _ _ _ | show wpAny _ _ (exec (Stmt.Assign _ (Expr.ListComp _ _ _ _) _) _) _ _ _ | show wpAny _ _ (call (Value.ref _) _ _) _ _ _ | show wpAny _ _ (pyIter _) _ _ _ | show wpAny _ _ (call (Value.builtin "len") [Value.ref _]) _ _ _ | show wpAny _ _ (subscriptTail _ _ (Value.ref _) (Value.ref _)) _ _ _ | show wpAny _ _ (compareOp CmpOp.Lt (Value.ref _) (Value.ref _)) _ _ _ | show wpAny _ _ (setItem (Value.ref _) (Value.int _ _) _) _ _ _))); (first | (k_unfold; (try dsimp only)) | (k_end; wrow_close) | walk1 | (dsimp only; walk1) | (leave1; walk_say "STEP leave1"; try dsimp only) | fail "no step")))
          change qk (Flow.ret (Value.str (S nm) tn)) _
          k_unfold
          (try dsimp only)
          walk1
          rename Fr g' L' _ _ => F13
          rename News g' L' _ _ => N13
          have l7' : ∀ (a : Obj), ∀ p ∈ (it, a) :: (x, _) :: (dx, _) :: (bx, _) :: news, p.1 < Sl := fun a p hp => by
            rcases List.mem_cons.mp hp with rfl | hp
            · exact q1
            · exact l7 p (.tail _ hp)
          refine ⟨acc.toArray, k, ns.length + 1 - (j + 1), (N13 _ (.head _)).1, ?_, by omega, ?_⟩
          · rw [List.size_toArray]; omega
          refine ⟨_, _, j + 1, acc ++ [.str (S nm) tn], k + 1, rfl, F13.change ?_ (N13 _ (.head _)).2.1 (N13 _ (.head _)).2.2, own_turn (·.push (Value.str (S nm) tn)) N13 (fun p hp => Nat.ne_of_lt (l7' _ p hp)) (by simp) (by simp), l7' _, rfl, by omega, ?_, ?_⟩
          · exact Heap.SameBut.update _ _ _
          · rw [List.length_append, List.length_singleton]; omega
          · have e1 : ns[j]?.toList.filter (fun n => decide (n ∉ ts)) = [nm] := by rw [hnm]; simp [of_decide_eq_false hb]
            rw [List.take_add_one, List.filter_append, hfil, e1, List.map_append]
            exact hacc.append' (.cons _ tn .nil)
      · have hje : j = ns.length := by omega
        refine next_end rfl F9 N9 (.tail _ (.head _)) (.tail _ (.tail _ (.tail _ (.tail _ (.tail _ hmf))))) (i := j) (by rw [List.getElem?_toArray]; exact List.getElem?_eq_none (l := fs) (by omega)) fun h10 h11 e hx F10 hk10 => ?_
        have hdrop : ∀ (a b c : Obj), ∀ p ∈ (Sl, listOf (List.toArray acc) k) :: (x, a) :: (dx, b) :: (bx, c) :: news, p.1 ≠ it := by
          intro a b c p hp
          rcases List.mem_cons.mp hp with rfl | hp
          · exact Nat.ne_of_gt q1
          · exact hrest _ _ _ p hp
        have hin : ∀ (a b c : Obj), ∀ p ∈ (Sl, listOf (List.toArray acc) k) :: (x, a) :: (dx, b) :: (bx, c) :: news, p ∈ (Sl, listOf (List.toArray acc) k) :: (it, iterObj lf j) :: (x, a) :: (dx, b) :: (bx, c) :: news := by
          intro a b c p hp
          rcases List.mem_cons.mp hp with rfl | hp
          · exact .head _
          · exact .tail _ (.tail _ hp)
        change wpAny _ (Around.deeper _ _) (leaving _ (Value.ref e)) _ _ _
        refine leave_newS B8 hx F10 (fun p hp => ⟨hk10 p (hin _ _ _ p hp) (hdrop _ _ _ p hp), (N9 p (hin _ _ _ p hp)).2⟩) fun h12 R12 _ up12 => ?_
        refine stop_S B' FG8 R12 up12 fun g₁ T1 B1 F13 N13 => ?_
        dsimp only
        k_unfold
        (try dsimp only)
        refine ⟨g₁, _, _, _, T1, F13, cb_drop N13 ?_, fun h₁ B₁ T₁ F14 N14 => hret _ _ _ _ _ B₁ T₁ F14 N14 ⟨Sl, acc, k, rfl, rfl, ?_, ?_⟩⟩
        · intro p hp; simp only [List.mem_cons] at hp ⊢; grind
        · exact fun p hp => Nat.ne_of_lt (l7 p (.tail _ (.tail _ (.tail _ (.tail _ hp)))))
        · subst hje
          rw [List.take_length] at hfil
          rw [hfil]; exact hacc

end
section
/-- between two turns of the search -/
def LfJ (q : Ask) (ns : List (List Nat)) (ln lh lp : Addr) (tp : Tok) (Lc : Addr) (news : Led) (n : Nat) (m : Str → Option Value) (led : Led) : Prop :=
  ∃ vs k H ps oc cv more, led = (lh, listOf (List.toArray vs) k) :: (50, tabObj ps) :: (Lc, oc) :: more ∧ TabOk ps ∧ oc.data = .cell cv ∧ Ents more vs H ∧ q.Inv ns H ∧ n = wgt H ∧ n ≤ 243 ∧ (∀ p ∈ news, p ∈ more) ∧ (∀ p ∈ more, p.1 ≠ lh ∧ p.1 ≠ 50 ∧ p.1 ≠ Lc) ∧
    m "names" = some (.ref ln) ∧ m "pair" = some (.str (S [q.x0, q.x1]) tp) ∧ m "prices" = some (.ref lp) ∧ m "heap" = some (.ref lh)
/-- what the search gives -/
def FoundIs (q : Ask) (ns : List (List Nat)) (news : Led) (r : Value) (news' : Led) : Prop :=
  ∃ ps, TabOk ps ∧
  ((∃ l k, r = .ref l ∧ news' = (l, listOf #[] k) :: (50, tabObj ps) :: news ∧ (∀ w, ¬ q.dist ns w)) ∨
   (∃ l k e t tu u n lf vs kf, r = .ref l ∧ news' = (l, listOf #[.ref t, .ref lf] k) :: (t, ({ cls := .type "tuple", data := .seq #[.int ((e : Ent).1 : Int) tu, .str (S e.2) u] n } : Obj)) :: (lf, listOf (List.toArray vs) kf) :: (50, tabObj ps) :: news ∧ q.best ns e.2 ∧ e = q.ent e.2 ∧ StrsAre vs ((ns.filter (fun n => !takes e.2 n)).map S)))
theorem swap24 {h₀ h : Heap} {L : Addr} {a b c d : Addr × Obj} {news : Led} (N : News h₀ L h (a :: b :: c :: d :: news)) : News h₀ L h (a :: d :: c :: b :: news) := cb_drop N (by ((repeat' (first | exact List.forall_mem_nil _ | refine List.forall_mem_cons.mpr (And.intro ?_ ?_) | assumption | exact List.Mem.head _ | refine List.Mem.tail _ ?_ | (intro p hp; repeat' (first | exact hp | refine List.Mem.tail _ ?_))))))
theorem filter_not (ns : List (List Nat)) (p : List Nat → Bool) : ns.filter (fun n => decide (n ∉ ns.filter p)) = ns.filter (fun n => !p n) := by
  refine List.filter_congr fun n hn => ?_
  cases h : p n <;> simp [hn, h]
theorem dat_strs {news : Led} {vs : List Value} {ys : List Str} (h : StrsAre vs ys) : DatAll news vs (ys.map Dat.str) := by
  induction h with
  | nil => exact .nil
  | cons x t r ih => exact .cons (.str x t) ih
theorem ok_S {w : List Nat} (h : ∀ c ∈ w, c < 0x110000) (n : Nat) : kqdOk n (.str (S w)) = true := by
  have e : PyData.strOk (S w) = true := by
    unfold PyData.strOk S
    rw [List.all_toArray]
    exact List.all_eq_true.mpr fun c hc => decide_eq_true (h c hc)
  cases n <;> exact e
theorem eq_nil {prog : Program} {w : World} {A : Around} {E : Value → Shared → Prop} {s : Shared} {h₀ : Heap} {L a b : Addr} {news : Led} {Q : Value → Shared → Prop} {vs : List Value} {ws : List (List Nat)} {ka kb : Nat} (N : News h₀ L s.heap news) (ma : (a, listOf (List.toArray vs) ka) ∈ news) (mb : (b, listOf #[] kb) ∈ news) (hv : StrsAre vs (ws.map S)) (hw : ∀ w ∈ ws, ∀ c ∈ w, c < 0x110000) (hu : A.units + 64 < cLine) (h : Q (.bool (decide (ws = []))) s) :
    wpAny (model prog w) A (compareOp .Eq (.ref a) (.ref b)) Q E s := by
  refine kqd_eq N ma rfl rfl (dat_strs hv) (fun _ x => x) mb rfl rfl (ys := []) .nil (fun _ x => x) ?_ (by simp) hu ?_
  · intro d hd
    rw [List.map_map] at hd
    obtain ⟨x, hx, rfl⟩ := List.mem_map.mp hd
    exact ok_S (hw x hx) 8
  · by_cases hn : ws = []
    · rw [decide_eq_true hn] at h
      rw [decide_eq_true (by simp [hn])]
      exact h
    · rw [decide_eq_false hn] at h
      rw [decide_eq_false (by simp [hn])]
      exact h
theorem ents_strip {c : Addr} {oc : Obj} {cv : Option Value} {ps : Array Value} {more : Led} {vs : List Value} {H : List Ent} (h : Ents ((50, tabObj ps) :: (c, oc) :: more) vs H) (hc : oc.data = .cell cv) : Ents more vs H := by
  refine ⟨h.1, fun i v hv => ?_⟩
  obtain ⟨a, o, e, hm, ho⟩ := h.2 i v hv
  refine ⟨a, o, e, ?_, ho⟩
  obtain ⟨h1, t, u, n, h2⟩ := ho
  rcases List.mem_cons.mp hm with q | hm
  · cases q; cases h2
  · rcases List.mem_cons.mp hm with q | hm
    · cases q; rw [hc] at h2; cases h2
    · exact hm
theorem drop3 {h₀ h : Heap} {L : Addr} {a b c : Addr × Obj} {more : Led} (N : News h₀ L h (a :: b :: c :: more)) : News h₀ L h more := cb_drop N (by ((repeat' (first | exact List.forall_mem_nil _ | refine List.forall_mem_cons.mpr (And.intro ?_ ?_) | assumption | exact List.Mem.head _ | refine List.Mem.tail _ ?_ | (intro p hp; repeat' (first | exact hp | refine List.Mem.tail _ ?_))))))
theorem rot7 {h₀ h : Heap} {L : Addr} {a b c d e f g : Addr × Obj} {more : Led} (N : News h₀ L h (a :: b :: c :: d :: e :: f :: g :: more)) : News h₀ L h (g :: a :: b :: c :: d :: e :: f :: more) := cb_drop N (by ((repeat' (first | exact List.forall_mem_nil _ | refine List.forall_mem_cons.mpr (And.intro ?_ ?_) | assumption | exact List.Mem.head _ | refine List.Mem.tail _ ?_ | (intro p hp; repeat' (first | exact hp | refine List.Mem.tail _ ?_))))))
theorem rot9 {h₀ h : Heap} {L : Addr} {a b c d e f g i j : Addr × Obj} {more : Led} (N : News h₀ L h (a :: b :: c :: d :: e :: f :: g :: i :: j :: more)) : News h₀ L h ([c, d, e, f, g] ++ (a :: i :: j :: b :: more)) := cb_drop N (by ((repeat' (first | exact List.forall_mem_nil _ | refine List.forall_mem_cons.mpr (And.intro ?_ ?_) | assumption | exact List.Mem.head _ | refine List.Mem.tail _ ?_ | (intro p hp; repeat' (first | exact hp | refine List.Mem.tail _ ?_))))))
theorem ent_mk (a b : Nat) (w : List Nat) (t u : Tok) (n : Nat) : EntO (a + b, w) { cls := .type "tuple", data := .seq #[.int ((a : Int) + (b : Int)) t, .str (S w) u] n } := ⟨rfl, t, u, n, by show _ = Data.seq #[.int ((a + b : Nat) : Int) t, _] n; rw [Int.natCast_add]⟩
theorem off5 {I : Addr} {news : Led} {z1 z2 z3 z4 z5 : Obj} (h : ∀ p ∈ news, @LT.lt Nat _ p.1 I ∨ @LT.lt Nat _ (I + 4) p.1) : ∀ p ∈ news, ∀ q ∈ [(I + 4, z1), (I + 2, z2), (I + 3, z3), (I, z4), (I + 1, z5)], p.1 ≠ q.1 := by
  intro p hp q hq e
  have hq' : @LE.le Nat _ I q.1 ∧ @LE.le Nat _ q.1 (I + 4) := by
    simp only [List.mem_cons, List.not_mem_nil, or_false] at hq
    rcases hq with rfl | rfl | rfl | rfl | rfl
    · exact ⟨Nat.le_add_right I 4, Nat.le_refl _⟩
    · exact ⟨Nat.le_add_right I 2, Nat.add_le_add_left (by decide) I⟩
    · exact ⟨Nat.le_add_right I 3, Nat.add_le_add_left (by decide) I⟩
    · exact ⟨Nat.le_refl _, Nat.le_add_right I 4⟩
    · exact ⟨Nat.le_add_right I 1, Nat.add_le_add_left (by decide) I⟩
  have h' := h p hp
  rw [e] at h'
  rcases h' with h' | h'
  · exact absurd hq'.1 (Nat.not_le.mpr h')
  · exact absurd hq'.2 (Nat.not_le.mpr h')
theorem off_push {I lh c D : Addr} {a b x : Obj} {more : Led} (vs : List Value) (k : Nat) (o : Obj) (h : ∀ p ∈ (lh, a) :: (50, b) :: (c, x) :: more, @LT.lt Nat _ p.1 I ∨ @LT.lt Nat _ (I + 4) p.1) (hD : @LT.lt Nat _ (I + 4) D) :
    ∀ p ∈ (lh, listOf (List.toArray vs) k) :: (50, b) :: (c, x) :: (D, o) :: more, @LT.lt Nat _ p.1 I ∨ @LT.lt Nat _ (I + 4) p.1 := fun p hp => by
  rcases List.mem_cons.mp hp with rfl | hp
  · exact h (lh, a) (.head _)
  · rcases List.mem_cons.mp hp with rfl | hp
    · exact h _ (.tail _ (.head _))
    · rcases List.mem_cons.mp hp with rfl | hp
      · exact h _ (.tail _ (.tail _ (.head _)))
      · rcases List.mem_cons.mp hp with rfl | hp
        · exact .inr hD
        · exact h _ (.tail _ (.tail _ (.tail _ hp)))
theorem hne7 {I lh D : Addr} {o a z1 z2 z3 z4 z5 : Obj} {more : Led} (hIl : @LT.lt Nat _ lh I) (hD : @LT.lt Nat _ (I + 4) D) (_h : ∀ p ∈ (lh, a) :: more, @LT.lt Nat _ p.1 I ∨ @LT.lt Nat _ (I + 4) p.1) (hm : ∀ p ∈ more, p.1 ≠ lh) :
    ∀ p ∈ (D, o) :: (I + 4, z1) :: (I + 2, z2) :: (I + 3, z3) :: (I, z4) :: (I + 1, z5) :: more, p.1 ≠ lh := fun p hp => by
  simp only [List.mem_cons] at hp
  rcases hp with rfl | rfl | rfl | rfl | rfl | rfl | hp
  · exact Nat.ne_of_gt (Nat.lt_trans (Nat.lt_of_lt_of_le hIl (Nat.le_add_right I 4)) hD)
  · exact Nat.ne_of_gt (Nat.lt_of_lt_of_le hIl (Nat.le_add_right I 4))
  · exact Nat.ne_of_gt (Nat.lt_of_lt_of_le hIl (Nat.le_add_right I 2))
  · exact Nat.ne_of_gt (Nat.lt_of_lt_of_le hIl (Nat.le_add_right I 3))
  · exact Nat.ne_of_gt hIl
  · exact Nat.ne_of_gt (Nat.lt_of_lt_of_le hIl (Nat.le_add_right I 1))
  · exact hm p hp
theorem pick4 {h₀ h : Heap} {L : Addr} {a b c d e f g i : Addr × Obj} {more news : Led} (N : News h₀ L h (a :: b :: c :: d :: e :: f :: g :: i :: more)) (hs : ∀ p ∈ news, p ∈ more) : News h₀ L h (a :: b :: d :: g :: news) := cb_drop N (by intro p hp; simp only [List.mem_cons] at hp ⊢; grind)
theorem drop5 {h₀ h : Heap} {L : Addr} {a b c d : Addr × Obj} {more news : Led} (N : News h₀ L h (a :: b :: c :: d :: more)) (hs : ∀ p ∈ news, p ∈ more) : News h₀ L h (a :: c :: news) := cb_drop N (by intro p hp; simp only [List.mem_cons] at hp ⊢; grind)
theorem swap12 {h₀ h : Heap} {L : Addr} {a b : Addr × Obj} {news : Led} (N : News h₀ L h (a :: b :: news)) : News h₀ L h (b :: a :: news) := cb_drop N (by ((repeat' (first | exact List.forall_mem_nil _ | refine List.forall_mem_cons.mpr (And.intro ?_ ?_) | assumption | exact List.Mem.head _ | refine List.Mem.tail _ ?_ | (intro p hp; repeat' (first | exact hp | refine List.Mem.tail _ ?_))))))
theorem found_ctr (w loose mean mg mb) (q : Ask) (ns : List (List Nat)) (hns : ns.length = 3) (h4 : ∀ n ∈ ns, n.length = 4 ∧ q.ok n) (hs : SixOk [q.x0, q.x1]) (fs : List Value) (ln lp : Addr) (kf kp : Nat) (tp u0 u1 : Tok) (hf : StrsAre fs (ns.map S)) (ps : Array Value) (hps : TabOk ps) (news : Led) (h50 : ∀ p ∈ news, p.1 ≠ 50)
    (hmf : (ln, listOf (List.toArray fs) kf) ∈ news) (hmp : (lp, listOf #[.int (q.p0 : Int) u0, .int (q.p1 : Int) u1] kp) ∈ news) :
    CtrS w loose mean mg mb 144 40 [.ref ln, .str (S [q.x0, q.x1]) tp, .ref lp] ((50, tabObj ps) :: news) (FoundIs q ns news) := by
  unfold CtrS; k_fill; intro dp un gd cn cs a ccd cl outer A₀ base h₀ L m s Q E B F X N T hk hC hd hu hret
  (refine wpAny_call ?_; k_dflt (refine' code_turnC ?k1 ?k2 ?k3 ?k4 ?k5 ?kA ?kF ?kK ?k6 ?k7 ?k8 ?kB ?k9 ?kD ?_ ?c2 ?c3 ?c4; (case k1 => assumption); (case kA => exact rfl); (case kF => exact rfl); (case kK => assumption); (case k2 => k_asm); (case k3 => assumption); (case k4 => k_asm); (case k5 => assumption); (case k6 => k_is); (case k7 => k_is); (case k8 => ktr_room); (case kB => exact BindsTo.of_eq rfl); (case k9 => exact rfl); (case kD => decide +kernel); (case c2 => exact rfl); (case c3 => exact rfl); (case c4 => exact rfl); k_whole)); intro g' L' h' tk' cells' FG' F' N' Y' B' X' T' hlt; have hlt0 := hlt; (try k_lt hlt)
  have hY := CellsAre.one Y'; obtain ⟨o', hE', d1'⟩ := hY; subst hE'; clear Y'; (try simp only [List.cons_append, List.nil_append] at N'); (try dsimp only); (try k_fold)
  (repeat' ((fail_if_success (with_reducible show wpAny _ _ (subscriptTail _ _ (Value.ref _) (Value.int _ _)) _ _ _)); ((fail_if_success (with_reducible first | show wpAny _ _ (exec (Stmt.For _ _ _ _ _) _) _ _ _ | show wpAny _ _ (exec (Stmt.While _ _ _ _) _) _ _ _ | show wpAny _ _ (eval (Expr.ListComp _ _ _ _) _) _ _ _ | show wpAny _ _ (eval (Expr.Dict _ _ _) _) _ _ _ | show wpAny _ _ (binaryOp _ _ (Value.str (S (List.flatten _)) _)) _ _ _ | show wpAny _ _ (exec (Stmt.Assign _ (Expr.ListComp _ _ _ _) _) _) _ _ _ | show wpAny _ _ (call (Value.ref _) _ _) _ _ _ | show wpAny _ _ (pyIter _) _ _ _ | show wpAny _ _ (call (Value.builtin "len") [Value.ref _]) _ _ _ | show wpAny _ _ (subscriptTail _ _ (Value.ref _) (Value.ref _)) _ _ _ | show wpAny _ _ (compareOp CmpOp.Lt (Value.ref _) (Value.ref _)) _ _ _ | show wpAny _ _ (setItem (Value.ref _) (Value.int _ _) _) _ _ _))); (first | (k_unfold; (try dsimp only)) | (k_end; wrow_close) | walk1 | (dsimp only; walk1) | (leave1; walk_say "STEP leave1"; try dsimp only) | fail "no step")))
  rename_i D0 hh0 l2 lh hh1 l1 hh2 F1 N1
  have hall : ∀ (o : Obj), ∀ p ∈ (D0, o) :: news, p.1 ≠ lh ∧ p.1 ≠ 50 ∧ p.1 ≠ L' + 1 := fun o p hp => by
    rcases List.mem_cons.mp hp with rfl | hp
    · exact ⟨Nat.ne_of_lt l1.1, Nat.ne_of_gt l2.2.1, Nat.ne_of_gt l2.1⟩
    · exact ⟨Nat.ne_of_lt (ktn_ltOf l1.2.2.2 p hp), h50 p hp, Nat.ne_of_lt (Nat.lt_succ_of_lt (hlt0 p (.tail _ hp)))⟩
  have N2 : News g' L' hh2 ((lh, W.listOf #[Value.ref D0] 0) :: (50, tabObj ps) :: (L' + 1, o') :: (D0, _) :: news) := swap24 N1
  refine While_JS (n₀ := wgt [(0, [])]) (LfJ q ns ln lh lp tp (L' + 1) news) (fun _ led => ∃ ps oc more k, led = (lh, listOf #[] k) :: (50, tabObj ps) :: (L' + 1, oc) :: more ∧ TabOk ps ∧ (∀ p ∈ news, p ∈ more) ∧ ∀ w, ¬ q.dist ns w) B' F1 N2 ⟨[Value.ref D0], _, [(0, [])], ps, o', _, _, rfl, hps, d1', ⟨rfl, fun i v hi => by cases i with
    | zero => cases hi; exact ⟨D0, _, rfl, .head _, rfl, _, _, _, rfl⟩
    | succ i => simp at hi⟩, q.inv_start ns, rfl, by decide, fun p hp => .tail _ hp, hall _, rfl, rfl, rfl, rfl⟩ ?turn ?fin (hE := ?pe)
  case pe => first | passes_own | with_unfolding_all passes_own
  case turn =>
    rintro n m₁ news₁ g1 h₁ tk₁ B1 T1 F3 N3 ⟨vs, k, H, ps, oc, cv, more, rfl, hps, hoc, hE, hI, rfl, hw, hsub, hoff, m1, m2, m3, m4⟩
    clear F1 N1 N2
    have X1 : (K w.params).In g1 := X.keeps B1.stays
    have T1' : Top topProg loose mean mg mb g1 := T.keeps B1.stays
    have hC1 : CodeHd g1 54 50 := hC.keeps B1.stays
    have hlen := hE.1
    have hwl := wgt_len H
    by_cases hH : H = []
    · subst hH
      obtain rfl : vs = [] := List.length_eq_zero_iff.mp hlen
      have hz0 : (List.toArray ([] : List Value)).size ≤ 1000000 := by simp
      have hb0 : (!(List.toArray ([] : List Value)).isEmpty) = false := rfl
      (repeat' ((fail_if_success (with_reducible show wpAny _ _ (subscriptTail _ _ (Value.ref _) (Value.int _ _)) _ _ _)); ((fail_if_success (with_reducible first | show wpAny _ _ (exec (Stmt.For _ _ _ _ _) _) _ _ _ | show wpAny _ _ (exec (Stmt.While _ _ _ _) _) _ _ _ | show wpAny _ _ (eval (Expr.ListComp _ _ _ _) _) _ _ _ | show wpAny _ _ (eval (Expr.Dict _ _ _) _) _ _ _ | show wpAny _ _ (binaryOp _ _ (Value.str (S (List.flatten _)) _)) _ _ _ | show wpAny _ _ (exec (Stmt.Assign _ (Expr.ListComp _ _ _ _) _) _) _ _ _ | show wpAny _ _ (call (Value.ref _) _ _) _ _ _ | show wpAny _ _ (pyIter _) _ _ _ | show wpAny _ _ (call (Value.builtin "len") [Value.ref _]) _ _ _ | show wpAny _ _ (subscriptTail _ _ (Value.ref _) (Value.ref _)) _ _ _ | show wpAny _ _ (compareOp CmpOp.Lt (Value.ref _) (Value.ref _)) _ _ _ | show wpAny _ _ (setItem (Value.ref _) (Value.int _ _) _) _ _ _))); (first | (k_unfold; (try dsimp only)) | (k_end; wrow_close) | walk1 | (dsimp only; walk1) | (leave1; walk_say "STEP leave1"; try dsimp only) | fail "no step")))
      exact ⟨g1, _, _, _, _, rfl, B1, T1, by k_asm, by k_asm, ps, oc, more, k, rfl, hps, hsub, Ask.inv_empty hI⟩
    · have hp : 0 < H.length := List.length_pos_iff.mpr hH
      have hz0 : vs.toArray.size ≤ 1000000 := by rw [List.size_toArray]; omega
      have hb0 : (!vs.toArray.isEmpty) = true := by
        cases vs with
        | nil => simp at hlen; omega
        | cons a b => rfl
      (repeat' ((fail_if_success (with_reducible show wpAny _ _ (subscriptTail _ _ (Value.ref _) (Value.int _ _)) _ _ _)); ((fail_if_success (with_reducible first | show wpAny _ _ (exec (Stmt.For _ _ _ _ _) _) _ _ _ | show wpAny _ _ (exec (Stmt.While _ _ _ _) _) _ _ _ | show wpAny _ _ (eval (Expr.ListComp _ _ _ _) _) _ _ _ | show wpAny _ _ (eval (Expr.Dict _ _ _) _) _ _ _ | show wpAny _ _ (binaryOp _ _ (Value.str (S (List.flatten _)) _)) _ _ _ | show wpAny _ _ (exec (Stmt.Assign _ (Expr.ListComp _ _ _ _) _) _) _ _ _ | show wpAny _ _ (call (Value.ref _) _ _) _ _ _ | show wpAny _ _ (pyIter _) _ _ _ | show wpAny _ _ (call (Value.builtin "len") [Value.ref _]) _ _ _ | show wpAny _ _ (subscriptTail _ _ (Value.ref _) (Value.ref _)) _ _ _ | show wpAny _ _ (compareOp CmpOp.Lt (Value.ref _) (Value.ref _)) _ _ _ | show wpAny _ _ (setItem (Value.ref _) (Value.int _ _) _) _ _ _))); (first | (k_unfold; (try dsimp only)) | (k_end; wrow_close) | walk1 | (dsimp only; walk1) | (leave1; walk_say "STEP leave1"; try dsimp only) | fail "no step")))
      rename Fr _ _ _ _ => F4
      rename News _ _ _ _ => N4
      have hne1 : ∀ p ∈ (50, tabObj ps) :: (L' + 1, oc) :: more, p.1 ≠ lh := by
        intro p hp
        simp only [List.mem_cons] at hp
        rcases hp with rfl | rfl | hp
        · exact Nat.ne_of_lt l1.2.2.1
        · exact Nat.ne_of_lt l1.2.1
        · exact (hoff p hp).1
      refine (pop_ctr w loose mean mg mb lh vs k H _ (hE.mono (fun p hp => .tail _ (.tail _ hp))) hp (by omega) hne1).use B1 F4 X1 N4 T1' rfl hC1 ?_ ?_ ?_
      · exact (by omega : dp + 1 + 16 < recursionLimit)
      · exact (by omega : un + 3 + 8 * 16 < cLine)
      intro r5 news5 h5 tk5 F5 N5 hp5
      clear F4 N4
      obtain ⟨a5, o5, vs5, k5, rfl, ha5, he5, rfl, hE5⟩ := hp5
      have he5' := he5
      obtain ⟨hc5, ti5, tu5, tn5, hd5⟩ := he5'
      have hT5 : IsTup h5 a5 #[.int ((g H 0).1 : Int) ti5, .str (S (g H 0).2) tu5] := ⟨o5, (N5 _ (.tail _ ha5)).1, hc5, tn5, hd5⟩
      obtain ⟨hgE, hgo, hgl⟩ := Ask.inv_top hI hp
      have h6w : SixOk (g H 0).2 := fun c hc => by
        rcases hgo c hc with rfl | rfl
        · exact hs _ (.head _)
        · exact hs _ (.tail _ (.head _))
      (repeat' ((fail_if_success (with_reducible show wpAny _ _ (subscriptTail _ _ (Value.ref _) (Value.int _ _)) _ _ _)); ((fail_if_success (with_reducible first | show wpAny _ _ (exec (Stmt.For _ _ _ _ _) _) _ _ _ | show wpAny _ _ (exec (Stmt.While _ _ _ _) _) _ _ _ | show wpAny _ _ (eval (Expr.ListComp _ _ _ _) _) _ _ _ | show wpAny _ _ (eval (Expr.Dict _ _ _) _) _ _ _ | show wpAny _ _ (binaryOp _ _ (Value.str (S (List.flatten _)) _)) _ _ _ | show wpAny _ _ (exec (Stmt.Assign _ (Expr.ListComp _ _ _ _) _) _) _ _ _ | show wpAny _ _ (call (Value.ref _) _ _) _ _ _ | show wpAny _ _ (pyIter _) _ _ _ | show wpAny _ _ (call (Value.builtin "len") [Value.ref _]) _ _ _ | show wpAny _ _ (subscriptTail _ _ (Value.ref _) (Value.ref _)) _ _ _ | show wpAny _ _ (compareOp CmpOp.Lt (Value.ref _) (Value.ref _)) _ _ _ | show wpAny _ _ (setItem (Value.ref _) (Value.int _ _) _) _ _ _))); (first | (k_unfold; (try dsimp only)) | (k_end; wrow_close) | walk1 | (dsimp only; walk1) | (leave1; walk_say "STEP leave1"; try dsimp only) | fail "no step")))
      rename Fr _ _ _ _ => F6
      rename News _ _ _ _ => N6
      refine (held_ctr w loose mean mg mb (g H 0).2 (by omega) h6w tu5 ps hps ((lh, listOf (List.toArray vs5) k5) :: (L' + 1, oc) :: more) ?h50).use B1 F6 X1 (swap12 N6) T1' rfl hC1 ?_ ?_ ?_
      case h50 =>
        intro p hp
        simp only [List.mem_cons] at hp
        rcases hp with rfl | rfl | hp
        · exact Nat.ne_of_gt l1.2.2.1
        · exact Nat.ne_of_gt (Nat.lt_succ_of_lt hlt.1)
        · exact (hoff p hp).2.1
      · exact (by omega : dp + 1 + 12 < recursionLimit)
      · exact (by omega : un + 3 + 8 * 12 < cLine)
      intro r7 news7 h7 tk7 F7 N7 hp7
      clear F6 N6 hT5
      obtain ⟨t7, ps7, rfl, rfl, hps7⟩ := hp7
      replace N7 := swap12 N7
      have hoc1 : ∀ p ∈ more, p.1 ≠ L' + 1 := fun p hp => (hoff p hp).2.2
      have hlc : @LT.lt Nat _ (L' + 1) lh := l1.2.1
      have h5c : @LT.lt Nat _ 50 (L' + 1) := Nat.lt_succ_of_lt hlt.1
      (repeat' ((fail_if_success (with_reducible show wpAny _ _ (subscriptTail _ _ (Value.ref _) (Value.int _ _)) _ _ _)); ((fail_if_success (with_reducible first | show wpAny _ _ (exec (Stmt.For _ _ _ _ _) _) _ _ _ | show wpAny _ _ (exec (Stmt.While _ _ _ _) _) _ _ _ | show wpAny _ _ (eval (Expr.ListComp _ _ _ _) _) _ _ _ | show wpAny _ _ (eval (Expr.Dict _ _ _) _) _ _ _ | show wpAny _ _ (binaryOp _ _ (Value.str (S (List.flatten _)) _)) _ _ _ | show wpAny _ _ (exec (Stmt.Assign _ (Expr.ListComp _ _ _ _) _) _) _ _ _ | show wpAny _ _ (call (Value.ref _) _ _) _ _ _ | show wpAny _ _ (pyIter _) _ _ _ | show wpAny _ _ (call (Value.builtin "len") [Value.ref _]) _ _ _ | show wpAny _ _ (subscriptTail _ _ (Value.ref _) (Value.ref _)) _ _ _ | show wpAny _ _ (compareOp CmpOp.Lt (Value.ref _) (Value.ref _)) _ _ _ | show wpAny _ _ (setItem (Value.ref _) (Value.int _ _) _) _ _ _))); (first | (k_unfold; (try dsimp only)) | (k_end; wrow_close) | walk1 | (dsimp only; walk1) | (leave1; walk_say "STEP leave1"; try dsimp only) | fail "no step")))
      rename_i h8 o8 F8 N8 d8

      k_dflt (refine LCt.ListComp_T (F₀ := by k_asm) (by with_unfolding_all rfl) (by decide) (by rfl) (by decide) (by rfl) ?_)
      (repeat' ((fail_if_success (with_reducible show wpAny _ _ (subscriptTail _ _ (Value.ref _) (Value.int _ _)) _ _ _)); ((fail_if_success (with_reducible first | show wpAny _ _ (exec (Stmt.For _ _ _ _ _) _) _ _ _ | show wpAny _ _ (exec (Stmt.While _ _ _ _) _) _ _ _ | show wpAny _ _ (eval (Expr.ListComp _ _ _ _) _) _ _ _ | show wpAny _ _ (eval (Expr.Dict _ _ _) _) _ _ _ | show wpAny _ _ (binaryOp _ _ (Value.str (S (List.flatten _)) _)) _ _ _ | show wpAny _ _ (exec (Stmt.Assign _ (Expr.ListComp _ _ _ _) _) _) _ _ _ | show wpAny _ _ (call (Value.ref _) _ _) _ _ _ | show wpAny _ _ (pyIter _) _ _ _ | show wpAny _ _ (call (Value.builtin "len") [Value.ref _]) _ _ _ | show wpAny _ _ (subscriptTail _ _ (Value.ref _) (Value.ref _)) _ _ _ | show wpAny _ _ (compareOp CmpOp.Lt (Value.ref _) (Value.ref _)) _ _ _ | show wpAny _ _ (setItem (Value.ref _) (Value.int _ _) _) _ _ _))); (first | (k_unfold; (try dsimp only)) | (k_end; wrow_close) | walk1 | (dsimp only; walk1) | (leave1; walk_say "STEP leave1"; try dsimp only) | fail "no step")))
      rename Fr g1 L' _ _ => F9
      rename News g1 L' _ _ => N9
      have hfl : fs.length = 3 := by rw [hf.len_eq, List.length_map, hns]
      refine LCt.CompSrcT.ledger rfl F9 N9 (.tail _ (.tail _ (.tail _ (hsub _ hmf)))) (by rw [List.size_toArray, hfl, sizeLine_eq]; omega) fun g2 => ?_
      refine restT_J (fun j ys nw => nw = (lh, listOf (List.toArray vs5) k5) :: (50, tabObj ps7) :: (L' + 1, o8) :: more ∧ StrsAre ys (((ns.take j).filter (takes (g H 0).2)).map S)) ?_ ?_ ⟨rfl, .nil⟩
      · intro j v ys2 nw I2 oI2 C oC D2 m₂ h tk E' hj hv2 hJ hoC hx F5 N5 off hne5
        obtain ⟨rfl, hys⟩ := hJ
        obtain ⟨x, t, rfl, hxs⟩ := hf.item j v (by simpa using hv2)
        obtain ⟨n, hn, rfl⟩ := strs_item hxs
        (repeat' ((fail_if_success (with_reducible show wpAny _ _ (subscriptTail _ _ (Value.ref _) (Value.int _ _)) _ _ _)); ((fail_if_success (with_reducible first | show wpAny _ _ (exec (Stmt.For _ _ _ _ _) _) _ _ _ | show wpAny _ _ (exec (Stmt.While _ _ _ _) _) _ _ _ | show wpAny _ _ (eval (Expr.ListComp _ _ _ _) _) _ _ _ | show wpAny _ _ (eval (Expr.Dict _ _ _) _) _ _ _ | show wpAny _ _ (binaryOp _ _ (Value.str (S (List.flatten _)) _)) _ _ _ | show wpAny _ _ (exec (Stmt.Assign _ (Expr.ListComp _ _ _ _) _) _) _ _ _ | show wpAny _ _ (call (Value.ref _) _ _) _ _ _ | show wpAny _ _ (pyIter _) _ _ _ | show wpAny _ _ (call (Value.builtin "len") [Value.ref _]) _ _ _ | show wpAny _ _ (subscriptTail _ _ (Value.ref _) (Value.ref _)) _ _ _ | show wpAny _ _ (compareOp CmpOp.Lt (Value.ref _) (Value.ref _)) _ _ _ | show wpAny _ _ (setItem (Value.ref _) (Value.int _ _) _) _ _ _))); (first | (k_unfold; (try dsimp only)) | (k_end; wrow_close) | walk1 | (dsimp only; walk1) | (leave1; walk_say "STEP leave1"; try dsimp only) | fail "no step")))
        refine (takes_ctr w loose mean mg mb (g H 0).2 n t7 t _).use B1 F5 X1 N5 T1' rfl hC1 ?_ ?_ ?_
        · exact (by omega : dp + 1 + 3 < recursionLimit)
        · exact (by omega : un + 3 + 8 * 3 < cLine)
        intro r10 news10 h10 tk10 F10 N10 hp10
        clear F5 N5
        obtain ⟨rfl, rfl⟩ := hp10
        cases hb : takes (g H 0).2 n with
        | true =>
          (repeat' ((fail_if_success (with_reducible show wpAny _ _ (subscriptTail _ _ (Value.ref _) (Value.int _ _)) _ _ _)); ((fail_if_success (with_reducible first | show wpAny _ _ (exec (Stmt.For _ _ _ _ _) _) _ _ _ | show wpAny _ _ (exec (Stmt.While _ _ _ _) _) _ _ _ | show wpAny _ _ (eval (Expr.ListComp _ _ _ _) _) _ _ _ | show wpAny _ _ (eval (Expr.Dict _ _ _) _) _ _ _ | show wpAny _ _ (binaryOp _ _ (Value.str (S (List.flatten _)) _)) _ _ _ | show wpAny _ _ (exec (Stmt.Assign _ (Expr.ListComp _ _ _ _) _) _) _ _ _ | show wpAny _ _ (call (Value.ref _) _ _) _ _ _ | show wpAny _ _ (pyIter _) _ _ _ | show wpAny _ _ (call (Value.builtin "len") [Value.ref _]) _ _ _ | show wpAny _ _ (subscriptTail _ _ (Value.ref _) (Value.ref _)) _ _ _ | show wpAny _ _ (compareOp CmpOp.Lt (Value.ref _) (Value.ref _)) _ _ _ | show wpAny _ _ (setItem (Value.ref _) (Value.int _ _) _) _ _ _))); (first | (k_unfold; (try dsimp only)) | (k_end; wrow_close) | walk1 | (dsimp only; walk1) | (leave1; walk_say "STEP leave1"; try dsimp only) | fail "no step")))
          refine comp_same (by k_asm) (by k_asm) off (.inr ⟨_, .tail _ (.tail _ (.tail _ (hsub _ hmf))), rfl, _, rfl⟩) ⟨rfl, ?_⟩
          rw [List.take_add_one, hn, List.filter_append, show List.filter (takes (g H 0).2) (some n).toList = [n] by simp [hb], List.map_append]
          exact strsAre_put hys
        | false =>
          (repeat' ((fail_if_success (with_reducible show wpAny _ _ (subscriptTail _ _ (Value.ref _) (Value.int _ _)) _ _ _)); ((fail_if_success (with_reducible first | show wpAny _ _ (exec (Stmt.For _ _ _ _ _) _) _ _ _ | show wpAny _ _ (exec (Stmt.While _ _ _ _) _) _ _ _ | show wpAny _ _ (eval (Expr.ListComp _ _ _ _) _) _ _ _ | show wpAny _ _ (eval (Expr.Dict _ _ _) _) _ _ _ | show wpAny _ _ (binaryOp _ _ (Value.str (S (List.flatten _)) _)) _ _ _ | show wpAny _ _ (exec (Stmt.Assign _ (Expr.ListComp _ _ _ _) _) _) _ _ _ | show wpAny _ _ (call (Value.ref _) _ _) _ _ _ | show wpAny _ _ (pyIter _) _ _ _ | show wpAny _ _ (call (Value.builtin "len") [Value.ref _]) _ _ _ | show wpAny _ _ (subscriptTail _ _ (Value.ref _) (Value.ref _)) _ _ _ | show wpAny _ _ (compareOp CmpOp.Lt (Value.ref _) (Value.ref _)) _ _ _ | show wpAny _ _ (setItem (Value.ref _) (Value.int _ _) _) _ _ _))); (first | (k_unfold; (try dsimp only)) | (k_end; wrow_close) | walk1 | (dsimp only; walk1) | (leave1; walk_say "STEP leave1"; try dsimp only) | fail "no step")))
          refine comp_same (by k_asm) (by k_asm) off (.inr ⟨_, .tail _ (.tail _ (.tail _ (hsub _ hmf))), rfl, _, rfl⟩) ⟨rfl, ?_⟩
          rw [List.take_add_one, hn, List.filter_append, show List.filter (takes (g H 0).2) (some n).toList = [] by simp [hb], List.append_nil]
          exact hys
      · intro ys2 nw hJ
        obtain ⟨rfl, hys2⟩ := hJ
        rw [List.size_toArray, hfl, ← hns, List.take_length] at hys2
        intro D2 h tk F6 N6 o6
        dsimp only
        (repeat' ((fail_if_success (with_reducible show wpAny _ _ (subscriptTail _ _ (Value.ref _) (Value.int _ _)) _ _ _)); ((fail_if_success (with_reducible first | show wpAny _ _ (exec (Stmt.For _ _ _ _ _) _) _ _ _ | show wpAny _ _ (exec (Stmt.While _ _ _ _) _) _ _ _ | show wpAny _ _ (eval (Expr.ListComp _ _ _ _) _) _ _ _ | show wpAny _ _ (eval (Expr.Dict _ _ _) _) _ _ _ | show wpAny _ _ (binaryOp _ _ (Value.str (S (List.flatten _)) _)) _ _ _ | show wpAny _ _ (exec (Stmt.Assign _ (Expr.ListComp _ _ _ _) _) _) _ _ _ | show wpAny _ _ (call (Value.ref _) _ _) _ _ _ | show wpAny _ _ (pyIter _) _ _ _ | show wpAny _ _ (call (Value.builtin "len") [Value.ref _]) _ _ _ | show wpAny _ _ (subscriptTail _ _ (Value.ref _) (Value.ref _)) _ _ _ | show wpAny _ _ (compareOp CmpOp.Lt (Value.ref _) (Value.ref _)) _ _ _ | show wpAny _ _ (setItem (Value.ref _) (Value.int _ _) _) _ _ _))); (first | (k_unfold; (try dsimp only)) | (k_end; wrow_close) | walk1 | (dsimp only; walk1) | (leave1; walk_say "STEP leave1"; try dsimp only) | fail "no step")))
        refine (filter_ctr w loose mean mg mb ln D2 fs ys2 kf _ ns _ _ (.tail _ (.tail _ (.tail _ (.tail _ (hsub _ hmf))))) (.head _) hf hys2 (by omega)).use B1 F6 X N6 T rfl hC ?_ ?_ ?_
        · exact (by omega : dp + 1 + 20 < recursionLimit)
        · exact (by omega : un + 3 + 8 * 20 < cLine)
        intro r11 news11 g11 h11 tk11 B11 T11 F11 N11 hp11
        clear F6 N6
        obtain ⟨l11, vs11, k11, rfl, rfl, hn11, hv11⟩ := hp11
        have X11 : (K w.params).In g11 := X.keeps B11.stays
        have T11' : Top topProg loose mean mg mb g11 := T.keeps B11.stays
        have hC11 : CodeHd g11 54 50 := hC.keeps B11.stays
        rw [filter_not] at hv11
        (repeat' ((fail_if_success (with_reducible show wpAny _ _ (subscriptTail _ _ (Value.ref _) (Value.int _ _)) _ _ _)); (fail_if_success (with_reducible show wpAny _ _ (compareOp CmpOp.Eq (Value.ref _) (Value.ref _)) _ _ _)); ((fail_if_success (with_reducible first | show wpAny _ _ (exec (Stmt.For _ _ _ _ _) _) _ _ _ | show wpAny _ _ (exec (Stmt.While _ _ _ _) _) _ _ _ | show wpAny _ _ (eval (Expr.ListComp _ _ _ _) _) _ _ _ | show wpAny _ _ (eval (Expr.Dict _ _ _) _) _ _ _ | show wpAny _ _ (binaryOp _ _ (Value.str (S (List.flatten _)) _)) _ _ _ | show wpAny _ _ (exec (Stmt.Assign _ (Expr.ListComp _ _ _ _) _) _) _ _ _ | show wpAny _ _ (call (Value.ref _) _ _) _ _ _ | show wpAny _ _ (pyIter _) _ _ _ | show wpAny _ _ (call (Value.builtin "len") [Value.ref _]) _ _ _ | show wpAny _ _ (subscriptTail _ _ (Value.ref _) (Value.ref _)) _ _ _ | show wpAny _ _ (compareOp CmpOp.Lt (Value.ref _) (Value.ref _)) _ _ _ | show wpAny _ _ (setItem (Value.ref _) (Value.int _ _) _) _ _ _))); (first | (k_unfold; (try dsimp only)) | (k_end; wrow_close) | walk1 | (dsimp only; walk1) | (leave1; walk_say "STEP leave1"; try dsimp only) | fail "no step")))
        rename Fr _ _ _ _ => F12
        rename News _ _ _ _ => N12
        have h128 : ∀ c, c = q.x0 ∨ c = q.x1 → c < 128 := fun c hc => by
          have h6 : c = 42 ∨ c = 97 ∨ c = 91 ∨ c = 63 ∨ c = 45 ∨ c = 33 := hs c (by rcases hc with rfl | rfl <;> simp)
          omega
        have hwl5 : ∀ n ∈ ns.filter (fun n => !takes (g H 0).2 n), ∀ c ∈ n, c < 0x110000 := fun n hn c hc =>
          Nat.lt_trans (h128 c ((h4 n (List.mem_filter.mp hn).1).2 c hc)) (by decide)
        refine eq_nil N12 (.tail _ (.head _)) (.head _) hv11 hwl5 ?hu ?_
        case hu => exact (show un + 3 + 64 < cLine from by omega)
        have hlv := hv11.len_eq
        rw [List.length_map] at hlv
        by_cases hnil : ns.filter (fun n => !takes (g H 0).2 n) = []
        · rw [decide_eq_true hnil]
          (repeat' ((fail_if_success (with_reducible show wpAny _ _ (subscriptTail _ _ (Value.ref _) (Value.int _ _)) _ _ _)); (fail_if_success (with_reducible show wpAny _ _ (compareOp CmpOp.Eq (Value.ref _) (Value.ref _)) _ _ _)); ((fail_if_success (with_reducible first | show wpAny _ _ (exec (Stmt.For _ _ _ _ _) _) _ _ _ | show wpAny _ _ (exec (Stmt.While _ _ _ _) _) _ _ _ | show wpAny _ _ (eval (Expr.ListComp _ _ _ _) _) _ _ _ | show wpAny _ _ (eval (Expr.Dict _ _ _) _) _ _ _ | show wpAny _ _ (binaryOp _ _ (Value.str (S (List.flatten _)) _)) _ _ _ | show wpAny _ _ (exec (Stmt.Assign _ (Expr.ListComp _ _ _ _) _) _) _ _ _ | show wpAny _ _ (call (Value.ref _) _ _) _ _ _ | show wpAny _ _ (pyIter _) _ _ _ | show wpAny _ _ (call (Value.builtin "len") [Value.ref _]) _ _ _ | show wpAny _ _ (subscriptTail _ _ (Value.ref _) (Value.ref _)) _ _ _ | show wpAny _ _ (compareOp CmpOp.Lt (Value.ref _) (Value.ref _)) _ _ _ | show wpAny _ _ (setItem (Value.ref _) (Value.int _ _) _) _ _ _))); (first | (k_unfold; (try dsimp only)) | (k_end; wrow_close) | walk1 | (dsimp only; walk1) | (leave1; walk_say "STEP leave1"; try dsimp only) | fail "no step")))
          rename Fr _ _ _ _ => F13
          rename News _ _ _ _ => N13
          refine For_turns F13 ?_ (hs := by intro _; rfl) (hE := ?pe3)
          case pe3 => first | passes_own | with_unfolding_all passes_own
          ((repeat' (((fail_if_success (with_reducible first | show wpAny _ _ (exec (Stmt.For _ _ _ _ _) _) _ _ _ | show wpAny _ _ (exec (Stmt.While _ _ _ _) _) _ _ _ | show wpAny _ _ (eval (Expr.ListComp _ _ _ _) _) _ _ _ | show wpAny _ _ (eval (Expr.Dict _ _ _) _) _ _ _ | show wpAny _ _ (binaryOp _ _ (Value.str (S (List.flatten _)) _)) _ _ _ | show wpAny _ _ (exec (Stmt.Assign _ (Expr.ListComp _ _ _ _) _) _) _ _ _ | show wpAny _ _ (call (Value.ref _) _ _) _ _ _ | show wpAny _ _ (pyIter _) _ _ _ | show wpAny _ _ (call (Value.builtin "len") [Value.ref _]) _ _ _ | show wpAny _ _ (subscriptTail _ _ (Value.ref _) (Value.ref _)) _ _ _ | show wpAny _ _ (compareOp CmpOp.Lt (Value.ref _) (Value.ref _)) _ _ _ | show wpAny _ _ (setItem (Value.ref _) (Value.int _ _) _) _ _ _))); (first | (k_unfold; (try dsimp only)) | (k_end; wrow_close) | walk1 | (dsimp only; walk1) | (leave1; walk_say "STEP leave1"; try dsimp only) | fail "no step"))))
          have hE6 := ents_strip hE5 hoc
          have N14 := drop3 N13
          have lA := Heap.lt_size (N14 _ (.head _)).1
          refine ktu_zipS rfl F13 N14 (h128 _ (.inl rfl)) (h128 _ (.inr rfl)) (.tail _ (.tail _ (.tail _ (hsub _ hmp)))) rfl rfl fun I hIz => ?_
          have hIl : @LT.lt Nat _ lh I := hIz _ (.head _)
          have hI' := hI
          clear N13 N14 F13
          have hrl := wgt_drop hI'.hp hp
          have hrl2 := wgt_len (hrest H)
          have hpl : (hpush (hrest H) ((g H 0).1 + q.p0, (g H 0).2 ++ [q.x0])).length ≤ 100000 := by unfold hpush; rw [sdown_len, List.length_append, List.length_singleton]; omega
          have hall : ∀ n ∈ ns, takes (g H 0).2 n = true := fun n hn => by
            have := List.filter_eq_nil_iff.mp hnil n hn
            simpa using this
          have h4l : (g H 0).2.length ≤ 4 := by
            obtain ⟨n, hn⟩ := List.exists_mem_of_length_pos (l := ns) (by omega)
            have h1 := takes_len (hall n hn)
            have h2 := (h4 n hn).1
            omega
          have hI0 : ∀ p ∈ (lh, listOf (List.toArray vs5) k5) :: (50, tabObj ps7) :: (L' + 1, o8) :: more, @LT.lt Nat _ p.1 I ∨ @LT.lt Nat _ (I + 4) p.1 := fun p hp => .inl (hIz p hp)
          have hnl20 : ∀ p ∈ (50, tabObj ps7) :: (L' + 1, o8) :: more, p.1 ≠ lh := fun p hp => by
            rcases List.mem_cons.mp hp with rfl | hp
            · exact Nat.ne_of_lt l1.2.2.1
            · rcases List.mem_cons.mp hp with rfl | hp
              · exact Nat.ne_of_lt l1.2.1
              · exact (hoff p hp).1
          refine ItemsRest.pair fun T13 t13 h13 tk13 hT13 F13 => AllObj.cons fun z1 cz1 => AllObj.cons fun z2 cz2 => AllObj.cons fun z3 cz3 => AllObj.cons fun z4 cz4 => AllObj.cons fun z5 cz5 => AllObj.nil fun N13 => ?_
          (try simp only [List.cons_append, List.nil_append] at N13)
          (repeat' ((fail_if_success (with_reducible show wpAny _ _ (binaryOp _ (Value.str _ _) (Value.str _ _)) _ _ _)); ((fail_if_success (with_reducible first | show wpAny _ _ (exec (Stmt.For _ _ _ _ _) _) _ _ _ | show wpAny _ _ (exec (Stmt.While _ _ _ _) _) _ _ _ | show wpAny _ _ (eval (Expr.ListComp _ _ _ _) _) _ _ _ | show wpAny _ _ (eval (Expr.Dict _ _ _) _) _ _ _ | show wpAny _ _ (binaryOp _ _ (Value.str (S (List.flatten _)) _)) _ _ _ | show wpAny _ _ (exec (Stmt.Assign _ (Expr.ListComp _ _ _ _) _) _) _ _ _ | show wpAny _ _ (call (Value.ref _) _ _) _ _ _ | show wpAny _ _ (pyIter _) _ _ _ | show wpAny _ _ (call (Value.builtin "len") [Value.ref _]) _ _ _ | show wpAny _ _ (subscriptTail _ _ (Value.ref _) (Value.ref _)) _ _ _ | show wpAny _ _ (compareOp CmpOp.Lt (Value.ref _) (Value.ref _)) _ _ _ | show wpAny _ _ (setItem (Value.ref _) (Value.int _ _) _) _ _ _))); (first | (k_unfold; (try dsimp only)) | (k_end; wrow_close) | walk1 | (dsimp only; walk1) | (leave1; walk_say "STEP leave1"; try dsimp only) | fail "no step")))
          refine S_add (b := [q.x0]) (by rw [sizeLine_eq, List.length_singleton]; omega) fun t20 tk20 => ?_
          (repeat' ((fail_if_success (with_reducible show wpAny _ _ (subscriptTail _ _ (Value.ref _) (Value.int _ _)) _ _ _)); ((fail_if_success (with_reducible first | show wpAny _ _ (exec (Stmt.For _ _ _ _ _) _) _ _ _ | show wpAny _ _ (exec (Stmt.While _ _ _ _) _) _ _ _ | show wpAny _ _ (eval (Expr.ListComp _ _ _ _) _) _ _ _ | show wpAny _ _ (eval (Expr.Dict _ _ _) _) _ _ _ | show wpAny _ _ (binaryOp _ _ (Value.str (S (List.flatten _)) _)) _ _ _ | show wpAny _ _ (exec (Stmt.Assign _ (Expr.ListComp _ _ _ _) _) _) _ _ _ | show wpAny _ _ (call (Value.ref _) _ _) _ _ _ | show wpAny _ _ (pyIter _) _ _ _ | show wpAny _ _ (call (Value.builtin "len") [Value.ref _]) _ _ _ | show wpAny _ _ (subscriptTail _ _ (Value.ref _) (Value.ref _)) _ _ _ | show wpAny _ _ (compareOp CmpOp.Lt (Value.ref _) (Value.ref _)) _ _ _ | show wpAny _ _ (setItem (Value.ref _) (Value.int _ _) _) _ _ _))); (first | (k_unfold; (try dsimp only)) | (k_end; wrow_close) | walk1 | (dsimp only; walk1) | (leave1; walk_say "STEP leave1"; try dsimp only) | fail "no step")))
          rename_i D20 hh20 F20 N20 l20
          have hx20 : ∃ o20, News g11 L' hh20 ((D20, o20) :: (I + 4, z1) :: (I + 2, z2) :: (I + 3, z3) :: (I, z4) :: (I + 1, z5) :: (lh, listOf (List.toArray vs5) k5) :: (50, tabObj ps7) :: (L' + 1, o8) :: more) ∧ EntO ((g H 0).1 + q.p0, (g H 0).2 ++ [q.x0]) o20 := ⟨_, N20, ent_mk _ _ _ _ _ _⟩
          clear N20
          obtain ⟨o20, N20, he20⟩ := hx20
          have hID20 : @LT.lt Nat _ (I + 4) D20 := l20.1
          have hN20 := rot7 N20
          refine (push_ctr w loose mean mg mb lh D20 o20 ((g H 0).1 + q.p0, (g H 0).2 ++ [q.x0]) vs5 k5 (hrest H) _ ((D20, o20) :: more) ?hn20 (hE6.mono fun p hp => .tail _ hp) (.head _) he20 (by omega) ?hne20).use B11 F20 X11 hN20 T11' rfl hC11 ?_ ?_ ?_
          case hn20 => intro p hp; simp only [List.mem_cons] at hp ⊢; grind
          case hne20 => exact hne7 hIl hID20 hI0 hnl20
          · exact (by omega : dp + 1 + 14 < recursionLimit)
          · exact (by omega : un + 3 + 8 * 14 < cLine)
          intro r22 news22 h22 tk22 F22 N22 hp22
          clear F20 N20 hN20
          obtain ⟨rfl, vs22, k22, rfl, hE22⟩ := hp22
          have hI22 := off_push vs22 k22 o20 hI0 hID20
          (repeat' ((fail_if_success (with_reducible show wpAny _ _ (subscriptTail _ _ (Value.ref _) (Value.int _ _)) _ _ _)); ((fail_if_success (with_reducible first | show wpAny _ _ (exec (Stmt.For _ _ _ _ _) _) _ _ _ | show wpAny _ _ (exec (Stmt.While _ _ _ _) _) _ _ _ | show wpAny _ _ (eval (Expr.ListComp _ _ _ _) _) _ _ _ | show wpAny _ _ (eval (Expr.Dict _ _ _) _) _ _ _ | show wpAny _ _ (binaryOp _ _ (Value.str (S (List.flatten _)) _)) _ _ _ | show wpAny _ _ (exec (Stmt.Assign _ (Expr.ListComp _ _ _ _) _) _) _ _ _ | show wpAny _ _ (call (Value.ref _) _ _) _ _ _ | show wpAny _ _ (pyIter _) _ _ _ | show wpAny _ _ (call (Value.builtin "len") [Value.ref _]) _ _ _ | show wpAny _ _ (subscriptTail _ _ (Value.ref _) (Value.ref _)) _ _ _ | show wpAny _ _ (compareOp CmpOp.Lt (Value.ref _) (Value.ref _)) _ _ _ | show wpAny _ _ (setItem (Value.ref _) (Value.int _ _) _) _ _ _))); (first | (k_unfold; (try dsimp only)) | (k_end; wrow_close) | walk1 | (dsimp only; walk1) | (leave1; walk_say "STEP leave1"; try dsimp only) | fail "no step")))
          refine ⟨_, _, _, (lh, listOf (List.toArray vs22) k22) :: (50, tabObj ps7) :: (L' + 1, o8) :: (D20, o20) :: more, rfl, by k_asm, rot9 (by k_asm), off5 hI22, ⟨.tail _ (.tail _ (.tail _ (.tail _ (hsub _ hmp)))), trivial⟩, ?_⟩
          have hnl30 : ∀ p ∈ (50, tabObj ps7) :: (L' + 1, o8) :: (D20, o20) :: more, p.1 ≠ lh := fun p hp => by
            rcases List.mem_cons.mp hp with rfl | hp
            · exact hnl20 _ (.head _)
            · rcases List.mem_cons.mp hp with rfl | hp
              · exact hnl20 _ (.tail _ (.head _))
              · rcases List.mem_cons.mp hp with rfl | hp
                · exact Nat.ne_of_gt (Nat.lt_trans (Nat.lt_of_lt_of_le hIl (Nat.le_add_right I 4)) hID20)
                · exact (hoff p hp).1
          refine ItemsRest.pair fun T13 t13 h13 tk13 hT13 F13 => AllObj.cons fun z1 cz1 => AllObj.cons fun z2 cz2 => AllObj.cons fun z3 cz3 => AllObj.cons fun z4 cz4 => AllObj.cons fun z5 cz5 => AllObj.nil fun N13 => ?_
          (try simp only [List.cons_append, List.nil_append] at N13)
          (repeat' ((fail_if_success (with_reducible show wpAny _ _ (binaryOp _ (Value.str _ _) (Value.str _ _)) _ _ _)); ((fail_if_success (with_reducible first | show wpAny _ _ (exec (Stmt.For _ _ _ _ _) _) _ _ _ | show wpAny _ _ (exec (Stmt.While _ _ _ _) _) _ _ _ | show wpAny _ _ (eval (Expr.ListComp _ _ _ _) _) _ _ _ | show wpAny _ _ (eval (Expr.Dict _ _ _) _) _ _ _ | show wpAny _ _ (binaryOp _ _ (Value.str (S (List.flatten _)) _)) _ _ _ | show wpAny _ _ (exec (Stmt.Assign _ (Expr.ListComp _ _ _ _) _) _) _ _ _ | show wpAny _ _ (call (Value.ref _) _ _) _ _ _ | show wpAny _ _ (pyIter _) _ _ _ | show wpAny _ _ (call (Value.builtin "len") [Value.ref _]) _ _ _ | show wpAny _ _ (subscriptTail _ _ (Value.ref _) (Value.ref _)) _ _ _ | show wpAny _ _ (compareOp CmpOp.Lt (Value.ref _) (Value.ref _)) _ _ _ | show wpAny _ _ (setItem (Value.ref _) (Value.int _ _) _) _ _ _))); (first | (k_unfold; (try dsimp only)) | (k_end; wrow_close) | walk1 | (dsimp only; walk1) | (leave1; walk_say "STEP leave1"; try dsimp only) | fail "no step")))
          refine S_add (b := [q.x1]) (by rw [sizeLine_eq, List.length_singleton]; omega) fun t30 tk30 => ?_
          (repeat' ((fail_if_success (with_reducible show wpAny _ _ (subscriptTail _ _ (Value.ref _) (Value.int _ _)) _ _ _)); ((fail_if_success (with_reducible first | show wpAny _ _ (exec (Stmt.For _ _ _ _ _) _) _ _ _ | show wpAny _ _ (exec (Stmt.While _ _ _ _) _) _ _ _ | show wpAny _ _ (eval (Expr.ListComp _ _ _ _) _) _ _ _ | show wpAny _ _ (eval (Expr.Dict _ _ _) _) _ _ _ | show wpAny _ _ (binaryOp _ _ (Value.str (S (List.flatten _)) _)) _ _ _ | show wpAny _ _ (exec (Stmt.Assign _ (Expr.ListComp _ _ _ _) _) _) _ _ _ | show wpAny _ _ (call (Value.ref _) _ _) _ _ _ | show wpAny _ _ (pyIter _) _ _ _ | show wpAny _ _ (call (Value.builtin "len") [Value.ref _]) _ _ _ | show wpAny _ _ (subscriptTail _ _ (Value.ref _) (Value.ref _)) _ _ _ | show wpAny _ _ (compareOp CmpOp.Lt (Value.ref _) (Value.ref _)) _ _ _ | show wpAny _ _ (setItem (Value.ref _) (Value.int _ _) _) _ _ _))); (first | (k_unfold; (try dsimp only)) | (k_end; wrow_close) | walk1 | (dsimp only; walk1) | (leave1; walk_say "STEP leave1"; try dsimp only) | fail "no step")))
          rename_i D30 hh30 F30 N30 l30
          have hx30 : ∃ o30, News g11 L' hh30 ((D30, o30) :: (I + 4, z1) :: (I + 2, z2) :: (I + 3, z3) :: (I, z4) :: (I + 1, z5) :: (lh, listOf (List.toArray vs22) k22) :: (50, tabObj ps7) :: (L' + 1, o8) :: (D20, o20) :: more) ∧ EntO ((g H 0).1 + q.p1, (g H 0).2 ++ [q.x1]) o30 := ⟨_, N30, ent_mk _ _ _ _ _ _⟩
          clear N30
          obtain ⟨o30, N30, he30⟩ := hx30
          have hID30 : @LT.lt Nat _ (I + 4) D30 := l30.1
          have hN30 := rot7 N30
          refine (push_ctr w loose mean mg mb lh D30 o30 ((g H 0).1 + q.p1, (g H 0).2 ++ [q.x1]) vs22 k22 (hpush (hrest H) ((g H 0).1 + q.p0, (g H 0).2 ++ [q.x0])) _ ((D30, o30) :: (D20, o20) :: more) ?hn30 (hE22.mono fun p hp => .tail _ hp) (.head _) he30 (by omega) ?hne30).use B11 F30 X11 hN30 T11' rfl hC11 ?_ ?_ ?_
          case hn30 => intro p hp; simp only [List.mem_cons] at hp ⊢; grind
          case hne30 => exact hne7 hIl hID30 hI22 hnl30
          · exact (by omega : dp + 1 + 14 < recursionLimit)
          · exact (by omega : un + 3 + 8 * 14 < cLine)
          intro r32 news32 h32 tk32 F32 N32 hp32
          clear F30 N30 hN30
          obtain ⟨rfl, vs32, k32, rfl, hE32⟩ := hp32
          have hI32 := off_push vs32 k32 o30 hI22 hID30
          (repeat' ((fail_if_success (with_reducible show wpAny _ _ (subscriptTail _ _ (Value.ref _) (Value.int _ _)) _ _ _)); ((fail_if_success (with_reducible first | show wpAny _ _ (exec (Stmt.For _ _ _ _ _) _) _ _ _ | show wpAny _ _ (exec (Stmt.While _ _ _ _) _) _ _ _ | show wpAny _ _ (eval (Expr.ListComp _ _ _ _) _) _ _ _ | show wpAny _ _ (eval (Expr.Dict _ _ _) _) _ _ _ | show wpAny _ _ (binaryOp _ _ (Value.str (S (List.flatten _)) _)) _ _ _ | show wpAny _ _ (exec (Stmt.Assign _ (Expr.ListComp _ _ _ _) _) _) _ _ _ | show wpAny _ _ (call (Value.ref _) _ _) _ _ _ | show wpAny _ _ (pyIter _) _ _ _ | show wpAny _ _ (call (Value.builtin "len") [Value.ref _]) _ _ _ | show wpAny _ _ (subscriptTail _ _ (Value.ref _) (Value.ref _)) _ _ _ | show wpAny _ _ (compareOp CmpOp.Lt (Value.ref _) (Value.ref _)) _ _ _ | show wpAny _ _ (setItem (Value.ref _) (Value.int _ _) _) _ _ _))); (first | (k_unfold; (try dsimp only)) | (k_end; wrow_close) | walk1 | (dsimp only; walk1) | (leave1; walk_say "STEP leave1"; try dsimp only) | fail "no step")))
          refine ⟨_, _, _, (lh, listOf (List.toArray vs32) k32) :: (50, tabObj ps7) :: (L' + 1, o8) :: (D30, o30) :: (D20, o20) :: more, rfl, by k_asm, rot9 (by k_asm), off5 hI32, ⟨.tail _ (.tail _ (.tail _ (.tail _ (.tail _ (hsub _ hmp))))), trivial⟩, ?_⟩
          refine ItemsRest.zero fun h40 tk40 F40 N40 => ?_
          (repeat' ((fail_if_success (with_reducible show wpAny _ _ (subscriptTail _ _ (Value.ref _) (Value.int _ _)) _ _ _)); ((fail_if_success (with_reducible first | show wpAny _ _ (exec (Stmt.For _ _ _ _ _) _) _ _ _ | show wpAny _ _ (exec (Stmt.While _ _ _ _) _) _ _ _ | show wpAny _ _ (eval (Expr.ListComp _ _ _ _) _) _ _ _ | show wpAny _ _ (eval (Expr.Dict _ _ _) _) _ _ _ | show wpAny _ _ (binaryOp _ _ (Value.str (S (List.flatten _)) _)) _ _ _ | show wpAny _ _ (exec (Stmt.Assign _ (Expr.ListComp _ _ _ _) _) _) _ _ _ | show wpAny _ _ (call (Value.ref _) _ _) _ _ _ | show wpAny _ _ (pyIter _) _ _ _ | show wpAny _ _ (call (Value.builtin "len") [Value.ref _]) _ _ _ | show wpAny _ _ (subscriptTail _ _ (Value.ref _) (Value.ref _)) _ _ _ | show wpAny _ _ (compareOp CmpOp.Lt (Value.ref _) (Value.ref _)) _ _ _ | show wpAny _ _ (setItem (Value.ref _) (Value.int _ _) _) _ _ _))); (first | (k_unfold; (try dsimp only)) | (k_end; wrow_close) | walk1 | (dsimp only; walk1) | (leave1; walk_say "STEP leave1"; try dsimp only) | fail "no step")))
          have hoD : ∀ D : Addr, @LT.lt Nat _ (I + 4) D → D ≠ lh ∧ D ≠ 50 ∧ D ≠ L' + 1 := fun D hD => by
            have h1 := Nat.lt_trans (Nat.lt_of_lt_of_le hIl (Nat.le_add_right I 4)) hD
            exact ⟨Nat.ne_of_gt h1, Nat.ne_of_gt (Nat.lt_trans l1.2.2.1 h1), Nat.ne_of_gt (Nat.lt_trans l1.2.1 h1)⟩
          have hw2 := wgt_two hI'.hp hp h4l ((g H 0).1 + q.p0, (g H 0).2 ++ [q.x0]) ((g H 0).1 + q.p1, (g H 0).2 ++ [q.x1]) (by simp) (by simp)
          refine ⟨_, hw2, g11, _, _, _, _, rfl, B11, T1.trans T11, F40, N40, ⟨vs32, k32, _, ps7, o8, _, _, rfl, hps7, d8, hE32, Ask.inv_push hI' hp hall h4l, rfl, by omega, fun p hp => .tail _ (.tail _ (hsub p hp)), fun p hp => ?_, m1, m2, m3, m4⟩⟩
          rcases List.mem_cons.mp hp with rfl | hp
          · exact hoD _ hID30
          · rcases List.mem_cons.mp hp with rfl | hp
            · exact hoD _ hID20
            · exact hoff p hp
        · rw [decide_eq_false hnil]
          (repeat' ((fail_if_success (with_reducible show wpAny _ _ (subscriptTail _ _ (Value.ref _) (Value.int _ _)) _ _ _)); (fail_if_success (with_reducible show wpAny _ _ (compareOp CmpOp.Eq (Value.ref _) (Value.ref _)) _ _ _)); ((fail_if_success (with_reducible first | show wpAny _ _ (exec (Stmt.For _ _ _ _ _) _) _ _ _ | show wpAny _ _ (exec (Stmt.While _ _ _ _) _) _ _ _ | show wpAny _ _ (eval (Expr.ListComp _ _ _ _) _) _ _ _ | show wpAny _ _ (eval (Expr.Dict _ _ _) _) _ _ _ | show wpAny _ _ (binaryOp _ _ (Value.str (S (List.flatten _)) _)) _ _ _ | show wpAny _ _ (exec (Stmt.Assign _ (Expr.ListComp _ _ _ _) _) _) _ _ _ | show wpAny _ _ (call (Value.ref _) _ _) _ _ _ | show wpAny _ _ (pyIter _) _ _ _ | show wpAny _ _ (call (Value.builtin "len") [Value.ref _]) _ _ _ | show wpAny _ _ (subscriptTail _ _ (Value.ref _) (Value.ref _)) _ _ _ | show wpAny _ _ (compareOp CmpOp.Lt (Value.ref _) (Value.ref _)) _ _ _ | show wpAny _ _ (setItem (Value.ref _) (Value.int _ _) _) _ _ _))); (first | (k_unfold; (try dsimp only)) | (k_end; wrow_close) | walk1 | (dsimp only; walk1) | (leave1; walk_say "STEP leave1"; try dsimp only) | fail "no step")))
          rename Fr _ _ _ _ => F15
          rename News _ _ _ _ => N15
          have hle : vs11.length ≤ 3 := by rw [hlv, ← hns]; exact List.length_filter_le _ _
          refine len_N (n := ((vs11.length : Nat) : Int)) N15 (.tail _ (.head _)) (by rw [List.size_toArray]; omega) (by rw [List.size_toArray]) ?_
          (repeat' ((fail_if_success (with_reducible show wpAny _ _ (subscriptTail _ _ (Value.ref _) (Value.int _ _)) _ _ _)); (fail_if_success (with_reducible show wpAny _ _ (compareOp CmpOp.Eq (Value.ref _) (Value.ref _)) _ _ _)); ((fail_if_success (with_reducible first | show wpAny _ _ (exec (Stmt.For _ _ _ _ _) _) _ _ _ | show wpAny _ _ (exec (Stmt.While _ _ _ _) _) _ _ _ | show wpAny _ _ (eval (Expr.ListComp _ _ _ _) _) _ _ _ | show wpAny _ _ (eval (Expr.Dict _ _ _) _) _ _ _ | show wpAny _ _ (binaryOp _ _ (Value.str (S (List.flatten _)) _)) _ _ _ | show wpAny _ _ (exec (Stmt.Assign _ (Expr.ListComp _ _ _ _) _) _) _ _ _ | show wpAny _ _ (call (Value.ref _) _ _) _ _ _ | show wpAny _ _ (pyIter _) _ _ _ | show wpAny _ _ (call (Value.builtin "len") [Value.ref _]) _ _ _ | show wpAny _ _ (subscriptTail _ _ (Value.ref _) (Value.ref _)) _ _ _ | show wpAny _ _ (compareOp CmpOp.Lt (Value.ref _) (Value.ref _)) _ _ _ | show wpAny _ _ (setItem (Value.ref _) (Value.int _ _) _) _ _ _))); (first | (k_unfold; (try dsimp only)) | (k_end; wrow_close) | walk1 | (dsimp only; walk1) | (leave1; walk_say "STEP leave1"; try dsimp only) | fail "no step")))
          refine len_N (n := 3) N15 (.tail _ (.tail _ (.tail _ (.tail _ (.tail _ (.tail _ (hsub _ hmf))))))) (by rw [List.size_toArray]; omega) (by rw [List.size_toArray, hfl]; rfl) ?_
          (repeat' ((fail_if_success (with_reducible show wpAny _ _ (subscriptTail _ _ (Value.ref _) (Value.int _ _)) _ _ _)); (fail_if_success (with_reducible show wpAny _ _ (compareOp CmpOp.Eq (Value.ref _) (Value.ref _)) _ _ _)); ((fail_if_success (with_reducible first | show wpAny _ _ (exec (Stmt.For _ _ _ _ _) _) _ _ _ | show wpAny _ _ (exec (Stmt.While _ _ _ _) _) _ _ _ | show wpAny _ _ (eval (Expr.ListComp _ _ _ _) _) _ _ _ | show wpAny _ _ (eval (Expr.Dict _ _ _) _) _ _ _ | show wpAny _ _ (binaryOp _ _ (Value.str (S (List.flatten _)) _)) _ _ _ | show wpAny _ _ (exec (Stmt.Assign _ (Expr.ListComp _ _ _ _) _) _) _ _ _ | show wpAny _ _ (call (Value.ref _) _ _) _ _ _ | show wpAny _ _ (pyIter _) _ _ _ | show wpAny _ _ (call (Value.builtin "len") [Value.ref _]) _ _ _ | show wpAny _ _ (subscriptTail _ _ (Value.ref _) (Value.ref _)) _ _ _ | show wpAny _ _ (compareOp CmpOp.Lt (Value.ref _) (Value.ref _)) _ _ _ | show wpAny _ _ (setItem (Value.ref _) (Value.int _ _) _) _ _ _))); (first | (k_unfold; (try dsimp only)) | (k_end; wrow_close) | walk1 | (dsimp only; walk1) | (leave1; walk_say "STEP leave1"; try dsimp only) | fail "no step")))
          · rename_i D15 hh15 lD l15 hh16 F16 N16 l16
            have hlt3 : vs11.length < 3 := by omega
            have hbest : q.best ns (g H 0).2 := by
              refine Ask.inv_best hI hp ⟨hgo, ?_, ?_⟩
              · by_cases hx : ∃ n ∈ ns, takes (g H 0).2 n = true
                · exact hx
                · have : ns.filter (fun n => !takes (g H 0).2 n) = ns := List.filter_eq_self.mpr fun n hn => by
                    cases hb : takes (g H 0).2 n with
                    | true => exact absurd ⟨n, hn, hb⟩ hx
                    | false => rfl
                  rw [this] at hlv; omega
              · obtain ⟨n, hn⟩ := List.exists_mem_of_ne_nil _ hnil
                obtain ⟨h1, h2⟩ := List.mem_filter.mp hn
                exact ⟨n, h1, by simpa using h2⟩
            exact ⟨g11, _, _, _, T1.trans T11, F16, pick4 N16 hsub, fun h₁ B₁ T₁ F N => hret _ _ _ _ _ B₁ T₁ F N ⟨ps7, hps7, .inr ⟨_, _, g H 0, _, _, _, _, _, _, _, rfl, rfl, hbest, hgE, hv11⟩⟩⟩
          · have hge3 : 3 ≤ vs11.length := by omega
            have hno : ∀ n ∈ ns, takes (g H 0).2 n = false := fun n hn => by
              have e : (ns.filter (fun n => !takes (g H 0).2 n)).length = ns.length := by omega
              have := List.length_filter_eq_length_iff.mp e n hn
              simpa using this
            exact ⟨wgt (hrest H), wgt_drop hI.hp hp, g11, _, _, _, _, rfl, B11, T1.trans T11, F15, drop3 N15, ⟨vs5, k5, hrest H, ps7, o8, _, more, rfl, hps7, d8, ents_strip hE5 hoc, Ask.inv_drop hI hp hno, rfl, by have := wgt_drop hI.hp hp; omega, hsub, hoff, m1, m2, m3, m4⟩⟩
  case fin =>
    rintro g1 h₁ tk₁ m₂ news₂ B1 T1 F3 N3 ⟨ps, oc, more, k, rfl, hps, hsub, hno⟩
    clear F1 N1 N2
    (repeat' ((fail_if_success (with_reducible show wpAny _ _ (subscriptTail _ _ (Value.ref _) (Value.int _ _)) _ _ _)); ((fail_if_success (with_reducible first | show wpAny _ _ (exec (Stmt.For _ _ _ _ _) _) _ _ _ | show wpAny _ _ (exec (Stmt.While _ _ _ _) _) _ _ _ | show wpAny _ _ (eval (Expr.ListComp _ _ _ _) _) _ _ _ | show wpAny _ _ (eval (Expr.Dict _ _ _) _) _ _ _ | show wpAny _ _ (binaryOp _ _ (Value.str (S (List.flatten _)) _)) _ _ _ | show wpAny _ _ (exec (Stmt.Assign _ (Expr.ListComp _ _ _ _) _) _) _ _ _ | show wpAny _ _ (call (Value.ref _) _ _) _ _ _ | show wpAny _ _ (pyIter _) _ _ _ | show wpAny _ _ (call (Value.builtin "len") [Value.ref _]) _ _ _ | show wpAny _ _ (subscriptTail _ _ (Value.ref _) (Value.ref _)) _ _ _ | show wpAny _ _ (compareOp CmpOp.Lt (Value.ref _) (Value.ref _)) _ _ _ | show wpAny _ _ (setItem (Value.ref _) (Value.int _ _) _) _ _ _))); (first | (k_unfold; (try dsimp only)) | (k_end; wrow_close) | walk1 | (dsimp only; walk1) | (leave1; walk_say "STEP leave1"; try dsimp only) | fail "no step")))
    rename Fr _ _ _ _ => F4
    rename News _ _ _ _ => N4
    exact ⟨g1, _, _, _, T1, F4, drop5 N4 hsub, fun h₁ B₁ T₁ F N => hret _ _ _ _ _ B₁ T₁ F N ⟨ps, hps, .inl ⟨_, _, rfl, rfl, hno⟩⟩⟩

end
section
/-- what the other reckoning gives -/
def LeastIs (e : Option Ent) (news : Led) (r : Value) (news' : Led) : Prop :=
  ∃ l k, r = .ref l ∧ match e with
    | none => news' = (l, listOf #[] k) :: news
    | some e => ∃ t tu u n, news' = (l, listOf #[.ref t] k) :: (t, { cls := .type "tuple", data := .seq #[.int (e.1 : Int) tu, .str (S e.2) u] n }) :: news
def tupO (e : Ent) (tu u : Tok) (n : Nat) : Obj := { cls := .type "tuple", data := .seq #[.int (e.1 : Int) tu, .str (S e.2) u] n }
def TupsAre (led : Led) (vs : List Value) (es : List Ent) : Prop := vs.length = es.length ∧ ∀ i v, vs[i]? = some v → ∃ t tu u n, v = .ref t ∧ (t, tupO (g es i) tu u n) ∈ led
def wayOf (q : Ask) (n : Nat) (ends : List (List Nat)) (c : Nat) : Option Ent := Ask.way c (q.price c) ends (q.leastF n (behind ends c))
def waysOf (q : Ask) (n : Nat) (ends : List (List Nat)) (i : Nat) : List Ent := (([q.x0, q.x1].take i).map fun c => (wayOf q n ends c).toList).flatten
def LeJ (q : Ask) (n : Nat) (ends : List (List Nat)) (le lw lp Lc : Addr) (tp : Tok) (news : Led) (I : Addr) (i : Nat) (m : Str → Option Value) (led : Led) : Prop :=
  ∃ vs k oP oS vP vS more, led = (lw, listOf (List.toArray vs) k) :: (Lc + 1, oP) :: (Lc, oS) :: more ∧ oP.data = .cell vP ∧ oS.data = .cell vS ∧ TupsAre more vs (waysOf q n ends i) ∧ (∀ p ∈ news, p ∈ more) ∧ (∀ p ∈ more, p.1 ≠ lw ∧ p.1 ≠ Lc ∧ p.1 ≠ Lc + 1 ∧ (@LT.lt Nat _ p.1 I ∨ @LT.lt Nat _ (I + 4) p.1)) ∧ @LT.lt Nat _ lw I ∧
    m "ends" = some (.ref le) ∧ m "pair" = some (.str (S [q.x0, q.x1]) tp) ∧ m "prices" = some (.ref lp) ∧ m "ways" = some (.ref lw)
theorem ints_put {vs : List Value} {ns : List Int} {t : Tok} (h : IntsAre vs ns) (x : Int) : IntsAre (vs ++ [.int x t]) (ns ++ [x]) := by
  induction h with
  | nil => exact .cons x t .nil
  | cons n t _ ih => exact .cons n t ih
theorem hnw3 {c lw : Addr} {a b : Obj} {more : Led} (h1 : @LT.lt Nat _ c lw) (h2 : @LT.lt Nat _ (c + 1) lw) (h : ∀ p ∈ more, p.1 ≠ lw) : ∀ p ∈ (c + 1, a) :: (c, b) :: more, p.1 ≠ lw := fun p hp => by
  rcases List.mem_cons.mp hp with rfl | hp
  · exact Nat.ne_of_lt h2
  · rcases List.mem_cons.mp hp with rfl | hp
    · exact Nat.ne_of_lt h1
    · exact h p hp
theorem off3 {I c lw : Addr} {o a b : Obj} {more : Led} (h0 : @LT.lt Nat _ lw I) (h1 : @LT.lt Nat _ c I) (h2 : @LT.lt Nat _ (c + 1) I) (h : ∀ p ∈ more, @LT.lt Nat _ p.1 I ∨ @LT.lt Nat _ (I + 4) p.1) : ∀ p ∈ (lw, o) :: (c + 1, a) :: (c, b) :: more, @LT.lt Nat _ p.1 I ∨ @LT.lt Nat _ (I + 4) p.1 := fun p hp => by
  rcases List.mem_cons.mp hp with rfl | hp
  · exact .inl h0
  · rcases List.mem_cons.mp hp with rfl | hp
    · exact .inl h2
    · rcases List.mem_cons.mp hp with rfl | hp
      · exact .inl h1
      · exact h p hp
theorem off_D {I D lw c : Addr} {o : Obj} {more : Led} (hD : @LT.lt Nat _ (I + 4) D) (h : ∀ p ∈ more, p.1 ≠ lw ∧ p.1 ≠ c ∧ p.1 ≠ c + 1 ∧ (@LT.lt Nat _ p.1 I ∨ @LT.lt Nat _ (I + 4) p.1)) : ∀ p ∈ (D, o) :: more, @LT.lt Nat _ p.1 I ∨ @LT.lt Nat _ (I + 4) p.1 := fun p hp => by
  rcases List.mem_cons.mp hp with rfl | hp
  · exact .inr hD
  · exact (h p hp).2.2.2
theorem off_E {I D lw c : Addr} {o : Obj} {more : Led} (hD : @LT.lt Nat _ (I + 4) D) (h0 : @LT.lt Nat _ lw I) (h1 : @LT.lt Nat _ c lw) (h2 : @LT.lt Nat _ (c + 1) lw) (h : ∀ p ∈ more, p.1 ≠ lw ∧ p.1 ≠ c ∧ p.1 ≠ c + 1 ∧ (@LT.lt Nat _ p.1 I ∨ @LT.lt Nat _ (I + 4) p.1)) : ∀ p ∈ (D, o) :: more, p.1 ≠ lw ∧ p.1 ≠ c ∧ p.1 ≠ c + 1 ∧ (@LT.lt Nat _ p.1 I ∨ @LT.lt Nat _ (I + 4) p.1) := fun p hp => by
  rcases List.mem_cons.mp hp with rfl | hp
  · have hl := Nat.lt_trans (Nat.lt_of_lt_of_le h0 (Nat.le_add_right I 4)) hD
    exact ⟨Nat.ne_of_gt hl, Nat.ne_of_gt (Nat.lt_trans h1 hl), Nat.ne_of_gt (Nat.lt_trans h2 hl), .inr hD⟩
  · exact h p hp
theorem rotB {h₀ h : Heap} {L : Addr} {d e a b c x y l m n : Addr × Obj} {more : Led} (N : News h₀ L h (d :: e :: a :: b :: c :: x :: y :: l :: m :: n :: more)) : News h₀ L h (l :: d :: a :: b :: c :: x :: y :: m :: n :: more) := cb_drop N (by ((repeat' (first | exact List.forall_mem_nil _ | refine List.forall_mem_cons.mpr (And.intro ?_ ?_) | assumption | exact List.Mem.head _ | refine List.Mem.tail _ ?_ | (intro p hp; repeat' (first | exact hp | refine List.Mem.tail _ ?_))))))
theorem rotC {h₀ h : Heap} {L : Addr} {d a b c x y l m n : Addr × Obj} {more : Led} (N : News h₀ L h (l :: d :: a :: b :: c :: x :: y :: m :: n :: more)) : News h₀ L h ([a, b, c, x, y] ++ (l :: m :: n :: d :: more)) := cb_drop N (by ((repeat' (first | exact List.forall_mem_nil _ | refine List.forall_mem_cons.mpr (And.intro ?_ ?_) | assumption | exact List.Mem.head _ | refine List.Mem.tail _ ?_ | (intro p hp; repeat' (first | exact hp | refine List.Mem.tail _ ?_))))))
theorem hne8 {I lh D : Addr} {o z1 z2 z3 z4 z5 : Obj} {more : Led} (hIl : @LT.lt Nat _ lh I) (hD : @LT.lt Nat _ (I + 4) D) (hm : ∀ p ∈ more, p.1 ≠ lh) :
    ∀ p ∈ (D, o) :: (I + 4, z1) :: (I + 2, z2) :: (I + 3, z3) :: (I, z4) :: (I + 1, z5) :: more, p.1 ≠ lh := fun p hp => by
  simp only [List.mem_cons] at hp
  rcases hp with rfl | rfl | rfl | rfl | rfl | rfl | hp
  · exact Nat.ne_of_gt (Nat.lt_trans (Nat.lt_of_lt_of_le hIl (Nat.le_add_right I 4)) hD)
  · exact Nat.ne_of_gt (Nat.lt_of_lt_of_le hIl (Nat.le_add_right I 4))
  · exact Nat.ne_of_gt (Nat.lt_of_lt_of_le hIl (Nat.le_add_right I 2))
  · exact Nat.ne_of_gt (Nat.lt_of_lt_of_le hIl (Nat.le_add_right I 3))
  · exact Nat.ne_of_gt hIl
  · exact Nat.ne_of_gt (Nat.lt_of_lt_of_le hIl (Nat.le_add_right I 1))
  · exact hm p hp
theorem hne9 {I lh D : Addr} {o z1 z2 z3 z4 z5 : Obj} {more : Led} (hIl : @LT.lt Nat _ lh I) (hD : D ≠ lh) (hm : ∀ p ∈ more, p.1 ≠ lh) :
    ∀ p ∈ (D, o) :: (I + 4, z1) :: (I + 2, z2) :: (I + 3, z3) :: (I, z4) :: (I + 1, z5) :: more, p.1 ≠ lh := fun p hp => by
  simp only [List.mem_cons] at hp
  rcases hp with rfl | rfl | rfl | rfl | rfl | rfl | hp
  · exact hD
  · exact Nat.ne_of_gt (Nat.lt_of_lt_of_le hIl (Nat.le_add_right I 4))
  · exact Nat.ne_of_gt (Nat.lt_of_lt_of_le hIl (Nat.le_add_right I 2))
  · exact Nat.ne_of_gt (Nat.lt_of_lt_of_le hIl (Nat.le_add_right I 3))
  · exact Nat.ne_of_gt hIl
  · exact Nat.ne_of_gt (Nat.lt_of_lt_of_le hIl (Nat.le_add_right I 1))
  · exact hm p hp
theorem rotN {h₀ h : Heap} {L : Addr} {d2 d3 d4 d a b c x y l m n : Addr × Obj} {more : Led} (N : News h₀ L h (d :: d2 :: d3 :: d4 :: a :: b :: c :: x :: y :: l :: m :: n :: more)) : News h₀ L h (l :: d :: a :: b :: c :: x :: y :: m :: n :: more) := cb_drop N (by ((repeat' (first | exact List.forall_mem_nil _ | refine List.forall_mem_cons.mpr (And.intro ?_ ?_) | assumption | exact List.Mem.head _ | refine List.Mem.tail _ ?_ | (intro p hp; repeat' (first | exact hp | refine List.Mem.tail _ ?_))))))
theorem rotD {h₀ h : Heap} {L : Addr} {d a b c x y l m n : Addr × Obj} {more : Led} (N : News h₀ L h (l :: d :: a :: b :: c :: x :: y :: m :: n :: more)) : News h₀ L h ([a, b, c, x, y] ++ (l :: m :: n :: more)) := cb_drop N (by ((repeat' (first | exact List.forall_mem_nil _ | refine List.forall_mem_cons.mpr (And.intro ?_ ?_) | assumption | exact List.Mem.head _ | refine List.Mem.tail _ ?_ | (intro p hp; repeat' (first | exact hp | refine List.Mem.tail _ ?_))))))
theorem hne10 {I lh D D2 : Addr} {o o2 z1 z2 z3 z4 z5 : Obj} {more : Led} (hD2 : D2 ≠ lh) (hIl : @LT.lt Nat _ lh I) (hD : D ≠ lh) (hm : ∀ p ∈ more, p.1 ≠ lh) :
    ∀ p ∈ (D2, o2) :: (D, o) :: (I + 4, z1) :: (I + 2, z2) :: (I + 3, z3) :: (I, z4) :: (I + 1, z5) :: more, p.1 ≠ lh := fun p hp => by
  rcases List.mem_cons.mp hp with rfl | hp
  · exact hD2
  · exact hne9 hIl hD hm p hp
theorem rotX {h₀ h : Heap} {L : Addr} {e d d2 d3 d4 d5 a b c x y l m n : Addr × Obj} {more : Led} (N : News h₀ L h (e :: d :: d2 :: d3 :: d4 :: d5 :: a :: b :: c :: x :: y :: l :: m :: n :: more)) : News h₀ L h (l :: e :: d :: a :: b :: c :: x :: y :: m :: n :: more) := cb_drop N (by ((repeat' (first | exact List.forall_mem_nil _ | refine List.forall_mem_cons.mpr (And.intro ?_ ?_) | assumption | exact List.Mem.head _ | refine List.Mem.tail _ ?_ | (intro p hp; repeat' (first | exact hp | refine List.Mem.tail _ ?_))))))
theorem rotE {h₀ h : Heap} {L : Addr} {e d a b c x y l m n : Addr × Obj} {more : Led} (N : News h₀ L h (l :: e :: d :: a :: b :: c :: x :: y :: m :: n :: more)) : News h₀ L h ([a, b, c, x, y] ++ (l :: m :: n :: d :: more)) := cb_drop N (by ((repeat' (first | exact List.forall_mem_nil _ | refine List.forall_mem_cons.mpr (And.intro ?_ ?_) | assumption | exact List.Mem.head _ | refine List.Mem.tail _ ?_ | (intro p hp; repeat' (first | exact hp | refine List.Mem.tail _ ?_))))))
theorem sub4 {a b c d : Addr × Obj} {more : Led} : ∀ p ∈ a :: b :: c :: d :: more, p ∈ d :: a :: b :: c :: more := by intro p hp; simp only [List.mem_cons] at hp ⊢; grind
theorem tup_mk (a b c : Nat) (w : List Nat) (t u : Tok) (n : Nat) : ({ cls := .type "tuple", data := .seq #[.int ((a : Int) + (b : Int)) t, .str (S ([c] ++ w)) u] n } : Obj) = tupO (a + b, c :: w) t u n := by
  show _ = ({ cls := .type "tuple", data := .seq #[.int ((a + b : Nat) : Int) t, .str (S (c :: w)) u] n } : Obj)
  rw [Int.natCast_add]; rfl
theorem not_long {a : Array Value} {k : Nat} (h : k ≤ 1000) : ¬(!a.isEmpty && Builtin.List.listTooLong k) = true := by
  have e : Builtin.List.listTooLong k = false := by unfold Builtin.List.listTooLong; rw [decide_eq_false_iff_not, sizeLine_eq]; omega
  rw [e, Bool.and_false]; decide
theorem tups_put {led : Led} {vs : List Value} {es : List Ent} (h : TupsAre led vs es) (D : Addr) (e : Ent) (tu u : Tok) (n : Nat) : TupsAre ((D, tupO e tu u n) :: led) (vs ++ [.ref D]) (es ++ [e]) := by
  refine ⟨by rw [List.length_append, List.length_append, h.1]; rfl, fun i v hv => ?_⟩
  rcases Nat.lt_or_ge i vs.length with hi | hi
  · rw [List.getElem?_append_left hi] at hv
    obtain ⟨t, a, b, n, e1, e2⟩ := h.2 i v hv
    have : g (es ++ [e]) i = g es i := by
      unfold g
      rw [List.getD_eq_getElem?_getD, List.getD_eq_getElem?_getD, List.getElem?_append_left (by rw [← h.1]; exact hi)]
    exact ⟨t, a, b, n, e1, .tail _ (by rw [this]; exact e2)⟩
  · rw [List.getElem?_append_right hi] at hv
    have hi0 : i - vs.length = 0 := by
      rcases Nat.eq_zero_or_pos (i - vs.length) with h | h
      · exact h
      · rw [List.getElem?_eq_none (by simp; omega)] at hv; cases hv
    rw [hi0] at hv
    cases hv
    have hie : i = es.length := by rw [← h.1]; omega
    have : g (es ++ [e]) i = e := by
      unfold g
      rw [List.getD_eq_getElem?_getD, hie]
      simp
    exact ⟨D, tu, u, n, rfl, by rw [this]; exact .head _⟩
theorem find_ge (e : List Nat) (c : Nat) : (after c e).isSome = true ↔ 0 ≤ Txt.find3 (S e) ⟨#[c]⟩ 0 := by
  rcases find_after e c 0 with ⟨h1, h2⟩ | ⟨k, h1, _, _, h2⟩
  · rw [List.drop_zero] at h2
    rw [h2, show Txt.find3 (S e) ⟨#[c]⟩ 0 = -1 from h1]
    simp
  · rw [List.drop_zero] at h2
    rw [h2, show Txt.find3 (S e) ⟨#[c]⟩ 0 = (k : Int) from h1]
    simp
theorem min_ge {ends : List (List Nat)} {c : Nat} {M : Int} (h : M ∈ ends.map (fun e => Txt.find3 (S e) ⟨#[c]⟩ 0)) (hx : hasAll ends c = true) : 0 ≤ M := by
  obtain ⟨e, he, rfl⟩ := List.mem_map.mp h
  exact (find_ge e c).mp (List.all_eq_true.mp hx e he)
theorem all_of_min {ends : List (List Nat)} {c : Nat} {M : Int} (h : ∀ a ∈ ends.map (fun e => Txt.find3 (S e) ⟨#[c]⟩ 0), M ≤ a) (h0 : 0 ≤ M) : hasAll ends c = true :=
  List.all_eq_true.mpr fun e he => (find_ge e c).mpr (Int.le_trans h0 (h _ (List.mem_map.mpr ⟨e, he, rfl⟩)))
theorem max_ge {ends : List (List Nat)} {c : Nat} {M : Int} (h : M ∈ ends.map (fun e => Txt.find3 (S e) ⟨#[c]⟩ 0)) (h0 : 0 ≤ M) : hasAny ends c = true := by
  obtain ⟨e, he, rfl⟩ := List.mem_map.mp h
  exact List.any_eq_true.mpr ⟨e, he, (find_ge e c).mpr h0⟩
theorem max_le {ends : List (List Nat)} {c : Nat} {M : Int} (h : ∀ a ∈ ends.map (fun e => Txt.find3 (S e) ⟨#[c]⟩ 0), a ≤ M) (hx : hasAny ends c = true) : 0 ≤ M := by
  obtain ⟨e, he, h1⟩ := List.any_eq_true.mp hx
  exact Int.le_trans ((find_ge e c).mp h1) (h _ (List.mem_map.mpr ⟨e, he, rfl⟩))
theorem ways_two (q : Ask) (n : Nat) (ends : List (List Nat)) : waysOf q n ends 2 = (wayOf q n ends q.x0).toList ++ (wayOf q n ends q.x1).toList := by simp [waysOf]
theorem least_two (q : Ask) (n : Nat) (ends : List (List Nat)) : q.leastF (n + 1) ends = emin (wayOf q n ends q.x0) (wayOf q n ends q.x1) := by
  show emin _ _ = _
  unfold wayOf
  rw [q.price0, q.price1]
/-- what stands in the list: the cheapest first -/
def FirstIs (more : Led) (e : Option Ent) (vs : List Value) : Prop := match e with
  | none => vs = []
  | some e => ∃ t tu u n r, vs = .ref t :: r ∧ r.length ≤ 1 ∧ (t, tupO e tu u n) ∈ more
theorem tups_at {more : Led} {vs : List Value} {es : List Ent} (h : TupsAre more vs es) {i : Nat} (hi : i < es.length) : ∃ t tu u n, vs[i]? = some (.ref t) ∧ (t, tupO (g es i) tu u n) ∈ more := by
  have hv : i < vs.length := by rw [h.1]; exact hi
  obtain ⟨t, tu, u, n, e, hm⟩ := h.2 i _ (List.getElem?_eq_getElem hv)
  exact ⟨t, tu, u, n, by rw [List.getElem?_eq_getElem hv, e], hm⟩
theorem len_two {α : Type} : ∀ {l : List α}, l.length = 2 → ∃ a b, l = [a, b]
  | [a, b], _ => ⟨a, b, rfl⟩
theorem dropTo1 {h₀ h : Heap} {L : Addr} {a b c d e : Addr × Obj} {more news : Led} (N : News h₀ L h (a :: b :: c :: d :: e :: more)) (hs : ∀ p ∈ news, p ∈ more) : News h₀ L h (a :: news) := cb_drop N (by intro p hp; simp only [List.mem_cons] at hp ⊢; grind)
theorem dropTo2 {h₀ h : Heap} {L : Addr} {a b c d e x : Addr × Obj} {more news : Led} (N : News h₀ L h (a :: b :: c :: d :: e :: more)) (hs : ∀ p ∈ news, p ∈ more) (hx : x ∈ more) : News h₀ L h (a :: x :: news) := cb_drop N (by intro p hp; simp only [List.mem_cons] at hp ⊢; grind)
theorem pick_first (t : Value) (r : List Value) (h : r.length ≤ 1) : (slicePick (List.toArray (t :: r)) none (some 1) none).toList = [t] := by
  cases r with
  | nil => rfl
  | cons a r =>
    cases r with
    | nil => rfl
    | cons b r => exact absurd h (by simp)
theorem ent_tup (e : Ent) (tu u : Tok) (n : Nat) : EntO e (tupO e tu u n) := ⟨rfl, tu, u, n, rfl⟩
section
variable {prog : Program} {w : World} {A : Around} {E : Value → Shared → Prop} {s : Shared} {h₀ : Heap} {L : Addr} {m : Str → Option Value}
theorem sorted_ways {lw : Addr} {vs : List Value} {k : Nat} {led more : Led} {a b : Option Ent} {Q : Value → Shared → Prop} (F : Fr h₀ L s.heap m) (N : News h₀ L s.heap led) (hlw : (lw, listOf (List.toArray vs) k) ∈ led) (hmore : ∀ p ∈ more, p ∈ led) (hT : TupsAre more vs (a.toList ++ b.toList))
    (h : ∀ D c h' vs', FirstIs more (emin a b) vs' → Fr h₀ L h' m → News h₀ L h' ((D, listOf (List.toArray vs') c) :: led) → (∀ q ∈ led, @LT.lt Nat _ q.1 D) → Q (.ref D) { s with heap := h' }) :
    wpAny (model prog w) A (call (.builtin "sorted") [.ref lw]) Q E s := by
  have hl : s.heap.IsList lw vs.toArray := isList_of N hlw
  have hlen := hT.1
  cases a with
  | none =>
    cases b with
    | none =>
      obtain rfl : vs = [] := List.length_eq_zero_iff.mp hlen
      exact sorted_few F N hl (by decide) fun D c h' F' N' hD => h D c h' [] rfl F' N' hD
    | some b =>
      obtain ⟨t, tu, u, n, ht, hm⟩ := tups_at hT (i := 0) (by simp)
      obtain ⟨v, rfl⟩ := List.length_eq_one_iff.mp hlen
      cases ht
      exact sorted_few F N hl (by simp) fun D c h' F' N' hD => h D c h' [.ref t] ⟨t, tu, u, n, [], rfl, Nat.zero_le _, hm⟩ F' N' hD
  | some a =>
    cases b with
    | none =>
      obtain ⟨t, tu, u, n, ht, hm⟩ := tups_at hT (i := 0) (by simp)
      obtain ⟨v, rfl⟩ := List.length_eq_one_iff.mp hlen
      cases ht
      exact sorted_few F N hl (by simp) fun D c h' F' N' hD => h D c h' [.ref t] ⟨t, tu, u, n, [], rfl, Nat.zero_le _, hm⟩ F' N' hD
    | some b =>
      obtain ⟨t, tu, u, n, ht, hm⟩ := tups_at hT (i := 0) (by simp)
      obtain ⟨t2, tu2, u2, n2, ht2, hm2⟩ := tups_at hT (i := 1) (by simp)
      obtain ⟨v, v2, rfl⟩ := len_two hlen
      cases ht; cases ht2
      refine sorted_two F N hl (hmore _ hm) (ent_tup a tu u n) (hmore _ hm2) (ent_tup b tu2 u2 n2) fun D c h' F' N' hD => h D c h' _ ?_ F' N' hD
      show FirstIs more (if elt b a then some b else some a) _
      cases hb : elt b a with
      | true =>
        rw [if_pos rfl, if_pos rfl]
        exact ⟨t2, tu2, u2, n2, _, rfl, Nat.le_refl _, hm2⟩
      | false =>
        rw [if_neg (by decide), if_neg (by decide)]
        exact ⟨t, tu, u, n, _, rfl, Nat.le_refl _, hm⟩
end
theorem ints_item {vs : List Value} {ys : List Int} (h : IntsAre vs ys) : ∀ (i : Nat) (v : Value), vs[i]? = some v → ∃ y t, v = .int y t ∧ ys[i]? = some y := by
  induction h with
  | nil => intro i v e; simp at e
  | cons m t _ ih =>
    intro i v e
    cases i with
    | zero => cases e; exact ⟨m, t, rfl, rfl⟩
    | succ i => exact ih i v e
theorem ints_len {vs : List Value} {ys : List Int} (h : IntsAre vs ys) : vs.length = ys.length := by
  induction h with
  | nil => rfl
  | cons n t _ ih => simp [ih]
theorem place_of {ends : List (List Nat)} {c j : Nat} {e : List Nat} (hall : hasAll ends c = true) (he : ends[j]? = some e) : ∃ k : Nat, Txt.find3 (S e) ⟨#[c]⟩ 0 = (k : Int) ∧ k < e.length ∧ (behind ends c).getD j [] = e.drop (k + 1) := by
  have h1 := List.all_eq_true.mp hall e (List.mem_of_getElem? he)
  rcases find_after e c 0 with ⟨_, h2⟩ | ⟨k, h2, _, h3, h4⟩
  · rw [List.drop_zero] at h2
    rw [h2] at h1; simp at h1
  · rw [List.drop_zero] at h4
    refine ⟨k, h2, h3, ?_⟩
    unfold behind
    rw [List.getD_eq_getElem?_getD, List.getElem?_map, he]
    simp [h4]
theorem behind_len {ends : List (List Nat)} {c n : Nat} (hall : hasAll ends c = true) (hl : ∀ e ∈ ends, e.length < n + 1) : ∀ e ∈ behind ends c, e.length < n := fun e he => by
  unfold behind at he
  obtain ⟨x, hx, rfl⟩ := List.mem_map.mp he
  have h1 := List.all_eq_true.mp hall x hx
  have h2 := hl x hx
  cases q : after c x with
  | none => rw [q] at h1; simp at h1
  | some t => have := after_len q; show t.length < n; omega
theorem strs_by : ∀ {zs : List Value} {ws : List (List Nat)}, zs.length = ws.length → (∀ (i : Nat) (z : Value), zs[i]? = some z → ∃ t, z = Value.str (S (ws.getD i [])) t) → StrsAre zs (ws.map S)
  | [], [], _, _ => .nil
  | [], _ :: _, h, _ => by simp at h
  | _ :: _, [], h, _ => by simp at h
  | z :: zs, a :: ws, h, hr => by
    obtain ⟨t, e⟩ := hr 0 z rfl
    subst e
    exact .cons _ t (strs_by (by simpa using h) fun i z' hi => by
      have := hr (i + 1) z' (by simpa using hi)
      simpa using this)
theorem least_ctr (w loose mean mg mb) (q : Ask) (hs : SixOk [q.x0, q.x1]) (lp : Addr) (kp : Nat) (tp u0 u1 : Tok) : ∀ (n : Nat) (ends : List (List Nat)) (fs : List Value) (le : Addr) (kf : Nat) (news : Led), n ≤ 5 → ends.length = 3 → (∀ e ∈ ends, e.length < n) → StrsAre fs (ends.map S) → (le, listOf (List.toArray fs) kf) ∈ news → (lp, listOf #[.int (q.p0 : Int) u0, .int (q.p1 : Int) u1] kp) ∈ news →
    Ctr w loose mean mg mb 149 (4 * n + 20) [.ref le, .str (S [q.x0, q.x1]) tp, .ref lp] news (LeastIs (q.leastF n ends) news) := by
  intro n
  induction n with
  | zero =>
    intro ends fs le kf news _ h3 hl
    cases ends with
    | nil => cases h3
    | cons e r => exact absurd (hl e (.head _)) (Nat.not_lt_zero _)
  | succ n ih =>
    intro ends fs le kf news hn h3 hl hf hme hmp
    have h128 : ∀ c, c = q.x0 ∨ c = q.x1 → c < 128 := fun c hc => by
      have h6 : c = 42 ∨ c = 97 ∨ c = 91 ∨ c = 63 ∨ c = 45 ∨ c = 33 := hs c (by rcases hc with rfl | rfl <;> simp)
      omega
    unfold Ctr; k_fill; intro dp un gd cn cs a ccd cl outer A₀ base h₀ L m s Q E B F X N T hk hC hd hu hret
    (refine wpAny_call ?_; k_dflt (refine' code_defC ?k1 ?k2 ?k3 ?k4 ?k5 ?kA ?kF ?kK ?k6 ?k7 ?k8 ?k9 ?kB ?kD ?_ ?c2 ?c3 ?c4; (case kA => exact rfl); (case kF => exact rfl); (case kK => assumption); (case k1 => k_asm); (case k2 => k_asm); (case k3 => k_asm); (case k4 => k_asm); (case k5 => k_asm); (case k6 => k_is); (case k7 => k_is); (case k8 => ktr_room); (case k9 => exact BindsTo.of_eq rfl); (case kB => exact rfl); (case kD => decide +kernel); (case c2 => exact rfl); (case c3 => exact rfl); (case c4 => exact rfl); k_whole)); intro g' L' h' tk' cells' FG' F' N' Y' B' X' T' hlt; have hlt0 := hlt; (try k_lt hlt)
    have hY := CellsAre.two Y'; obtain ⟨o', o2', hE', d1', d2'⟩ := hY; subst hE'; clear Y'; (try simp only [List.cons_append, List.nil_append] at N'); (try dsimp only); (try k_fold)
    (repeat' ((fail_if_success (with_reducible show wpAny _ _ (subscriptTail _ _ (Value.ref _) (Value.int _ _)) _ _ _)); ((fail_if_success (with_reducible first | show wpAny _ _ (exec (Stmt.For _ _ _ _ _) _) _ _ _ | show wpAny _ _ (exec (Stmt.While _ _ _ _) _) _ _ _ | show wpAny _ _ (eval (Expr.ListComp _ _ _ _) _) _ _ _ | show wpAny _ _ (eval (Expr.Dict _ _ _) _) _ _ _ | show wpAny _ _ (binaryOp _ _ (Value.str (S (List.flatten _)) _)) _ _ _ | show wpAny _ _ (exec (Stmt.Assign _ (Expr.ListComp _ _ _ _) _) _) _ _ _ | show wpAny _ _ (call (Value.ref _) _ _) _ _ _ | show wpAny _ _ (pyIter _) _ _ _ | show wpAny _ _ (call (Value.builtin "len") [Value.ref _]) _ _ _ | show wpAny _ _ (subscriptTail _ _ (Value.ref _) (Value.ref _)) _ _ _ | show wpAny _ _ (compareOp CmpOp.Lt (Value.ref _) (Value.ref _)) _ _ _ | show wpAny _ _ (setItem (Value.ref _) (Value.int _ _) _) _ _ _))); (first | (k_unfold; (try dsimp only)) | (k_end; wrow_close) | walk1 | (dsimp only; walk1) | (leave1; walk_say "STEP leave1"; try dsimp only) | fail "no step")))
    rename_i lw hh1 l1 hh2 F1 N1
    refine For_turns F1 ?_ (hs := by intro _; rfl) (hE := ?pe3)
    case pe3 => first | passes_own | with_unfolding_all passes_own
    ((repeat' (((fail_if_success (with_reducible first | show wpAny _ _ (exec (Stmt.For _ _ _ _ _) _) _ _ _ | show wpAny _ _ (exec (Stmt.While _ _ _ _) _) _ _ _ | show wpAny _ _ (eval (Expr.ListComp _ _ _ _) _) _ _ _ | show wpAny _ _ (eval (Expr.Dict _ _ _) _) _ _ _ | show wpAny _ _ (binaryOp _ _ (Value.str (S (List.flatten _)) _)) _ _ _ | show wpAny _ _ (exec (Stmt.Assign _ (Expr.ListComp _ _ _ _) _) _) _ _ _ | show wpAny _ _ (call (Value.ref _) _ _) _ _ _ | show wpAny _ _ (pyIter _) _ _ _ | show wpAny _ _ (call (Value.builtin "len") [Value.ref _]) _ _ _ | show wpAny _ _ (subscriptTail _ _ (Value.ref _) (Value.ref _)) _ _ _ | show wpAny _ _ (compareOp CmpOp.Lt (Value.ref _) (Value.ref _)) _ _ _ | show wpAny _ _ (setItem (Value.ref _) (Value.int _ _) _) _ _ _))); (first | (k_unfold; (try dsimp only)) | (k_end; wrow_close) | walk1 | (dsimp only; walk1) | (leave1; walk_say "STEP leave1"; try dsimp only) | fail "no step"))))
    have lA := Heap.lt_size (N1 _ (.head _)).1
    have hcc : @LT.lt Nat _ (L' + 1) (L' + 1 + 1) := Nat.lt_succ_self _
    have hwc2 : @LT.lt Nat _ (L' + 1 + 1) lw := l1.1
    have hwc1 : @LT.lt Nat _ (L' + 1) lw := l1.2.1
    have hnw : AllLt lw news := l1.2.2
    have hfl : fs.length = 3 := by rw [hf.len_eq, List.length_map, h3]
    refine ktu_zipJ (LeJ q n ends le lw lp (L' + 1) tp news) rfl F1 N1 (h128 _ (.inl rfl)) (h128 _ (.inr rfl)) (.tail _ (.tail _ (.tail _ hmp))) rfl rfl ?h0 ?turn ?fin
    case h0 =>
      intro I hIz
      refine ⟨[], 0, o', o2', _, _, news, rfl, d1', d2', ⟨rfl, fun i v hv => by simp at hv⟩, fun p hp => hp, fun p hp => ⟨Nat.ne_of_lt (ktn_ltOf hnw p hp), Nat.ne_of_lt (Nat.lt_succ_of_lt (hlt0 p hp)), Nat.ne_of_lt (Nat.lt_succ_of_lt (Nat.lt_succ_of_lt (hlt0 p hp))), .inl (hIz p (.tail _ (.tail _ (.tail _ hp))))⟩, hIz _ (.head _), rfl, rfl, rfl, rfl⟩
    case fin =>
      rintro I h40 tk40 m40 news40 ⟨vs, k, oP, oS, vP, vS, more, rfl, hoP, hoS, hT, hsub, hoff, hIl, m1, m2, m3, m4⟩ F40 N40
      clear F1 N1
      ((repeat' (((fail_if_success (with_reducible first | show wpAny _ _ (exec (Stmt.For _ _ _ _ _) _) _ _ _ | show wpAny _ _ (exec (Stmt.While _ _ _ _) _) _ _ _ | show wpAny _ _ (eval (Expr.ListComp _ _ _ _) _) _ _ _ | show wpAny _ _ (eval (Expr.Dict _ _ _) _) _ _ _ | show wpAny _ _ (binaryOp _ _ (Value.str (S (List.flatten _)) _)) _ _ _ | show wpAny _ _ (exec (Stmt.Assign _ (Expr.ListComp _ _ _ _) _) _) _ _ _ | show wpAny _ _ (call (Value.ref _) _ _) _ _ _ | show wpAny _ _ (pyIter _) _ _ _ | show wpAny _ _ (call (Value.builtin "len") [Value.ref _]) _ _ _ | show wpAny _ _ (subscriptTail _ _ (Value.ref _) (Value.ref _)) _ _ _ | show wpAny _ _ (compareOp CmpOp.Lt (Value.ref _) (Value.ref _)) _ _ _ | show wpAny _ _ (setItem (Value.ref _) (Value.int _ _) _) _ _ _))); (first | (k_unfold; (try dsimp only)) | (k_end; wrow_close) | walk1 | (dsimp only; walk1) | (leave1; walk_say "STEP leave1"; try dsimp only) | fail "no step"))))
      rename Fr g' _ _ _ => F41
      rename News g' _ _ _ => N41
      rw [ways_two] at hT
      refine sorted_ways F41 N41 (.head _) (fun p hp => .tail _ (.tail _ (.tail _ hp))) hT fun D42 c42 h42 vs42 hf42 F42 N42 hD42 => ?_
      rw [← least_two] at hf42
      clear F41 N41
      cases hlf : q.leastF (n + 1) ends with
      | none =>
        rw [hlf] at hf42
        obtain rfl : vs42 = [] := hf42
        (repeat' ((fail_if_success (with_reducible show wpAny _ _ (subscriptTail _ _ (Value.ref _) (Value.int _ _)) _ _ _)); ((fail_if_success (with_reducible first | show wpAny _ _ (exec (Stmt.For _ _ _ _ _) _) _ _ _ | show wpAny _ _ (exec (Stmt.While _ _ _ _) _) _ _ _ | show wpAny _ _ (eval (Expr.ListComp _ _ _ _) _) _ _ _ | show wpAny _ _ (eval (Expr.Dict _ _ _) _) _ _ _ | show wpAny _ _ (binaryOp _ _ (Value.str (S (List.flatten _)) _)) _ _ _ | show wpAny _ _ (exec (Stmt.Assign _ (Expr.ListComp _ _ _ _) _) _) _ _ _ | show wpAny _ _ (call (Value.ref _) _ _) _ _ _ | show wpAny _ _ (pyIter _) _ _ _ | show wpAny _ _ (call (Value.builtin "len") [Value.ref _]) _ _ _ | show wpAny _ _ (subscriptTail _ _ (Value.ref _) (Value.ref _)) _ _ _ | show wpAny _ _ (compareOp CmpOp.Lt (Value.ref _) (Value.ref _)) _ _ _ | show wpAny _ _ (setItem (Value.ref _) (Value.int _ _) _) _ _ _))); (first | (k_unfold; (try dsimp only)) | (k_end; wrow_close) | walk1 | (dsimp only; walk1) | (leave1; walk_say "STEP leave1"; try dsimp only) | fail "no step")))
        refine kba_turn (value' := PySem.Expr.Name (PySem.Str.ofString "_") ⟨0, 0, 0, 0⟩) (fun _ => rfl) ?_
        refine kmk_slice_lit (s := ⟨_, _, _, _, _⟩) (zs := []) F42 N42 (isList_of N42 (.head _)) .none (.int _ _) (by rfl) (fun D43 h43 F43 N43 l43 => ?_) (by with_unfolding_all rfl) (fun _ => rfl) (Nat.zero_le _)
        exact ⟨_, _, _, F43, dropTo1 N43 hsub, fun F N => hret _ _ _ _ F N ⟨_, _, rfl, by rw [hlf]⟩⟩
      | some e =>
        rw [hlf] at hf42
        obtain ⟨t42, tu42, u42, n42, r42, rfl, hr42, hm42⟩ := hf42
        (repeat' ((fail_if_success (with_reducible show wpAny _ _ (subscriptTail _ _ (Value.ref _) (Value.int _ _)) _ _ _)); ((fail_if_success (with_reducible first | show wpAny _ _ (exec (Stmt.For _ _ _ _ _) _) _ _ _ | show wpAny _ _ (exec (Stmt.While _ _ _ _) _) _ _ _ | show wpAny _ _ (eval (Expr.ListComp _ _ _ _) _) _ _ _ | show wpAny _ _ (eval (Expr.Dict _ _ _) _) _ _ _ | show wpAny _ _ (binaryOp _ _ (Value.str (S (List.flatten _)) _)) _ _ _ | show wpAny _ _ (exec (Stmt.Assign _ (Expr.ListComp _ _ _ _) _) _) _ _ _ | show wpAny _ _ (call (Value.ref _) _ _) _ _ _ | show wpAny _ _ (pyIter _) _ _ _ | show wpAny _ _ (call (Value.builtin "len") [Value.ref _]) _ _ _ | show wpAny _ _ (subscriptTail _ _ (Value.ref _) (Value.ref _)) _ _ _ | show wpAny _ _ (compareOp CmpOp.Lt (Value.ref _) (Value.ref _)) _ _ _ | show wpAny _ _ (setItem (Value.ref _) (Value.int _ _) _) _ _ _))); (first | (k_unfold; (try dsimp only)) | (k_end; wrow_close) | walk1 | (dsimp only; walk1) | (leave1; walk_say "STEP leave1"; try dsimp only) | fail "no step")))
        refine kba_turn (value' := PySem.Expr.Name (PySem.Str.ofString "_") ⟨0, 0, 0, 0⟩) (fun _ => rfl) ?_
        refine kmk_slice_lit (s := ⟨_, _, _, _, _⟩) (zs := [.ref t42]) F42 N42 (isList_of N42 (.head _)) .none (.int _ _) (pick_first _ _ hr42) (fun D43 h43 F43 N43 l43 => ?_) (by with_unfolding_all rfl) (fun _ => rfl) (by rw [List.size_toArray, sizeLine_eq, List.length_cons]; omega)
        exact ⟨_, _, _, F43, dropTo2 N43 hsub hm42, fun F N => hret _ _ _ _ F N ⟨_, _, rfl, by rw [hlf]; exact ⟨_, _, _, _, rfl⟩⟩⟩
    case turn =>
      rintro I i c v T13 t13 h13 tk13 m13 news13 hcv ⟨vs, k, oP, oS, vP, vS, more, rfl, hoP, hoS, hTs, hsub, hoff, hIl, m1, m2, m3, m4⟩ hT13 F13 z1 z2 z3 z4 z5 N13
      clear F1 N1
      obtain ⟨up, rfl, hc, hwi, hwz⟩ : ∃ up, v = .int (q.price c : Int) up ∧ (c = q.x0 ∨ c = q.x1) ∧ waysOf q n ends (i + 1) = waysOf q n ends i ++ (wayOf q n ends c).toList ∧ (waysOf q n ends i).length ≤ 1 := by
        match i, hcv with
        | 0, hcv =>
          cases hcv
          exact ⟨u0, by rw [q.price0], .inl rfl, by simp [waysOf], by simp [waysOf]⟩
        | 1, hcv =>
          cases hcv
          exact ⟨u1, by rw [q.price1], .inr rfl, by simp [waysOf], by simp only [waysOf, List.take_succ_cons, List.take_zero, List.map_cons, List.map_nil, List.flatten_cons, List.flatten_nil, List.append_nil]; cases wayOf q n ends q.x0 <;> simp⟩
        | i + 2, hcv => simp at hcv
      have hnc1 : ∀ p ∈ more, p.1 ≠ L' + 1 := fun p hp => (hoff p hp).2.1
      have hnc2 : ∀ p ∈ more, p.1 ≠ L' + 1 + 1 := fun p hp => (hoff p hp).2.2.1
      have hIc2 : @LT.lt Nat _ (L' + 1 + 1) I := Nat.lt_trans hwc2 hIl
      have hIc1 : @LT.lt Nat _ (L' + 1) I := Nat.lt_trans hwc1 hIl
      have hnl1 : ∀ p ∈ more, p.1 ≠ lw := fun p hp => (hoff p hp).1
      (repeat' ((fail_if_success (with_reducible show wpAny _ _ (subscriptTail _ _ (Value.ref _) (Value.int _ _)) _ _ _)); ((fail_if_success (with_reducible first | show wpAny _ _ (exec (Stmt.For _ _ _ _ _) _) _ _ _ | show wpAny _ _ (exec (Stmt.While _ _ _ _) _) _ _ _ | show wpAny _ _ (eval (Expr.ListComp _ _ _ _) _) _ _ _ | show wpAny _ _ (eval (Expr.Dict _ _ _) _) _ _ _ | show wpAny _ _ (binaryOp _ _ (Value.str (S (List.flatten _)) _)) _ _ _ | show wpAny _ _ (exec (Stmt.Assign _ (Expr.ListComp _ _ _ _) _) _) _ _ _ | show wpAny _ _ (call (Value.ref _) _ _) _ _ _ | show wpAny _ _ (pyIter _) _ _ _ | show wpAny _ _ (call (Value.builtin "len") [Value.ref _]) _ _ _ | show wpAny _ _ (subscriptTail _ _ (Value.ref _) (Value.ref _)) _ _ _ | show wpAny _ _ (compareOp CmpOp.Lt (Value.ref _) (Value.ref _)) _ _ _ | show wpAny _ _ (setItem (Value.ref _) (Value.int _ _) _) _ _ _))); (first | (k_unfold; (try dsimp only)) | (k_end; wrow_close) | walk1 | (dsimp only; walk1) | (leave1; walk_say "STEP leave1"; try dsimp only) | fail "no step")))
      rename_i hA FA NA hB oS2 dS hC0 oP2 FC NC dP
      clear FA NA
      have hme' : (le, listOf (List.toArray fs) kf) ∈ (I + 4, z1) :: (I + 2, z2) :: (I + 3, z3) :: (I, z4) :: (I + 1, z5) :: (lw, listOf (List.toArray vs) k) :: (L' + 1 + 1, oP2) :: (L' + 1, oS2) :: more := by
        simp only [List.mem_cons]; exact .inr (.inr (.inr (.inr (.inr (.inr (.inr (.inr (hsub _ hme))))))))
      k_dflt (refine LCg.Assign_ListComp_U (F₀ := by k_asm) (by rfl) (by with_unfolding_all rfl) (by with_unfolding_all rfl) (by decide) (by rfl) (by decide) (by rfl) (by rfl) (by rfl) ?_)
      ((repeat' (((fail_if_success (with_reducible first | show wpAny _ _ (exec (Stmt.For _ _ _ _ _) _) _ _ _ | show wpAny _ _ (exec (Stmt.While _ _ _ _) _) _ _ _ | show wpAny _ _ (eval (Expr.ListComp _ _ _ _) _) _ _ _ | show wpAny _ _ (eval (Expr.Dict _ _ _) _) _ _ _ | show wpAny _ _ (binaryOp _ _ (Value.str (S (List.flatten _)) _)) _ _ _ | show wpAny _ _ (exec (Stmt.Assign _ (Expr.ListComp _ _ _ _) _) _) _ _ _ | show wpAny _ _ (call (Value.ref _) _ _) _ _ _ | show wpAny _ _ (pyIter _) _ _ _ | show wpAny _ _ (call (Value.builtin "len") [Value.ref _]) _ _ _ | show wpAny _ _ (subscriptTail _ _ (Value.ref _) (Value.ref _)) _ _ _ | show wpAny _ _ (compareOp CmpOp.Lt (Value.ref _) (Value.ref _)) _ _ _ | show wpAny _ _ (setItem (Value.ref _) (Value.int _ _) _) _ _ _))); (first | (k_unfold; (try dsimp only)) | (k_end; wrow_close) | walk1 | (dsimp only; walk1) | (leave1; walk_say "STEP leave1"; try dsimp only) | fail "no step"))))
      rename Fr g' L' _ _ => F9
      rename News g' L' _ _ => N9
      refine LCg.CompSrc.ledger rfl F9 N9 hme' (by rw [List.size_toArray, hfl, sizeLine_eq]; omega) fun g2 => ?_
      refine rest_J (fun j ys nw => nw = (I + 4, z1) :: (I + 2, z2) :: (I + 3, z3) :: (I, z4) :: (I + 1, z5) :: (lw, listOf (List.toArray vs) k) :: (L' + 1 + 1, oP2) :: (L' + 1, oS2) :: more ∧ IntsAre ys ((ends.take j).map (fun e => Txt.find3 (S e) ⟨#[c]⟩ 0))) ?_ ?_ ⟨rfl, .nil⟩
      · intro j v ys2 nw I2 oI2 C oC D2 m₂ h tk E' hj hv2 hJ hoC hx F5 N5 off hne5
        obtain ⟨rfl, hys⟩ := hJ
        obtain ⟨x, t, rfl, hxs⟩ := hf.item j v (by simpa using hv2)
        obtain ⟨e, he, rfl⟩ := strs_item hxs
        ((repeat' (((fail_if_success (with_reducible first | show wpAny _ _ (exec (Stmt.For _ _ _ _ _) _) _ _ _ | show wpAny _ _ (exec (Stmt.While _ _ _ _) _) _ _ _ | show wpAny _ _ (eval (Expr.ListComp _ _ _ _) _) _ _ _ | show wpAny _ _ (eval (Expr.Dict _ _ _) _) _ _ _ | show wpAny _ _ (binaryOp _ _ (Value.str (S (List.flatten _)) _)) _ _ _ | show wpAny _ _ (exec (Stmt.Assign _ (Expr.ListComp _ _ _ _) _) _) _ _ _ | show wpAny _ _ (call (Value.ref _) _ _) _ _ _ | show wpAny _ _ (pyIter _) _ _ _ | show wpAny _ _ (call (Value.builtin "len") [Value.ref _]) _ _ _ | show wpAny _ _ (subscriptTail _ _ (Value.ref _) (Value.ref _)) _ _ _ | show wpAny _ _ (compareOp CmpOp.Lt (Value.ref _) (Value.ref _)) _ _ _ | show wpAny _ _ (setItem (Value.ref _) (Value.int _ _) _) _ _ _))); (first | (k_unfold; (try dsimp only)) | (k_end; wrow_close) | walk1 | (dsimp only; walk1) | (leave1; walk_say "STEP leave1"; try dsimp only) | fail "no step"))))
        refine comp_same (by k_asm) (by k_asm) off (.inr ⟨_, hme', rfl, _, rfl⟩) ⟨rfl, ?_⟩
        rw [List.take_add_one, he, List.map_append]
        exact ints_put hys _
      · intro ys2 nw hJ
        obtain ⟨rfl, hys2⟩ := hJ
        rw [List.size_toArray, hfl, ← h3, List.take_length] at hys2
        intro D2 h tk F6 N6 o6
        dsimp only
        have o6' := o6
        (repeat' ((fail_if_success (with_reducible show wpAny _ _ (subscriptTail _ _ (Value.ref _) (Value.int _ _)) _ _ _)); ((fail_if_success (with_reducible first | show wpAny _ _ (exec (Stmt.For _ _ _ _ _) _) _ _ _ | show wpAny _ _ (exec (Stmt.While _ _ _ _) _) _ _ _ | show wpAny _ _ (eval (Expr.ListComp _ _ _ _) _) _ _ _ | show wpAny _ _ (eval (Expr.Dict _ _ _) _) _ _ _ | show wpAny _ _ (binaryOp _ _ (Value.str (S (List.flatten _)) _)) _ _ _ | show wpAny _ _ (exec (Stmt.Assign _ (Expr.ListComp _ _ _ _) _) _) _ _ _ | show wpAny _ _ (call (Value.ref _) _ _) _ _ _ | show wpAny _ _ (pyIter _) _ _ _ | show wpAny _ _ (call (Value.builtin "len") [Value.ref _]) _ _ _ | show wpAny _ _ (subscriptTail _ _ (Value.ref _) (Value.ref _)) _ _ _ | show wpAny _ _ (compareOp CmpOp.Lt (Value.ref _) (Value.ref _)) _ _ _ | show wpAny _ _ (setItem (Value.ref _) (Value.int _ _) _) _ _ _))); (first | (k_unfold; (try dsimp only)) | (k_end; wrow_close) | walk1 | (dsimp only; walk1) | (leave1; walk_say "STEP leave1"; try dsimp only) | fail "no step")))
        · rename (_ ∈ List.map _ _) => a50
          rename ((0 : Int) ≤ _) => c50
          rename (∀ a, a ∈ List.map _ _ → _ ≤ a) => b50
          have hall : hasAll ends c = true := all_of_min b50 c50
          have hbl : (behind ends c).length = 3 := by unfold behind; rw [List.length_map, h3]
          have hbs := behind_len hall hl
          have hyl : ys2.length = 3 := by rw [ints_len hys2, List.length_map, h3]
          k_dflt (refine Assign_comp_Z (_F₀ := by k_asm) (by with_unfolding_all rfl) (by with_unfolding_all rfl) (by rfl) (by decide) ?_)
          ((repeat' (((fail_if_success (with_reducible first | show wpAny _ _ (exec (Stmt.For _ _ _ _ _) _) _ _ _ | show wpAny _ _ (exec (Stmt.While _ _ _ _) _) _ _ _ | show wpAny _ _ (eval (Expr.ListComp _ _ _ _) _) _ _ _ | show wpAny _ _ (eval (Expr.Dict _ _ _) _) _ _ _ | show wpAny _ _ (binaryOp _ _ (Value.str (S (List.flatten _)) _)) _ _ _ | show wpAny _ _ (exec (Stmt.Assign _ (Expr.ListComp _ _ _ _) _) _) _ _ _ | show wpAny _ _ (call (Value.ref _) _ _) _ _ _ | show wpAny _ _ (pyIter _) _ _ _ | show wpAny _ _ (call (Value.builtin "len") [Value.ref _]) _ _ _ | show wpAny _ _ (subscriptTail _ _ (Value.ref _) (Value.ref _)) _ _ _ | show wpAny _ _ (compareOp CmpOp.Lt (Value.ref _) (Value.ref _)) _ _ _ | show wpAny _ _ (setItem (Value.ref _) (Value.int _ _) _) _ _ _))); (first | (k_unfold; (try dsimp only)) | (k_end; wrow_close) | walk1 | (dsimp only; walk1) | (leave1; walk_say "STEP leave1"; try dsimp only) | fail "no step"))))
          rename Fr g' L' _ _ => F50
          rename News g' L' _ _ => N50
          refine call_zipZ (xs := fs) (ys := ys2) (fun j v => ∃ t, v = .str (S ((behind ends c).getD j [])) t) (by decide) (by rfl) (by rfl) (by rfl) (by decide) (by rfl) (by rfl) rfl F50 N50 (.tail _ hme') rfl rfl (.head _) rfl rfl (by omega) (by rw [hfl, sizeLine_eq]; omega) ?turn2 ?fin2
          case turn2 =>
            intro g5 j v1 v2 its C oC D5 zs m₂ h tk E' hv1 hv2 hoC hx1 hx2 F5 N5
            clear F50 N50
            obtain ⟨x, t, rfl, hxs⟩ := hf.item j v1 hv1
            obtain ⟨e, he, rfl⟩ := strs_item hxs
            obtain ⟨p, t2, rfl, hp⟩ := ints_item hys2 j v2 hv2
            obtain ⟨k5, hk5, hk5l, hk5b⟩ := place_of hall he
            obtain rfl : p = (k5 : Int) := by
              rw [List.getElem?_map, he] at hp
              rw [← hk5]; exact (Option.some.inj hp).symm
            have hsl : Txt.slice (S e) (some ((k5 : Int) + 1)) none = S ((behind ends c).getD j []) := by
              rw [hk5b]; exact slice_S_from (i := k5 + 1) hk5l
            have hse : (S e).length ≤ sizeLine := by
              have := hl e (List.mem_of_getElem? he)
              rw [S_len, sizeLine_eq]; omega
            (repeat' ((fail_if_success (with_reducible show wpAny _ _ (subscriptTail _ _ (Value.ref _) (Value.int _ _)) _ _ _)); ((fail_if_success (with_reducible first | show wpAny _ _ (exec (Stmt.For _ _ _ _ _) _) _ _ _ | show wpAny _ _ (exec (Stmt.While _ _ _ _) _) _ _ _ | show wpAny _ _ (eval (Expr.ListComp _ _ _ _) _) _ _ _ | show wpAny _ _ (eval (Expr.Dict _ _ _) _) _ _ _ | show wpAny _ _ (binaryOp _ _ (Value.str (S (List.flatten _)) _)) _ _ _ | show wpAny _ _ (exec (Stmt.Assign _ (Expr.ListComp _ _ _ _) _) _) _ _ _ | show wpAny _ _ (call (Value.ref _) _ _) _ _ _ | show wpAny _ _ (pyIter _) _ _ _ | show wpAny _ _ (call (Value.builtin "len") [Value.ref _]) _ _ _ | show wpAny _ _ (subscriptTail _ _ (Value.ref _) (Value.ref _)) _ _ _ | show wpAny _ _ (compareOp CmpOp.Lt (Value.ref _) (Value.ref _)) _ _ _ | show wpAny _ _ (setItem (Value.ref _) (Value.int _ _) _) _ _ _))); (first | (k_unfold; (try dsimp only)) | (k_end; wrow_close) | walk1 | (dsimp only; walk1) | (leave1; walk_say "STEP leave1"; try dsimp only) | fail "no step")))
            exact ⟨_, _, rfl, by k_asm, by k_asm, _, rfl⟩
          case fin2 =>
            intro D5 h tk zs hzl hR F5 N5 hlt5
            clear F50 N50
            have hzs := strs_by (by rw [hzl, hfl, hbl]) hR
            dsimp only
            (repeat' ((fail_if_success (with_reducible show wpAny _ _ (subscriptTail _ _ (Value.ref _) (Value.int _ _)) _ _ _)); ((fail_if_success (with_reducible first | show wpAny _ _ (exec (Stmt.For _ _ _ _ _) _) _ _ _ | show wpAny _ _ (exec (Stmt.While _ _ _ _) _) _ _ _ | show wpAny _ _ (eval (Expr.ListComp _ _ _ _) _) _ _ _ | show wpAny _ _ (eval (Expr.Dict _ _ _) _) _ _ _ | show wpAny _ _ (binaryOp _ _ (Value.str (S (List.flatten _)) _)) _ _ _ | show wpAny _ _ (exec (Stmt.Assign _ (Expr.ListComp _ _ _ _) _) _) _ _ _ | show wpAny _ _ (call (Value.ref _) _ _) _ _ _ | show wpAny _ _ (pyIter _) _ _ _ | show wpAny _ _ (call (Value.builtin "len") [Value.ref _]) _ _ _ | show wpAny _ _ (subscriptTail _ _ (Value.ref _) (Value.ref _)) _ _ _ | show wpAny _ _ (compareOp CmpOp.Lt (Value.ref _) (Value.ref _)) _ _ _ | show wpAny _ _ (setItem (Value.ref _) (Value.int _ _) _) _ _ _))); (first | (k_unfold; (try dsimp only)) | (k_end; wrow_close) | walk1 | (dsimp only; walk1) | (leave1; walk_say "STEP leave1"; try dsimp only) | fail "no step")))
            have hC' : CodeHd g' 54 50 := hC.keeps FG'.keep
            k_dflt (refine LCp.ListComp_P (F₀ := by k_asm) (by with_unfolding_all rfl) (by decide) (by rfl) (by decide) (by rfl) (by rfl) (by decide) ?_)
            (repeat' ((fail_if_success (with_reducible show wpAny _ _ (subscriptTail _ _ (Value.ref _) (Value.int _ _)) _ _ _)); ((fail_if_success (with_reducible first | show wpAny _ _ (exec (Stmt.For _ _ _ _ _) _) _ _ _ | show wpAny _ _ (exec (Stmt.While _ _ _ _) _) _ _ _ | show wpAny _ _ (eval (Expr.ListComp _ _ _ _) _) _ _ _ | show wpAny _ _ (eval (Expr.Dict _ _ _) _) _ _ _ | show wpAny _ _ (binaryOp _ _ (Value.str (S (List.flatten _)) _)) _ _ _ | show wpAny _ _ (exec (Stmt.Assign _ (Expr.ListComp _ _ _ _) _) _) _ _ _ | show wpAny _ _ (call (Value.ref _) _ _) _ _ _ | show wpAny _ _ (pyIter _) _ _ _ | show wpAny _ _ (call (Value.builtin "len") [Value.ref _]) _ _ _ | show wpAny _ _ (subscriptTail _ _ (Value.ref _) (Value.ref _)) _ _ _ | show wpAny _ _ (compareOp CmpOp.Lt (Value.ref _) (Value.ref _)) _ _ _ | show wpAny _ _ (setItem (Value.ref _) (Value.int _ _) _) _ _ _))); (first | (k_unfold; (try dsimp only)) | (k_end; wrow_close) | walk1 | (dsimp only; walk1) | (leave1; walk_say "STEP leave1"; try dsimp only) | fail "no step")))
            rename Fr g' L' _ _ => F51
            rename News g' L' _ _ => N51
            refine (ih (behind ends c) zs D5 zs.length ((D5, listOf (List.toArray zs) zs.length) :: (D2, LCg.lst ys2) :: (I + 4, z1) :: (I + 2, z2) :: (I + 3, z3) :: (I, z4) :: (I + 1, z5) :: (lw, listOf (List.toArray vs) k) :: (L' + 1 + 1, oP2) :: (L' + 1, oS2) :: more) (by omega) hbl hbs hzs (.head _) ?hmp5).use B' F51 X' N51 T' rfl hC' ?_ ?_ ?_
            case hmp5 => exact .tail _ (.tail _ (.tail _ (.tail _ (.tail _ (.tail _ (.tail _ (.tail _ (.tail _ (.tail _ (hsub _ hmp))))))))))
            · exact (by omega : dp + 1 + (4 * n + 20) < recursionLimit)
            · exact (by omega : un + 3 + 8 * (4 * n + 20) < cLine)
            intro r52 news52 h52 tk52 F52 N52 hp52
            clear F51 N51
            obtain ⟨l52, k52, rfl, hp52⟩ := hp52
            have hvl : vs.length ≤ 1 := by rw [hTs.1]; exact hwz
            cases hlf : q.leastF n (behind ends c) with
            | none =>
              rw [hlf] at hp52
              subst hp52
              refine LCp.SrcLP.ledger rfl F52 N52 (.head _) (Nat.zero_le _) fun g6 => ?_
              refine LCp.CompRestP.zero ?_
              intro D6 h tk F6 N6 o66
              clear F52 N52
              dsimp only
              (repeat' ((fail_if_success (with_reducible show wpAny _ _ (binaryOp _ (Value.str _ _) (Value.str _ _)) _ _ _)); (fail_if_success (with_reducible show wpAny _ _ (call (Value.builtin "list.extend") _) _ _ _)); ((fail_if_success (with_reducible first | show wpAny _ _ (exec (Stmt.For _ _ _ _ _) _) _ _ _ | show wpAny _ _ (exec (Stmt.While _ _ _ _) _) _ _ _ | show wpAny _ _ (eval (Expr.ListComp _ _ _ _) _) _ _ _ | show wpAny _ _ (eval (Expr.Dict _ _ _) _) _ _ _ | show wpAny _ _ (binaryOp _ _ (Value.str (S (List.flatten _)) _)) _ _ _ | show wpAny _ _ (exec (Stmt.Assign _ (Expr.ListComp _ _ _ _) _) _) _ _ _ | show wpAny _ _ (call (Value.ref _) _ _) _ _ _ | show wpAny _ _ (pyIter _) _ _ _ | show wpAny _ _ (call (Value.builtin "len") [Value.ref _]) _ _ _ | show wpAny _ _ (subscriptTail _ _ (Value.ref _) (Value.ref _)) _ _ _ | show wpAny _ _ (compareOp CmpOp.Lt (Value.ref _) (Value.ref _)) _ _ _ | show wpAny _ _ (setItem (Value.ref _) (Value.int _ _) _) _ _ _))); (first | (k_unfold; (try dsimp only)) | (k_end; wrow_close) | walk1 | (dsimp only; walk1) | (leave1; walk_say "STEP leave1"; try dsimp only) | fail "no step")))
              rename Fr g' L' _ _ => F61
              rename News g' L' _ _ => N61
              have N62 := rotN N61
              clear N61
              refine kxn_extend F61 N62 (.tail _ (.head _)) rfl (.head (hne9 hIl (Ne.symm o66.2.2.2.2.2.2.2.2.1) (hnw3 hwc1 hwc2 hnl1))) (not_long ?sz1) ?sz2 ?sz3 fun h63 F63 N63 => ?_
              case sz1 => rw [List.size_toArray]; exact Nat.le_trans (Nat.add_le_add_right hvl _) (by decide)
              case sz2 => exact Nat.le_trans hvl (by rw [sizeLine_eq]; decide)
              case sz3 => rw [List.size_toArray]; exact Nat.le_trans (Nat.add_le_add_right hvl _) (by rw [sizeLine_eq]; decide)
              clear F61 N62
              (repeat' ((fail_if_success (with_reducible show wpAny _ _ (subscriptTail _ _ (Value.ref _) (Value.int _ _)) _ _ _)); ((fail_if_success (with_reducible first | show wpAny _ _ (exec (Stmt.For _ _ _ _ _) _) _ _ _ | show wpAny _ _ (exec (Stmt.While _ _ _ _) _) _ _ _ | show wpAny _ _ (eval (Expr.ListComp _ _ _ _) _) _ _ _ | show wpAny _ _ (eval (Expr.Dict _ _ _) _) _ _ _ | show wpAny _ _ (binaryOp _ _ (Value.str (S (List.flatten _)) _)) _ _ _ | show wpAny _ _ (exec (Stmt.Assign _ (Expr.ListComp _ _ _ _) _) _) _ _ _ | show wpAny _ _ (call (Value.ref _) _ _) _ _ _ | show wpAny _ _ (pyIter _) _ _ _ | show wpAny _ _ (call (Value.builtin "len") [Value.ref _]) _ _ _ | show wpAny _ _ (subscriptTail _ _ (Value.ref _) (Value.ref _)) _ _ _ | show wpAny _ _ (compareOp CmpOp.Lt (Value.ref _) (Value.ref _)) _ _ _ | show wpAny _ _ (setItem (Value.ref _) (Value.int _ _) _) _ _ _))); (first | (k_unfold; (try dsimp only)) | (k_end; wrow_close) | walk1 | (dsimp only; walk1) | (leave1; walk_say "STEP leave1"; try dsimp only) | fail "no step")))
              have hw52 : wayOf q n ends c = none := by unfold wayOf Ask.way; rw [hall, hlf]; rfl
              refine ⟨_, _, _, (lw, listOf (List.toArray vs) k) :: (L' + 1 + 1, oP2) :: (L' + 1, oS2) :: more, rfl, F63, rotD N63, off5 (off3 hIl hIc1 hIc2 fun p hp => (hoff p hp).2.2.2), ⟨.tail _ (.tail _ (.tail _ (hsub _ hmp))), trivial⟩, ?_⟩
              exact ⟨vs, k, oP2, oS2, _, _, more, rfl, dP, dS, by rw [hwi, hw52]; simpa using hTs, hsub, hoff, hIl, m1, m2, m3, m4⟩
            | some e52 =>
              rw [hlf] at hp52
              obtain ⟨t52, tu52, u52, n52, rfl⟩ := hp52
              refine LCp.SrcLP.ledger rfl F52 N52 (.head _) (by rw [sizeLine_eq]; exact Nat.le_of_ble_eq_true rfl) fun g6 => ?_
              refine LCp.CompRestP.succ ?_
              intro v hv
              obtain rfl : v = .ref t52 := by cases hv; rfl
              refine ⟨t52, _, _, _, _, rfl, .tail _ (.head _), rfl, rfl, ?_⟩
              intro I6 oI6 C6 oC6 D6 m6 h6 tk6 E6 hoC6 hx1 hx2 F6 N6 off6 ne6
              clear F52 N52
              (repeat' ((fail_if_success (with_reducible show wpAny _ _ (binaryOp _ (Value.str _ _) (Value.str _ _)) _ _ _)); (fail_if_success (with_reducible show wpAny _ _ (call (Value.builtin "list.extend") _) _ _ _)); ((fail_if_success (with_reducible first | show wpAny _ _ (exec (Stmt.For _ _ _ _ _) _) _ _ _ | show wpAny _ _ (exec (Stmt.While _ _ _ _) _) _ _ _ | show wpAny _ _ (eval (Expr.ListComp _ _ _ _) _) _ _ _ | show wpAny _ _ (eval (Expr.Dict _ _ _) _) _ _ _ | show wpAny _ _ (binaryOp _ _ (Value.str (S (List.flatten _)) _)) _ _ _ | show wpAny _ _ (exec (Stmt.Assign _ (Expr.ListComp _ _ _ _) _) _) _ _ _ | show wpAny _ _ (call (Value.ref _) _ _) _ _ _ | show wpAny _ _ (pyIter _) _ _ _ | show wpAny _ _ (call (Value.builtin "len") [Value.ref _]) _ _ _ | show wpAny _ _ (subscriptTail _ _ (Value.ref _) (Value.ref _)) _ _ _ | show wpAny _ _ (compareOp CmpOp.Lt (Value.ref _) (Value.ref _)) _ _ _ | show wpAny _ _ (setItem (Value.ref _) (Value.int _ _) _) _ _ _))); (first | (k_unfold; (try dsimp only)) | (k_end; wrow_close) | walk1 | (dsimp only; walk1) | (leave1; walk_say "STEP leave1"; try dsimp only) | fail "no step")))
              have hew : e52.2.length ≤ 100 := by
                have h1 := q.least_ok n (behind ends c) (fun hx => by rw [hx] at hbl; cases hbl) hbs
                rw [hlf] at h1
                obtain ⟨y, hy, h2⟩ := h1.1.2.1
                have h3 := takes_len h2
                have h4 := hbs y hy
                omega
              refine S_add (a := [c]) (b := e52.2) (by rw [sizeLine_eq, List.length_singleton]; omega) fun t60 tk60 => ?_
              (repeat' ((fail_if_success (with_reducible show wpAny _ _ (binaryOp _ (Value.str _ _) (Value.str _ _)) _ _ _)); (fail_if_success (with_reducible show wpAny _ _ (call (Value.builtin "list.extend") _) _ _ _)); ((fail_if_success (with_reducible first | show wpAny _ _ (exec (Stmt.For _ _ _ _ _) _) _ _ _ | show wpAny _ _ (exec (Stmt.While _ _ _ _) _) _ _ _ | show wpAny _ _ (eval (Expr.ListComp _ _ _ _) _) _ _ _ | show wpAny _ _ (eval (Expr.Dict _ _ _) _) _ _ _ | show wpAny _ _ (binaryOp _ _ (Value.str (S (List.flatten _)) _)) _ _ _ | show wpAny _ _ (exec (Stmt.Assign _ (Expr.ListComp _ _ _ _) _) _) _ _ _ | show wpAny _ _ (call (Value.ref _) _ _) _ _ _ | show wpAny _ _ (pyIter _) _ _ _ | show wpAny _ _ (call (Value.builtin "len") [Value.ref _]) _ _ _ | show wpAny _ _ (subscriptTail _ _ (Value.ref _) (Value.ref _)) _ _ _ | show wpAny _ _ (compareOp CmpOp.Lt (Value.ref _) (Value.ref _)) _ _ _ | show wpAny _ _ (setItem (Value.ref _) (Value.int _ _) _) _ _ _))); (first | (k_unfold; (try dsimp only)) | (k_end; wrow_close) | walk1 | (dsimp only; walk1) | (leave1; walk_say "STEP leave1"; try dsimp only) | fail "no step")))
              rename_i D7 h7 F7 N7 l7
              have hID7 : @LT.lt Nat _ (I + 4) D7 := l7.2.2.2.2.2.2.2.1
              have hlw7 : D7 ≠ lw := Nat.ne_of_gt (Nat.lt_trans (Nat.lt_of_lt_of_le hIl (Nat.le_add_right I 4)) hID7)
              have hx7 : ∃ tu u n', News g' L' h7 ((D7, tupO (q.price c + e52.1, c :: e52.2) tu u n') :: (I6, oI6) :: (C6, oC6) :: (D6, LCg.lst []) :: (l52, listOf #[.ref t52] k52) :: (t52, tupO e52 tu52 u52 n52) :: (D5, listOf (List.toArray zs) zs.length) :: (D2, LCg.lst ys2) :: (I + 4, z1) :: (I + 2, z2) :: (I + 3, z3) :: (I, z4) :: (I + 1, z5) :: (lw, listOf (List.toArray vs) k) :: (L' + 1 + 1, oP2) :: (L' + 1, oS2) :: more) := by
                apply Exists.intro; apply Exists.intro; apply Exists.intro
                rw [← tup_mk]
                exact N7
              clear N7
              obtain ⟨tu7, u7, n7, N7⟩ := hx7
              refine LCg.CompEnd.intro F7 N7 ((D7, tupO (q.price c + e52.1, c :: e52.2) tu7 u7 n7) :: (l52, listOf #[.ref t52] k52) :: (t52, tupO e52 tu52 u52 n52) :: (D5, listOf (List.toArray zs) zs.length) :: (D2, LCg.lst ys2) :: (I + 4, z1) :: (I + 2, z2) :: (I + 3, z3) :: (I, z4) :: (I + 1, z5) :: (lw, listOf (List.toArray vs) k) :: (L' + 1 + 1, oP2) :: (L' + 1, oS2) :: more) sub4 ⟨⟨Nat.ne_of_gt l7.1, Nat.ne_of_gt l7.2.1, Nat.ne_of_gt l7.2.2.1⟩, off6⟩ (.inr ⟨_, .tail _ (.head _), rfl, _, rfl⟩) ?_
              refine LCp.CompRestP.zero ?_
              intro D8 h tk F8 N8 o88
              clear F7 N7
              dsimp only
              (repeat' ((fail_if_success (with_reducible show wpAny _ _ (binaryOp _ (Value.str _ _) (Value.str _ _)) _ _ _)); (fail_if_success (with_reducible show wpAny _ _ (call (Value.builtin "list.extend") _) _ _ _)); ((fail_if_success (with_reducible first | show wpAny _ _ (exec (Stmt.For _ _ _ _ _) _) _ _ _ | show wpAny _ _ (exec (Stmt.While _ _ _ _) _) _ _ _ | show wpAny _ _ (eval (Expr.ListComp _ _ _ _) _) _ _ _ | show wpAny _ _ (eval (Expr.Dict _ _ _) _) _ _ _ | show wpAny _ _ (binaryOp _ _ (Value.str (S (List.flatten _)) _)) _ _ _ | show wpAny _ _ (exec (Stmt.Assign _ (Expr.ListComp _ _ _ _) _) _) _ _ _ | show wpAny _ _ (call (Value.ref _) _ _) _ _ _ | show wpAny _ _ (pyIter _) _ _ _ | show wpAny _ _ (call (Value.builtin "len") [Value.ref _]) _ _ _ | show wpAny _ _ (subscriptTail _ _ (Value.ref _) (Value.ref _)) _ _ _ | show wpAny _ _ (compareOp CmpOp.Lt (Value.ref _) (Value.ref _)) _ _ _ | show wpAny _ _ (setItem (Value.ref _) (Value.int _ _) _) _ _ _))); (first | (k_unfold; (try dsimp only)) | (k_end; wrow_close) | walk1 | (dsimp only; walk1) | (leave1; walk_say "STEP leave1"; try dsimp only) | fail "no step")))
              rename Fr g' L' _ _ => F81
              rename News g' L' _ _ => N81
              have N82 := rotX N81
              clear N81
              refine kl_extend (l := vs ++ [.ref D7]) F81 N82 (.tail _ (.head _)) rfl (by simp) (.head (hne10 (Ne.symm o88.2.2.2.2.2.2.2.2.2.2.1) hIl hlw7 (hnw3 hwc1 hwc2 hnl1))) (not_long ?sz1) ?sz2 ?sz3 fun h83 F83 N83 => ?_
              case sz1 => rw [List.size_toArray]; exact Nat.le_trans (Nat.add_le_add_right hvl _) (by show 1 + 1 ≤ 1000; decide)
              case sz2 => exact Nat.le_trans hvl (by rw [sizeLine_eq]; decide)
              case sz3 => rw [List.size_toArray]; exact Nat.le_trans (Nat.add_le_add_right hvl _) (by rw [sizeLine_eq]; show 1 + 1 ≤ 16777216 + 1; decide)
              clear F81 N82
              (repeat' ((fail_if_success (with_reducible show wpAny _ _ (subscriptTail _ _ (Value.ref _) (Value.int _ _)) _ _ _)); ((fail_if_success (with_reducible first | show wpAny _ _ (exec (Stmt.For _ _ _ _ _) _) _ _ _ | show wpAny _ _ (exec (Stmt.While _ _ _ _) _) _ _ _ | show wpAny _ _ (eval (Expr.ListComp _ _ _ _) _) _ _ _ | show wpAny _ _ (eval (Expr.Dict _ _ _) _) _ _ _ | show wpAny _ _ (binaryOp _ _ (Value.str (S (List.flatten _)) _)) _ _ _ | show wpAny _ _ (exec (Stmt.Assign _ (Expr.ListComp _ _ _ _) _) _) _ _ _ | show wpAny _ _ (call (Value.ref _) _ _) _ _ _ | show wpAny _ _ (pyIter _) _ _ _ | show wpAny _ _ (call (Value.builtin "len") [Value.ref _]) _ _ _ | show wpAny _ _ (subscriptTail _ _ (Value.ref _) (Value.ref _)) _ _ _ | show wpAny _ _ (compareOp CmpOp.Lt (Value.ref _) (Value.ref _)) _ _ _ | show wpAny _ _ (setItem (Value.ref _) (Value.int _ _) _) _ _ _))); (first | (k_unfold; (try dsimp only)) | (k_end; wrow_close) | walk1 | (dsimp only; walk1) | (leave1; walk_say "STEP leave1"; try dsimp only) | fail "no step")))
              have hw52 : wayOf q n ends c = some (q.price c + e52.1, c :: e52.2) := by unfold wayOf Ask.way; rw [hall, hlf]; rfl
              have htp : TupsAre ((D7, tupO (q.price c + e52.1, c :: e52.2) tu7 u7 n7) :: more) (vs ++ [Value.ref D7]) (waysOf q n ends (i + 1)) := by
                rw [hwi, hw52]
                exact tups_put hTs D7 (q.price c + e52.1, c :: e52.2) tu7 u7 n7
              have hoD : ∀ p ∈ (D7, tupO (q.price c + e52.1, c :: e52.2) tu7 u7 n7) :: more, @LT.lt Nat _ p.1 I ∨ @LT.lt Nat _ (I + 4) p.1 := off_D hID7 hoff
              refine ⟨_, _, _, (lw, listOf (List.toArray (vs ++ [Value.ref D7])) (k + 1)) :: (L' + 1 + 1, oP2) :: (L' + 1, oS2) :: (D7, tupO (q.price c + e52.1, c :: e52.2) tu7 u7 n7) :: more, rfl, F83, rotE N83, off5 (off3 hIl hIc1 hIc2 hoD), ⟨.tail _ (.tail _ (.tail _ (.tail _ (hsub _ hmp)))), trivial⟩, ?_⟩
              exact ⟨_, _, oP2, oS2, _, _, _, rfl, dP, dS, htp, fun p hp => .tail _ (hsub p hp), off_E hID7 hIl hwc1 hwc2 hoff, hIl, m1, m2, m3, m4⟩
        · rename_i D42 h43 F42 N42 l42
          rename (_ ∈ List.map _ _) => a42
          rename (¬ ((0 : Int) ≤ _)) => c41
          rename ((0 : Int) ≤ _) => c42
          have hall : hasAll ends c = false := Bool.eq_false_iff.mpr fun hx => c41 (min_ge (by assumption) hx)
          have hany : hasAny ends c = true := max_ge a42 c42
          have hw42 : wayOf q n ends c = some (q.price c, [c]) := by unfold wayOf Ask.way; rw [hall, hany]; rfl
          have hv1 := hTs.1
          have hID : @LT.lt Nat _ (I + 4) D42 := l42.2.1
          replace N42 := rotB N42
          have hne42 := hne8 (o := tupO (q.price c, [c]) up t13 0) (z1 := z1) (z2 := z2) (z3 := z3) (z4 := z4) (z5 := z5) hIl hID (hnw3 (a := oP2) (b := oS2) hwc1 hwc2 hnl1)
          refine append_K F42 N42 (.head hne42) (fun h44 F44 N44 => ?_) (by rw [List.size_toArray, sizeLine_eq]; omega)
          rw [List.push_toArray] at N44
          clear F42 N42
          (repeat' ((fail_if_success (with_reducible show wpAny _ _ (subscriptTail _ _ (Value.ref _) (Value.int _ _)) _ _ _)); ((fail_if_success (with_reducible first | show wpAny _ _ (exec (Stmt.For _ _ _ _ _) _) _ _ _ | show wpAny _ _ (exec (Stmt.While _ _ _ _) _) _ _ _ | show wpAny _ _ (eval (Expr.ListComp _ _ _ _) _) _ _ _ | show wpAny _ _ (eval (Expr.Dict _ _ _) _) _ _ _ | show wpAny _ _ (binaryOp _ _ (Value.str (S (List.flatten _)) _)) _ _ _ | show wpAny _ _ (exec (Stmt.Assign _ (Expr.ListComp _ _ _ _) _) _) _ _ _ | show wpAny _ _ (call (Value.ref _) _ _) _ _ _ | show wpAny _ _ (pyIter _) _ _ _ | show wpAny _ _ (call (Value.builtin "len") [Value.ref _]) _ _ _ | show wpAny _ _ (subscriptTail _ _ (Value.ref _) (Value.ref _)) _ _ _ | show wpAny _ _ (compareOp CmpOp.Lt (Value.ref _) (Value.ref _)) _ _ _ | show wpAny _ _ (setItem (Value.ref _) (Value.int _ _) _) _ _ _))); (first | (k_unfold; (try dsimp only)) | (k_end; wrow_close) | walk1 | (dsimp only; walk1) | (leave1; walk_say "STEP leave1"; try dsimp only) | fail "no step")))
          have htp : TupsAre ((D42, tupO (q.price c, [c]) up t13 0) :: more) (vs ++ [Value.ref D42]) (waysOf q n ends (i + 1)) := by
            rw [hwi, hw42]
            exact tups_put hTs D42 (q.price c, [c]) up t13 0
          have hoD : ∀ p ∈ (D42, tupO (q.price c, [c]) up t13 0) :: more, @LT.lt Nat _ p.1 I ∨ @LT.lt Nat _ (I + 4) p.1 := off_D hID hoff
          refine ⟨_, _, _, (lw, listOf (List.toArray (vs ++ [Value.ref D42])) (k + 1)) :: (L' + 1 + 1, oP2) :: (L' + 1, oS2) :: (D42, tupO (q.price c, [c]) up t13 0) :: more, rfl, F44, rotC N44, off5 (off3 hIl hIc1 hIc2 hoD), ⟨.tail _ (.tail _ (.tail _ (.tail _ (hsub _ hmp)))), trivial⟩, ?_⟩
          exact ⟨_, _, oP2, oS2, _, _, _, rfl, dP, dS, htp, fun p hp => .tail _ (hsub p hp), off_E hID hIl hwc1 hwc2 hoff, hIl, m1, m2, m3, m4⟩
        · rename (_ ∈ List.map _ _) => a42
          rename (¬ ((0 : Int) ≤ _)) => c42
          rename (∀ a, a ∈ List.map _ _ → a ≤ _) => b42
          have hall : hasAll ends c = false := Bool.eq_false_iff.mpr fun hx => c42 (min_ge a42 hx)
          have hany : hasAny ends c = false := Bool.eq_false_iff.mpr fun hx => c42 (max_le b42 hx)
          have hw42 : wayOf q n ends c = none := by unfold wayOf Ask.way; rw [hall, hany]; rfl
          rename Fr g' L' _ _ => F45
          rename News g' L' _ _ => N45
          exact ⟨_, _, _, (lw, listOf (List.toArray vs) k) :: (L' + 1 + 1, oP2) :: (L' + 1, oS2) :: more, rfl, F45, drop1 N45, off5 (off3 hIl hIc1 hIc2 fun p hp => (hoff p hp).2.2.2), ⟨.tail _ (.tail _ (.tail _ (hsub _ hmp))), trivial⟩, ⟨vs, k, oP2, oS2, _, _, more, rfl, dP, dS, by rw [hwi, hw42]; simpa using hTs, hsub, hoff, hIl, m1, m2, m3, m4⟩⟩

end
section
theorem wordsF_mem (w n : List Nat) : w ∈ wordsF n ↔ w.Sublist n := by
  have h : ∀ (n : List Nat) (W : List (List Nat)) (x : List Nat), x ∈ n.foldl (fun ws c => ws ++ ws.map (· ++ [c])) W ↔ ∃ a ∈ W, ∃ s, s.Sublist n ∧ x = a ++ s := by
    intro n
    induction n with
    | nil =>
      intro W x
      rw [List.foldl_nil]
      constructor
      · exact fun hx => ⟨x, hx, [], .slnil, by simp⟩
      · rintro ⟨a, ha, s, hs, rfl⟩
        rw [List.sublist_nil.mp hs, List.append_nil]; exact ha
    | cons c r ih =>
      intro W x
      rw [List.foldl_cons, ih]
      constructor
      · rintro ⟨a, ha, s, hs, rfl⟩
        rcases List.mem_append.mp ha with ha | ha
        · exact ⟨a, ha, s, hs.cons c, rfl⟩
        · obtain ⟨b, hb, rfl⟩ := List.mem_map.mp ha
          exact ⟨b, hb, c :: s, hs.cons_cons c, by simp⟩
      · rintro ⟨a, ha, s, hs, rfl⟩
        cases hs with
        | cons _ hs => exact ⟨a, List.mem_append.mpr (.inl ha), s, hs, rfl⟩
        | cons_cons _ hs =>
          rename_i s'
          exact ⟨a ++ [c], List.mem_append.mpr (.inr (List.mem_map.mpr ⟨a, ha, rfl⟩)), s', hs, by simp⟩
  have := h n [[]] w
  simp only [List.mem_singleton, exists_eq_left, List.nil_append, exists_eq_right'] at this
  exact this
theorem takes_words (w n : List Nat) : (!takes w n) = decide (w ∉ wordsF n) := by
  cases h : takes w n with
  | true => rw [decide_eq_false (by rw [wordsF_mem, Classical.not_not]; exact takes_sub h)]; rfl
  | false => rw [decide_eq_true (by rw [wordsF_mem]; intro hs; rw [rest_some_of_sub hs] at h; cases h)]; rfl
/-- the row's last words: it gives back True -/
theorem post_true (ns : List Int) : PySem.Challenge.rw_ku0020_01.row.claim.post [ofPy (PyData.list (List.map PyData.int ns))] (.bool true) [ofPy (PyData.list (List.map PyData.int ns))] = true := by wrow_post
theorem raise_none (ns : List Int) : ∀ cls, PySem.Challenge.rw_ku0020_01.row.claim.raises [ofPy (PyData.list (List.map PyData.int ns))] cls = false := raisesW_false (by wrow_none_raised)

end
section
set_option maxHeartbeats 8000000
theorem pick_to (l : List Value) (k : Nat) : kms_pick l none (some (k : Int)) = l.take k := by
  unfold kms_pick kms_lo kms_hi
  dsimp only
  rw [if_neg (by omega), Int.toNat_natCast, List.drop_zero, Nat.sub_zero, List.take_eq_take_iff]
  omega
theorem pick_from (l : List Value) (k : Nat) : kms_pick l (some (k : Int)) none = l.drop k := by
  unfold kms_pick kms_lo kms_hi
  dsimp only
  rw [if_neg (by omega), Int.toNat_natCast]
  rcases Nat.le_total k l.length with h | h
  · rw [Nat.min_eq_left h, List.take_of_length_le (by rw [List.length_drop]; exact Nat.le_refl _)]
  · rw [Nat.min_eq_right h, Nat.sub_self, List.take_zero, List.drop_eq_nil_of_le h]
section
variable {prog : Program} {w : World} {A : Around} {E : Value → Shared → Prop} {s : Shared} {h₀ : Heap} {L : Addr} {m : Str → Option Value} {news : Led}
theorem new_list {vs : List Value} {Q : Value → Shared → Prop} (F : Fr h₀ L s.heap m) (N : News h₀ L s.heap news) (hsz : vs.length ≤ sizeLine) (h : ∀ D h', Fr h₀ L h' m → News h₀ L h' ((D, listOf vs.toArray 0) :: news) → (∀ p ∈ news, @LT.lt Nat _ p.1 D) → Q (.ref D) { s with heap := h' }) : wpAny (model prog w) A (newList vs) Q E s :=
  wpAny_newList (h _ _ (F.push _) (N.push F _) fun p hp => Heap.lt_size (N p hp).1) hsz
theorem add_two {l b : Addr} {vs ws : List Value} {k j : Nat} {Q : Value → Shared → Prop} (F : Fr h₀ L s.heap m) (N : News h₀ L s.heap news) (hl : (l, listOf vs.toArray k) ∈ news) (hb : (b, listOf ws.toArray j) ∈ news) (hsz : vs.length + ws.length ≤ sizeLine)
    (h : ∀ D h', Fr h₀ L h' m → News h₀ L h' ((D, listOf (vs ++ ws).toArray 0) :: news) → (∀ p ∈ news, @LT.lt Nat _ p.1 D) → Q (.ref D) { s with heap := h' }) : wpAny (model prog w) A (binaryOp .Add (.ref l) (.ref b)) Q E s :=
  add_lists (hsz := hsz) F N (isList_of N hl) (isList_of N hb) fun h' F' N' => h _ h' F' N' fun p hp => Heap.lt_size (N p hp).1
end
theorem keep1 {h₀ h : Heap} {L : Addr} {a b c : Addr × Obj} {more : Led} (N : News h₀ L h (a :: b :: c :: more)) : News h₀ L h (a :: more) := cb_drop N (by ((repeat' (first | exact List.forall_mem_nil _ | refine List.forall_mem_cons.mpr (And.intro ?_ ?_) | assumption | exact List.Mem.head _ | refine List.Mem.tail _ ?_ | (intro p hp; repeat' (first | exact hp | refine List.Mem.tail _ ?_))))))
theorem drop_1 {h₀ h : Heap} {L : Addr} {a : Addr × Obj} {more : Led} (N : News h₀ L h (a :: more)) : News h₀ L h more := cb_drop N fun p hp => .tail _ hp
theorem drop_2 {h₀ h : Heap} {L : Addr} {a b : Addr × Obj} {more : Led} (N : News h₀ L h (a :: b :: more)) : News h₀ L h (a :: more) := cb_drop N (by ((repeat' (first | exact List.forall_mem_nil _ | refine List.forall_mem_cons.mpr (And.intro ?_ ?_) | assumption | exact List.Mem.head _ | refine List.Mem.tail _ ?_ | (intro p hp; repeat' (first | exact hp | refine List.Mem.tail _ ?_))))))
theorem first_of {ys : List Value} {qs : List Int} {n : Nat} (h : IntsAre ys qs) (hl : qs.length = n + 1) : ∃ x t r rs, ys = Value.int x t :: r ∧ IntsAre r rs ∧ rs.length = n := by
  cases h with
  | nil => cases hl
  | cons x t h => exact ⟨x, t, _, _, rfl, h, Nat.succ.inj hl⟩
theorem five_of {ys : List Value} {qs : List Int} (h : IntsAre ys qs) (hl : qs.length = 5) : ∃ x0 x1 x2 x3 x4 t0 t1 t2 t3 t4, ys = [Value.int x0 t0, Value.int x1 t1, Value.int x2 t2, Value.int x3 t3, Value.int x4 t4] := by
  obtain ⟨x0, t0, r0, q0, rfl, h, hl⟩ := first_of h hl
  obtain ⟨x1, t1, r1, q1, rfl, h, hl⟩ := first_of h hl
  obtain ⟨x2, t2, r2, q2, rfl, h, hl⟩ := first_of h hl
  obtain ⟨x3, t3, r3, q3, rfl, h, hl⟩ := first_of h hl
  obtain ⟨x4, t4, r4, q4, rfl, h, hl⟩ := first_of h hl
  obtain rfl := List.length_eq_zero_iff.mp hl
  cases h
  exact ⟨_, _, _, _, _, _, _, _, _, _, rfl⟩
theorem pair_of (r : Nat) (hr : r < 3) (a b c : Tok) : ∃ x0 x1 tp, [Value.str (Str.ofString "*a") a, Value.str (Str.ofString "[?") b, Value.str (Str.ofString "-!") c][r]? = some (Value.str (S [x0, x1]) tp) ∧ x0 ≠ x1 ∧ SixOk [x0, x1] := by
  have six : ∀ x0 x1 : Nat, (x0 = 42 ∨ x0 = 97 ∨ x0 = 91 ∨ x0 = 63 ∨ x0 = 45 ∨ x0 = 33) → (x1 = 42 ∨ x1 = 97 ∨ x1 = 91 ∨ x1 = 63 ∨ x1 = 45 ∨ x1 = 33) → SixOk [x0, x1] := fun x0 x1 h0 h1 y hy => by
    rcases List.mem_cons.mp hy with rfl | hy
    · exact h0
    · rw [List.mem_singleton.mp hy]; exact h1
  match r, hr with
  | 0, _ => exact ⟨42, 97, a, rfl, by decide, six _ _ (by decide) (by decide)⟩
  | 1, _ => exact ⟨91, 63, b, rfl, by decide, six _ _ (by decide) (by decide)⟩
  | 2, _ => exact ⟨45, 33, c, rfl, by decide, six _ _ (by decide) (by decide)⟩
theorem mod_three (n : Nat) : ∃ r : Nat, Int.fmod (n : Int) 3 = (r : Int) ∧ r < 3 := ⟨n % 3, by rw [Int.fmod_eq_emod_of_nonneg _ (by decide)]; omega, Nat.mod_lt _ (by decide)⟩
theorem sign_bit (c0 c1 : Nat) (a : Int) : ∃ y, SignIs [c0, c1] (Builtin.bitAnd a 1) y ∧ (y = c0 ∨ y = c1) := by
  rw [bitAnd_m1]
  rcases (by omega : a % 2 = 0 ∨ a % 2 = 1) with h | h
  · rw [h]; exact ⟨c0, ⟨0, rfl, rfl⟩, .inl rfl⟩
  · rw [h]; exact ⟨c1, ⟨1, rfl, rfl⟩, .inr rfl⟩
theorem flat_sg {c0 c1 : Nat} : ∀ {ws : List (List Nat)}, (∀ w ∈ ws, w = [c0] ∨ w = [c1]) → ws.flatten.length = ws.length ∧ ∀ c ∈ ws.flatten, c = c0 ∨ c = c1
  | [], _ => ⟨rfl, fun c hc => by simp at hc⟩
  | w :: r, h => by
    obtain ⟨h1, h2⟩ := flat_sg (ws := r) fun w hw => h w (.tail _ hw)
    rcases h w (.head _) with rfl | rfl
    · refine ⟨by simp [h1], fun c hc => ?_⟩
      rcases List.mem_cons.mp hc with rfl | hc
      · exact .inl rfl
      · exact h2 c hc
    · refine ⟨by simp [h1], fun c hc => ?_⟩
      rcases List.mem_cons.mp hc with rfl | hc
      · exact .inr rfl
      · exact h2 c hc
theorem names_of {P : List Nat → Prop} : ∀ {ys : List Value}, (∀ (i : Nat) (v : Value), ys[i]? = some v → ∃ n t, v = Value.str (S n) t ∧ P n) → ∃ nms : List (List Nat), StrsAre ys (nms.map S) ∧ nms.length = ys.length ∧ ∀ n ∈ nms, P n
  | [], _ => ⟨[], .nil, rfl, fun n hn => by simp at hn⟩
  | y :: ys, h => by
    obtain ⟨n, t, rfl, hn⟩ := h 0 y rfl
    obtain ⟨nms, h1, h2, h3⟩ := names_of (ys := ys) fun i v hv => h (i + 1) v (by simpa using hv)
    exact ⟨n :: nms, .cons _ t h1, by simp [h2], fun m hm => by
      rcases List.mem_cons.mp hm with rfl | hm
      · exact hn
      · exact h3 m hm⟩
theorem price_of (x : Int) : ∃ p : Nat, (p : Int) = 1 + x.fmod 3 ∧ 0 < p := by
  have h := Int.fmod_eq_emod_of_nonneg x (b := 3) (by decide)
  refine ⟨(1 + x.fmod 3).toNat, ?_, ?_⟩ <;> rw [h] <;> omega
theorem two_of {ys : List Value} {ps : List Nat} (h : IntsAre ys (ps.map fun p : Nat => (p : Int))) (hl : ps.length = 2) (hp : ∀ p ∈ ps, 0 < p) : ∃ p0 p1 u0 u1, ys = [Value.int ((p0 : Nat) : Int) u0, Value.int ((p1 : Nat) : Int) u1] ∧ 0 < p0 ∧ 0 < p1 := by
  match ps, hl with
  | [a, b], _ =>
    cases h with | cons _ t0 h => cases h with | cons _ t1 h => cases h; exact ⟨_, _, _, _, rfl, hp _ (.head _), hp _ (.tail _ (.head _))⟩
theorem drop_24 {h₀ h : Heap} {L : Addr} {a b c d : Addr × Obj} {more : Led} (N : News h₀ L h (a :: b :: c :: d :: more)) : News h₀ L h (a :: c :: more) := cb_drop N (by ((repeat' (first | exact List.forall_mem_nil _ | refine List.forall_mem_cons.mpr (And.intro ?_ ?_) | assumption | exact List.Mem.head _ | refine List.Mem.tail _ ?_ | (intro p hp; repeat' (first | exact hp | refine List.Mem.tail _ ?_))))))
theorem to_front {h₀ h : Heap} {L : Addr} {a b c d e : Addr × Obj} (N : News h₀ L h [a, b, c, d, e]) : News h₀ L h [e, a, b, c, d] := cb_drop N (by ((repeat' (first | exact List.forall_mem_nil _ | refine List.forall_mem_cons.mpr (And.intro ?_ ?_) | assumption | exact List.Mem.head _ | refine List.Mem.tail _ ?_ | (intro p hp; repeat' (first | exact hp | refine List.Mem.tail _ ?_))))))
theorem ne_obj {h₀ h : Heap} {L a b : Addr} {oa ob : Obj} {news : Led} (N : News h₀ L h news) (ha : (a, oa) ∈ news) (hb : (b, ob) ∈ news) (hd : oa ≠ ob) : a ≠ b := fun e => by
  subst e
  have h1 := (N _ ha).1
  rw [(N _ hb).1] at h1
  cases h1
  exact hd rfl
/-- what the search gave, the ledger's order changed -/
def FoundN (q : Ask) (ns : List (List Nat)) (X : Led) (fv : List Value) : Prop :=
  (fv = [] ∧ X = [] ∧ ∀ w, ¬ q.dist ns w) ∨
  ∃ t lf e tu u n vs kf, fv = [Value.ref t, Value.ref lf] ∧ X = [(t, tupO e tu u n), (lf, listOf (List.toArray vs) kf)] ∧ q.best ns e.2 ∧ e = q.ent e.2 ∧ StrsAre vs ((ns.filter (fun n => !takes e.2 n)).map S)
theorem found_norm {q : Ask} {ns : List (List Nat)} {g h : Heap} {L : Addr} {a b c d : Addr × Obj} {r : Value} {news' : Led} (hp : FoundIs q ns [a, b, c, d] r news') (N : News g L h news') :
    ∃ l k fv X ps, r = Value.ref l ∧ TabOk ps ∧ FoundN q ns X fv ∧ News g L h ((l, listOf (List.toArray fv) k) :: (50, tabObj ps) :: a :: b :: c :: d :: X) := by
  obtain ⟨ps, hps, ⟨l, k, rfl, rfl, hno⟩ | ⟨l, k, e, t, tu, u, n, lf, vs, kf, rfl, rfl, hb, he, hv⟩⟩ := hp
  · exact ⟨l, k, [], [], ps, rfl, hps, .inl ⟨rfl, rfl, hno⟩, N⟩
  · exact ⟨l, k, [.ref t, .ref lf], [(t, tupO e tu u n), (lf, listOf (List.toArray vs) kf)], ps, rfl, hps, .inr ⟨t, lf, e, tu, u, n, vs, kf, rfl, rfl, hb, he, hv⟩, cb_drop N (by intro p hp; simp only [List.mem_cons] at hp ⊢; unfold tupO at hp; grind)⟩
theorem due_front {h₀ h : Heap} {L : Addr} {a b c d e f g : Addr × Obj} (N : News h₀ L h [a, b, c, d, e, f, g]) : News h₀ L h [f, a, b, e, c] := cb_drop N (by ((repeat' (first | exact List.forall_mem_nil _ | refine List.forall_mem_cons.mpr (And.intro ?_ ?_) | assumption | exact List.Mem.head _ | refine List.Mem.tail _ ?_ | (intro p hp; repeat' (first | exact hp | refine List.Mem.tail _ ?_))))))
theorem three_of {α : Type} : ∀ {l : List α}, l.length = 3 → ∃ a b c, l = [a, b, c]
  | [a, b, c], _ => ⟨a, b, c, rfl⟩
theorem due_front2 {h₀ h : Heap} {L : Addr} {a b c d e f g i j k : Addr × Obj} (N : News h₀ L h [a, b, c, d, e, f, g, i, j, k]) : News h₀ L h [g, a, b, c, f, d, j, k] := cb_drop N (by ((repeat' (first | exact List.forall_mem_nil _ | refine List.forall_mem_cons.mpr (And.intro ?_ ?_) | assumption | exact List.Mem.head _ | refine List.Mem.tail _ ?_ | (intro p hp; repeat' (first | exact hp | refine List.Mem.tail _ ?_))))))
theorem due_app {h₀ h : Heap} {L : Addr} {z a b c d e f g i : Addr × Obj} (N : News h₀ L h [z, a, b, c, d, e, f, g, i]) : News h₀ L h [b, z, a, c, d, e, f, g, i] := cb_drop N (by ((repeat' (first | exact List.forall_mem_nil _ | refine List.forall_mem_cons.mpr (And.intro ?_ ?_) | assumption | exact List.Mem.head _ | refine List.Mem.tail _ ?_ | (intro p hp; repeat' (first | exact hp | refine List.Mem.tail _ ?_))))))
theorem seq_ne {vs : List Value} {ws : List Str} (h : StrsAre vs ws) {t : Addr} {a b : Nat} (e : Data.seq (List.toArray vs) a = Data.seq #[Value.ref t] b) : False := by
  injection e with e1 _
  have e2 : vs = [Value.ref t] := by simpa using congrArg Array.toList e1
  subst e2
  cases h
theorem tup_ne (h : Value.type "tuple" = Value.type "list") : False := by
  injection h with h
  exact absurd h (by decide)
theorem sne {a b : List Nat} (h : ¬ a = b) : ((S a).cps.toList == (S b).cps.toList) = false := by
  rw [S_list, S_list]
  exact beq_eq_false_iff_ne.mpr h
/-- a found word, its price and the names left, as data -/
def entDat (e : Ent) (ws : List (List Nat)) : List Dat := [.tuple [.int (e.1 : Int), .str (S e.2)], .list ((ws.map S).map Dat.str)]
theorem ent_dat {h₀ h : Heap} {L : Addr} {news : Led} {e : Ent} {t lf : Addr} {tu u : Tok} {n kf : Nat} {vs : List Value} {ws : List (List Nat)} (_N : News h₀ L h news) (ht : (t, tupO e tu u n) ∈ news) (hl : (lf, listOf (List.toArray vs) kf) ∈ news) (hv : StrsAre vs (ws.map S)) :
    DatAll news [Value.ref t, Value.ref lf] (entDat e ws) :=
  .cons (.tuple (vs := [Value.int (e.1 : Int) tu, Value.str (S e.2) u]) (n := n) ht (.cons (.int _ _) (.cons (.str _ _) .nil))) (.cons (.list hl (dat_strs hv)) .nil)
theorem ent_ok {e : Ent} {ws : List (List Nat)} (he : ∀ c ∈ e.2, c < 0x110000) (hw : ∀ w ∈ ws, ∀ c ∈ w, c < 0x110000) : ∀ d ∈ entDat e ws, kqdOk 8 d = true := by
  intro d hd
  rcases List.mem_cons.mp hd with rfl | hd
  · show (kqdOk 7 (.int (e.1 : Int)) && (kqdOk 7 (.str (S e.2)) && true)) = true
    rw [ok_S he 7]; rfl
  · rw [List.mem_singleton.mp hd]
    show List.all _ (kqdOk 7) = true
    refine List.all_eq_true.mpr fun x hx => ?_
    rw [List.map_map] at hx
    obtain ⟨w, hw', rfl⟩ := List.mem_map.mp hx
    exact ok_S (hw w hw') 7
theorem dec_t {p : Prop} {i : Decidable p} (h : p) : @decide p i = true := decide_eq_true h
theorem dec_f {p : Prop} {i : Decidable p} (h : ¬ p) : @decide p i = false := decide_eq_false h
theorem well_said : OpenLaw.wellSaid PySem.Challenge.rw_ku0020_01 = true := by kernel_rfl
theorem law_holds : PySem.Challenge.rw_ku0020_01.Holds := by
  w_on
  refine holds_law well_said fun said => ?_
  refine holds_open (q := view) (loose := looseN) (Xt := fun s => xlAt view [] s && recOk (RowW.records rowW) s) (XP := XL view []) (Yf := Hook.obs (kHook K kAs (fun _ => by kernel_rfl))) (Ya := Hook.val (kHook K kAs (fun _ => by kernel_rfl))) (YP := Hook.says (kHook K kAs (fun _ => by kernel_rfl))) (N := 4318) p_left (Hook.of H) (Hook.keeps H) (fun s e => xl_of s (Bool.and_eq_true_iff.mp e).1) XL.keeps (by rfl) (by rfl) (by rfl) (fun s e => recFacts_of (Bool.and_eq_true_iff.mp e).2) (by rfl) (by first | assumption | decide +kernel) (by decide +kernel) ⟨rfl, rfl, rfl, rfl, rfl, by decide +kernel⟩ ?hw ?hc
  case hw => w_witness2
  w_strict k_go0
  (try k_fold)
  rename_i w s0 s1 mg mb G Y fa ow pm cd doc ho hcd hg XM V T0 B0 TE TW ns hs hlay hL1 hr1 hl2 as1 as2 sl svs as3 hLs ra w1 r0 hI hr hlen htr hDf hp1 tk1 oD oP dD dP hCA X T B F0 N0 l0
  have hF : ∃ m1, m1 (Str.ofString "script") = some (Value.ref sl) ∧ Fr (ghostOf s1.heap [(54, 50)]) s1.heap.objs.size hp1 m1 := by
    refine ⟨_, ?_, F0⟩
    rfl
  have hC : CodeHd (ghostOf s1.heap [(54, 50)]) 54 50 := codeHd
  have hO : ∃ oD oP : Obj, oD.data = Data.cell none ∧ oP.data = Data.cell none ∧ News (ghostOf s1.heap [(54, 50)]) s1.heap.objs.size hp1 [(s1.heap.objs.size + 1 + 1, oD), (s1.heap.objs.size + 1, oP), (50, tabObj #[])] := ⟨oD, oP, dD, dP, N0⟩
  clear F0 N0 hCA dD dP hDf hcd ho codeHd oD oP
  obtain ⟨m1, hm1, F1⟩ := hF
  have hab := F1.above
  obtain ⟨oD, oP, dD, dP, N1⟩ := hO
  clear G Y XM V T0 B0 TE TW hT9 hs hlay hL1 hr1 hl2 hLs ra w1 r0 hr htr


  have hT : ∃ loose mean, Top topProg loose mean mg mb (ghostOf s1.heap [(54, 50)]) := ⟨_, _, T⟩
  clear T
  obtain ⟨loose, mean, T⟩ := hT
  have hlen2 : svs.length ≤ 63 := by rw [hI.length]; omega
  (repeat' ((fail_if_success (with_reducible show wpAny _ _ (subscriptTail _ _ (Value.ref _) (Value.int _ _)) _ _ _)); ((fail_if_success (with_reducible first | show wpAny _ _ (exec (Stmt.For _ _ _ _ _) _) _ _ _ | show wpAny _ _ (exec (Stmt.While _ _ _ _) _) _ _ _ | show wpAny _ _ (eval (Expr.ListComp _ _ _ _) _) _ _ _ | show wpAny _ _ (eval (Expr.Dict _ _ _) _) _ _ _ | show wpAny _ _ (binaryOp _ _ (Value.str (S (List.flatten _)) _)) _ _ _ | show wpAny _ _ (exec (Stmt.Assign _ (Expr.ListComp _ _ _ _) _) _) _ _ _ | show wpAny _ _ (call (Value.ref _) _ _) _ _ _ | show wpAny _ _ (pyIter _) _ _ _ | show wpAny _ _ (call (Value.builtin "len") [Value.ref _]) _ _ _ | show wpAny _ _ (subscriptTail _ _ (Value.ref _) (Value.ref _)) _ _ _ | show wpAny _ _ (compareOp CmpOp.Lt (Value.ref _) (Value.ref _)) _ _ _ | show wpAny _ _ (setItem (Value.ref _) (Value.int _ _) _) _ _ _))); (first | (k_unfold; (try dsimp only)) | (k_end; wrow_close) | walk1 | (dsimp only; walk1) | (leave1; walk_say "STEP leave1"; try dsimp only) | fail "no step")))
  k_dflt (refine LCg.Assign_ListComp_U (F₀ := by k_asm) (by rfl) (by with_unfolding_all rfl) (by with_unfolding_all rfl) (by decide) (by rfl) (by decide) (by rfl) (by rfl) (by rfl) ?_)
  (repeat' ((fail_if_success (with_reducible show wpAny _ _ (subscriptTail _ _ (Value.ref _) (Value.int _ _)) _ _ _)); ((fail_if_success (with_reducible first | show wpAny _ _ (exec (Stmt.For _ _ _ _ _) _) _ _ _ | show wpAny _ _ (exec (Stmt.While _ _ _ _) _) _ _ _ | show wpAny _ _ (eval (Expr.ListComp _ _ _ _) _) _ _ _ | show wpAny _ _ (eval (Expr.Dict _ _ _) _) _ _ _ | show wpAny _ _ (binaryOp _ _ (Value.str (S (List.flatten _)) _)) _ _ _ | show wpAny _ _ (exec (Stmt.Assign _ (Expr.ListComp _ _ _ _) _) _) _ _ _ | show wpAny _ _ (call (Value.ref _) _ _) _ _ _ | show wpAny _ _ (pyIter _) _ _ _ | show wpAny _ _ (call (Value.builtin "len") [Value.ref _]) _ _ _ | show wpAny _ _ (subscriptTail _ _ (Value.ref _) (Value.ref _)) _ _ _ | show wpAny _ _ (compareOp CmpOp.Lt (Value.ref _) (Value.ref _)) _ _ _ | show wpAny _ _ (setItem (Value.ref _) (Value.int _ _) _) _ _ _))); (first | (k_unfold; (try dsimp only)) | (k_end; wrow_close) | walk1 | (dsimp only; walk1) | (leave1; walk_say "STEP leave1"; try dsimp only) | fail "no step")))
  refine kms_slice_lit (s := ⟨_, _, _, _, _⟩) F1 N1 (lifted.at fun o e => F1.keep _ _ e) .none (.int _ _) (by exact pick_to svs 5) (fun D2 h2 F2 N2 l2 => ?_) (by with_unfolding_all rfl) (fun _ => rfl) (by rw [List.size_toArray, sizeLine_eq]; omega)
  clear F1 N1
  clear l2
  iterate 12 (((fail_if_success (with_reducible first | show wpAny _ _ (exec (Stmt.For _ _ _ _ _) _) _ _ _ | show wpAny _ _ (exec (Stmt.While _ _ _ _) _) _ _ _ | show wpAny _ _ (eval (Expr.ListComp _ _ _ _) _) _ _ _ | show wpAny _ _ (eval (Expr.Dict _ _ _) _) _ _ _ | show wpAny _ _ (binaryOp _ _ (Value.str (S (List.flatten _)) _)) _ _ _ | show wpAny _ _ (exec (Stmt.Assign _ (Expr.ListComp _ _ _ _) _) _) _ _ _ | show wpAny _ _ (call (Value.ref _) _ _) _ _ _ | show wpAny _ _ (pyIter _) _ _ _ | show wpAny _ _ (call (Value.builtin "len") [Value.ref _]) _ _ _ | show wpAny _ _ (subscriptTail _ _ (Value.ref _) (Value.ref _)) _ _ _ | show wpAny _ _ (compareOp CmpOp.Lt (Value.ref _) (Value.ref _)) _ _ _ | show wpAny _ _ (setItem (Value.ref _) (Value.int _ _) _) _ _ _))); (first | (k_unfold; (try dsimp only)) | (k_end; wrow_close) | walk1 | (dsimp only; walk1) | (leave1; walk_say "STEP leave1"; try dsimp only) | fail "no step"))
  refine new_list F2 N2 (by rw [sizeLine_eq]; exact Nat.le_of_ble_eq_true rfl) fun D3 h3 F3 N3 l3 => ?_
  clear F2 N2
  refine add_two F3 N3 (.tail _ (.head _)) (.head _) ?_ fun D4 h4 F4 N4 l4 => ?_
  · rw [List.length_take, sizeLine_eq]; exact Nat.le_trans (Nat.add_le_add_right (Nat.min_le_left _ _) _) (Nat.le_of_ble_eq_true rfl)
  clear F3 N3 l3
  clear l4
  replace N4 := keep1 N4
  (repeat' ((fail_if_success (with_reducible show wpAny _ _ (compareOp CmpOp.NotIn (Value.str _ _) (Value.ref _)) _ _ _)); (fail_if_success (with_reducible show wpAny _ _ (call (Value.builtin "list.append") _) _ _ _)); (fail_if_success (with_reducible show wpAny _ _ (newList (_ :: _)) _ _ _)); (fail_if_success (with_reducible show wpAny _ _ (subscriptTail _ _ _ (Value.int _ _)) _ _ _)); (fail_if_success (with_reducible show wpAny _ _ (binaryOp _ (Value.ref _) (Value.ref _)) _ _ _)); (fail_if_success (with_reducible show wpAny _ _ (binaryOp _ (Value.str _ _) (Value.str _ _)) _ _ _)); (fail_if_success (with_reducible show wpAny _ _ (compareOp CmpOp.Eq (Value.ref _) (Value.ref _)) _ _ _)); ((fail_if_success (with_reducible first | show wpAny _ _ (exec (Stmt.For _ _ _ _ _) _) _ _ _ | show wpAny _ _ (exec (Stmt.While _ _ _ _) _) _ _ _ | show wpAny _ _ (eval (Expr.ListComp _ _ _ _) _) _ _ _ | show wpAny _ _ (eval (Expr.Dict _ _ _) _) _ _ _ | show wpAny _ _ (binaryOp _ _ (Value.str (S (List.flatten _)) _)) _ _ _ | show wpAny _ _ (exec (Stmt.Assign _ (Expr.ListComp _ _ _ _) _) _) _ _ _ | show wpAny _ _ (call (Value.ref _) _ _) _ _ _ | show wpAny _ _ (pyIter _) _ _ _ | show wpAny _ _ (call (Value.builtin "len") [Value.ref _]) _ _ _ | show wpAny _ _ (subscriptTail _ _ (Value.ref _) (Value.ref _)) _ _ _ | show wpAny _ _ (compareOp CmpOp.Lt (Value.ref _) (Value.ref _)) _ _ _ | show wpAny _ _ (setItem (Value.ref _) (Value.int _ _) _) _ _ _))); (first | (k_unfold; (try dsimp only)) | (k_end; wrow_close) | walk1 | (dsimp only; walk1) | (leave1; walk_say "STEP leave1"; try dsimp only) | fail "no step")))
  refine kba_turn (value' := PySem.Expr.Name (PySem.Str.ofString "_") ⟨0, 0, 0, 0⟩) (fun _ => rfl) ?_
  refine kms_slice_lit (s := ⟨_, _, _, _, _⟩) F4 N4 (isList_of N4 (.head _)) .none (.int _ _) (by exact pick_to _ 5) (fun D5 h5 F5 N5 l5 => ?_) (by with_unfolding_all rfl) (fun _ => rfl) (by rw [List.size_toArray, List.length_append, List.length_take, sizeLine_eq]; exact Nat.le_trans (Nat.add_le_add_right (Nat.min_le_left _ _) _) (Nat.le_of_ble_eq_true rfl))
  clear F4 N4 l5
  replace N5 := drop_2 N5
  have hul : ((ns.take 5 ++ [5, 13, 9, 2, 0]).take 5).length = 5 := by simp
  have hx5 : ∃ us, IntsAre us ((ns.take 5 ++ [5, 13, 9, 2, 0]).take 5) ∧ News (ghostOf s1.heap [(54, 50)]) s1.heap.objs.size h5 [(D5, listOf (List.toArray us) 0), (s1.heap.objs.size + 1 + 1, oD), (s1.heap.objs.size + 1, oP), (50, tabObj #[])] :=
    ⟨_, ((hI.take 5).append (.cons _ _ (.cons _ _ (.cons _ _ (.cons _ _ (.cons _ _ .nil)))))).take 5, N5⟩
  clear N5
  obtain ⟨us, hus, N5⟩ := hx5
  have hks : ∃ ks, (ns.take 5 ++ [5, 13, 9, 2, 0]).take 5 = ks := ⟨_, rfl⟩
  obtain ⟨ks, hks⟩ := hks
  rw [hks] at hus hul
  have husl : us.length = 5 := by rw [hus.length, hul]
  refine LCg.CompSrc.ledger rfl F5 N5 (.head _) (by rw [List.size_toArray, husl, sizeLine_eq]; decide) fun g2 => ?_
  refine rest_J (fun j ys nw => nw = [(D5, listOf (List.toArray us) 0), (s1.heap.objs.size + 1 + 1, oD), (s1.heap.objs.size + 1, oP), (50, tabObj #[])] ∧ ∃ qs, IntsAre ys qs ∧ qs.length = j) ?_ ?_ ⟨rfl, [], .nil, rfl⟩
  · intro j v ys2 nw I2 oI2 C oC D2 m₂ h tk E' hj hv2 hJ hoC hx F6 N6 off hne5
    obtain ⟨rfl, qs, hqs, hql⟩ := hJ
    obtain ⟨x, t, rfl, hxs⟩ := ints_item hus j v (by simpa using hv2)
    clear F5 N5
    (repeat' ((fail_if_success (with_reducible show wpAny _ _ (compareOp CmpOp.NotIn (Value.str _ _) (Value.ref _)) _ _ _)); (fail_if_success (with_reducible show wpAny _ _ (call (Value.builtin "list.append") _) _ _ _)); (fail_if_success (with_reducible show wpAny _ _ (newList (_ :: _)) _ _ _)); (fail_if_success (with_reducible show wpAny _ _ (subscriptTail _ _ _ (Value.int _ _)) _ _ _)); (fail_if_success (with_reducible show wpAny _ _ (binaryOp _ (Value.ref _) (Value.ref _)) _ _ _)); (fail_if_success (with_reducible show wpAny _ _ (binaryOp _ (Value.str _ _) (Value.str _ _)) _ _ _)); (fail_if_success (with_reducible show wpAny _ _ (compareOp CmpOp.Eq (Value.ref _) (Value.ref _)) _ _ _)); ((fail_if_success (with_reducible first | show wpAny _ _ (exec (Stmt.For _ _ _ _ _) _) _ _ _ | show wpAny _ _ (exec (Stmt.While _ _ _ _) _) _ _ _ | show wpAny _ _ (eval (Expr.ListComp _ _ _ _) _) _ _ _ | show wpAny _ _ (eval (Expr.Dict _ _ _) _) _ _ _ | show wpAny _ _ (binaryOp _ _ (Value.str (S (List.flatten _)) _)) _ _ _ | show wpAny _ _ (exec (Stmt.Assign _ (Expr.ListComp _ _ _ _) _) _) _ _ _ | show wpAny _ _ (call (Value.ref _) _ _) _ _ _ | show wpAny _ _ (pyIter _) _ _ _ | show wpAny _ _ (call (Value.builtin "len") [Value.ref _]) _ _ _ | show wpAny _ _ (subscriptTail _ _ (Value.ref _) (Value.ref _)) _ _ _ | show wpAny _ _ (compareOp CmpOp.Lt (Value.ref _) (Value.ref _)) _ _ _ | show wpAny _ _ (setItem (Value.ref _) (Value.int _ _) _) _ _ _))); (first | (k_unfold; (try dsimp only)) | (k_end; wrow_close) | walk1 | (dsimp only; walk1) | (leave1; walk_say "STEP leave1"; try dsimp only) | fail "no step")))
    exact comp_same (by k_asm) (by k_asm) off (.inr ⟨_, .head _, rfl, _, rfl⟩) ⟨rfl, _, ints_put hqs _, by rw [List.length_append, hql]; rfl⟩
  · intro ys2 nw hJ
    obtain ⟨rfl, qs, hqs, hql⟩ := hJ
    rw [List.size_toArray, husl] at hql
    obtain ⟨x0, x1, x2, x3, x4, t0, t1, t2, t3, t4, rfl⟩ := five_of hqs hql
    clear hqs hql
    intro D6 h6 tk6 F6 N6 o6
    replace N6 := drop_2 N6
    have ho2 : s1.heap.objs.size + 1 + 1 ≠ D6 := o6.2.1
    have ho1 : s1.heap.objs.size + 1 ≠ D6 := o6.2.2.1
    have ho5 : 50 ≠ D6 := o6.2.2.2.1
    clear F5 N5 o6 hul hks
    dsimp only
    (repeat' ((fail_if_success (with_reducible show wpAny _ _ (compareOp CmpOp.NotIn (Value.str _ _) (Value.ref _)) _ _ _)); (fail_if_success (with_reducible show wpAny _ _ (call (Value.builtin "list.append") _) _ _ _)); (fail_if_success (with_reducible show wpAny _ _ (newList (_ :: _)) _ _ _)); (fail_if_success (with_reducible show wpAny _ _ (subscriptTail _ _ _ (Value.int _ _)) _ _ _)); (fail_if_success (with_reducible show wpAny _ _ (binaryOp _ (Value.ref _) (Value.ref _)) _ _ _)); (fail_if_success (with_reducible show wpAny _ _ (binaryOp _ (Value.str _ _) (Value.str _ _)) _ _ _)); (fail_if_success (with_reducible show wpAny _ _ (compareOp CmpOp.Eq (Value.ref _) (Value.ref _)) _ _ _)); ((fail_if_success (with_reducible first | show wpAny _ _ (exec (Stmt.For _ _ _ _ _) _) _ _ _ | show wpAny _ _ (exec (Stmt.While _ _ _ _) _) _ _ _ | show wpAny _ _ (eval (Expr.ListComp _ _ _ _) _) _ _ _ | show wpAny _ _ (eval (Expr.Dict _ _ _) _) _ _ _ | show wpAny _ _ (binaryOp _ _ (Value.str (S (List.flatten _)) _)) _ _ _ | show wpAny _ _ (exec (Stmt.Assign _ (Expr.ListComp _ _ _ _) _) _) _ _ _ | show wpAny _ _ (call (Value.ref _) _ _) _ _ _ | show wpAny _ _ (pyIter _) _ _ _ | show wpAny _ _ (call (Value.builtin "len") [Value.ref _]) _ _ _ | show wpAny _ _ (subscriptTail _ _ (Value.ref _) (Value.ref _)) _ _ _ | show wpAny _ _ (compareOp CmpOp.Lt (Value.ref _) (Value.ref _)) _ _ _ | show wpAny _ _ (setItem (Value.ref _) (Value.int _ _) _) _ _ _))); (first | (k_unfold; (try dsimp only)) | (k_end; wrow_close) | walk1 | (dsimp only; walk1) | (leave1; walk_say "STEP leave1"; try dsimp only) | fail "no step")))
    refine new_list F6 N6 (by rw [sizeLine_eq]; exact Nat.le_of_ble_eq_true rfl) fun D7 h7 F7 N7 l7 => ?_
    clear F6 N6
    (repeat' ((fail_if_success (with_reducible show wpAny _ _ (compareOp CmpOp.NotIn (Value.str _ _) (Value.ref _)) _ _ _)); (fail_if_success (with_reducible show wpAny _ _ (call (Value.builtin "list.append") _) _ _ _)); (fail_if_success (with_reducible show wpAny _ _ (newList (_ :: _)) _ _ _)); (fail_if_success (with_reducible show wpAny _ _ (subscriptTail _ _ _ (Value.int _ _)) _ _ _)); (fail_if_success (with_reducible show wpAny _ _ (binaryOp _ (Value.ref _) (Value.ref _)) _ _ _)); (fail_if_success (with_reducible show wpAny _ _ (binaryOp _ (Value.str _ _) (Value.str _ _)) _ _ _)); (fail_if_success (with_reducible show wpAny _ _ (compareOp CmpOp.Eq (Value.ref _) (Value.ref _)) _ _ _)); ((fail_if_success (with_reducible first | show wpAny _ _ (exec (Stmt.For _ _ _ _ _) _) _ _ _ | show wpAny _ _ (exec (Stmt.While _ _ _ _) _) _ _ _ | show wpAny _ _ (eval (Expr.ListComp _ _ _ _) _) _ _ _ | show wpAny _ _ (eval (Expr.Dict _ _ _) _) _ _ _ | show wpAny _ _ (binaryOp _ _ (Value.str (S (List.flatten _)) _)) _ _ _ | show wpAny _ _ (exec (Stmt.Assign _ (Expr.ListComp _ _ _ _) _) _) _ _ _ | show wpAny _ _ (call (Value.ref _) _ _) _ _ _ | show wpAny _ _ (pyIter _) _ _ _ | show wpAny _ _ (call (Value.builtin "len") [Value.ref _]) _ _ _ | show wpAny _ _ (subscriptTail _ _ (Value.ref _) (Value.ref _)) _ _ _ | show wpAny _ _ (compareOp CmpOp.Lt (Value.ref _) (Value.ref _)) _ _ _ | show wpAny _ _ (setItem (Value.ref _) (Value.int _ _) _) _ _ _))); (first | (k_unfold; (try dsimp only)) | (k_end; wrow_close) | walk1 | (dsimp only; walk1) | (leave1; walk_say "STEP leave1"; try dsimp only) | fail "no step")))
    refine len_list (lifted.at fun o e => F7.keep _ _ e) (by rw [List.size_toArray]; omega) ?_
    (repeat' ((fail_if_success (with_reducible show wpAny _ _ (compareOp CmpOp.NotIn (Value.str _ _) (Value.ref _)) _ _ _)); (fail_if_success (with_reducible show wpAny _ _ (call (Value.builtin "list.append") _) _ _ _)); (fail_if_success (with_reducible show wpAny _ _ (newList (_ :: _)) _ _ _)); (fail_if_success (with_reducible show wpAny _ _ (subscriptTail _ _ _ (Value.int _ _)) _ _ _)); (fail_if_success (with_reducible show wpAny _ _ (binaryOp _ (Value.ref _) (Value.ref _)) _ _ _)); (fail_if_success (with_reducible show wpAny _ _ (binaryOp _ (Value.str _ _) (Value.str _ _)) _ _ _)); (fail_if_success (with_reducible show wpAny _ _ (compareOp CmpOp.Eq (Value.ref _) (Value.ref _)) _ _ _)); ((fail_if_success (with_reducible first | show wpAny _ _ (exec (Stmt.For _ _ _ _ _) _) _ _ _ | show wpAny _ _ (exec (Stmt.While _ _ _ _) _) _ _ _ | show wpAny _ _ (eval (Expr.ListComp _ _ _ _) _) _ _ _ | show wpAny _ _ (eval (Expr.Dict _ _ _) _) _ _ _ | show wpAny _ _ (binaryOp _ _ (Value.str (S (List.flatten _)) _)) _ _ _ | show wpAny _ _ (exec (Stmt.Assign _ (Expr.ListComp _ _ _ _) _) _) _ _ _ | show wpAny _ _ (call (Value.ref _) _ _) _ _ _ | show wpAny _ _ (pyIter _) _ _ _ | show wpAny _ _ (call (Value.builtin "len") [Value.ref _]) _ _ _ | show wpAny _ _ (subscriptTail _ _ (Value.ref _) (Value.ref _)) _ _ _ | show wpAny _ _ (compareOp CmpOp.Lt (Value.ref _) (Value.ref _)) _ _ _ | show wpAny _ _ (setItem (Value.ref _) (Value.int _ _) _) _ _ _))); (first | (k_unfold; (try dsimp only)) | (k_end; wrow_close) | walk1 | (dsimp only; walk1) | (leave1; walk_say "STEP leave1"; try dsimp only) | fail "no step")))
    obtain ⟨r, hr, hr3⟩ := mod_three svs.toArray.size
    rw [hr]
    obtain ⟨c0, c1, tp, hcp, hc01, hs6⟩ := pair_of r hr3 tk6 (tk6 + 1) (tk6 + 1 + 1)
    refine item_L N7 (.head _) (Nat.le_of_ble_eq_true rfl) (List.getElem?_toArray.trans hcp) ?_
    clear hcp hr hr3
    replace N7 := drop_1 N7
    clear l7
    (repeat' ((fail_if_success (with_reducible show wpAny _ _ (compareOp CmpOp.NotIn (Value.str _ _) (Value.ref _)) _ _ _)); (fail_if_success (with_reducible show wpAny _ _ (call (Value.builtin "list.append") _) _ _ _)); (fail_if_success (with_reducible show wpAny _ _ (newList (_ :: _)) _ _ _)); (fail_if_success (with_reducible show wpAny _ _ (subscriptTail _ _ _ (Value.int _ _)) _ _ _)); (fail_if_success (with_reducible show wpAny _ _ (binaryOp _ (Value.ref _) (Value.ref _)) _ _ _)); (fail_if_success (with_reducible show wpAny _ _ (binaryOp _ (Value.str _ _) (Value.str _ _)) _ _ _)); (fail_if_success (with_reducible show wpAny _ _ (compareOp CmpOp.Eq (Value.ref _) (Value.ref _)) _ _ _)); ((fail_if_success (with_reducible first | show wpAny _ _ (exec (Stmt.For _ _ _ _ _) _) _ _ _ | show wpAny _ _ (exec (Stmt.While _ _ _ _) _) _ _ _ | show wpAny _ _ (eval (Expr.ListComp _ _ _ _) _) _ _ _ | show wpAny _ _ (eval (Expr.Dict _ _ _) _) _ _ _ | show wpAny _ _ (binaryOp _ _ (Value.str (S (List.flatten _)) _)) _ _ _ | show wpAny _ _ (exec (Stmt.Assign _ (Expr.ListComp _ _ _ _) _) _) _ _ _ | show wpAny _ _ (call (Value.ref _) _ _) _ _ _ | show wpAny _ _ (pyIter _) _ _ _ | show wpAny _ _ (call (Value.builtin "len") [Value.ref _]) _ _ _ | show wpAny _ _ (subscriptTail _ _ (Value.ref _) (Value.ref _)) _ _ _ | show wpAny _ _ (compareOp CmpOp.Lt (Value.ref _) (Value.ref _)) _ _ _ | show wpAny _ _ (setItem (Value.ref _) (Value.int _ _) _) _ _ _))); (first | (k_unfold; (try dsimp only)) | (k_end; wrow_close) | walk1 | (dsimp only; walk1) | (leave1; walk_say "STEP leave1"; try dsimp only) | fail "no step")))
    k_dflt (refine Assign_comp_C (_F₀ := by k_asm) (by with_unfolding_all rfl) (by with_unfolding_all rfl) (by rfl) (by decide) ?_)
    (repeat' ((fail_if_success (with_reducible show wpAny _ _ (compareOp CmpOp.NotIn (Value.str _ _) (Value.ref _)) _ _ _)); (fail_if_success (with_reducible show wpAny _ _ (call (Value.builtin "list.append") _) _ _ _)); (fail_if_success (with_reducible show wpAny _ _ (newList (_ :: _)) _ _ _)); (fail_if_success (with_reducible show wpAny _ _ (subscriptTail _ _ _ (Value.int _ _)) _ _ _)); (fail_if_success (with_reducible show wpAny _ _ (binaryOp _ (Value.ref _) (Value.ref _)) _ _ _)); (fail_if_success (with_reducible show wpAny _ _ (binaryOp _ (Value.str _ _) (Value.str _ _)) _ _ _)); (fail_if_success (with_reducible show wpAny _ _ (compareOp CmpOp.Eq (Value.ref _) (Value.ref _)) _ _ _)); ((fail_if_success (with_reducible first | show wpAny _ _ (exec (Stmt.For _ _ _ _ _) _) _ _ _ | show wpAny _ _ (exec (Stmt.While _ _ _ _) _) _ _ _ | show wpAny _ _ (eval (Expr.ListComp _ _ _ _) _) _ _ _ | show wpAny _ _ (eval (Expr.Dict _ _ _) _) _ _ _ | show wpAny _ _ (binaryOp _ _ (Value.str (S (List.flatten _)) _)) _ _ _ | show wpAny _ _ (exec (Stmt.Assign _ (Expr.ListComp _ _ _ _) _) _) _ _ _ | show wpAny _ _ (call (Value.ref _) _ _) _ _ _ | show wpAny _ _ (pyIter _) _ _ _ | show wpAny _ _ (call (Value.builtin "len") [Value.ref _]) _ _ _ | show wpAny _ _ (subscriptTail _ _ (Value.ref _) (Value.ref _)) _ _ _ | show wpAny _ _ (compareOp CmpOp.Lt (Value.ref _) (Value.ref _)) _ _ _ | show wpAny _ _ (setItem (Value.ref _) (Value.int _ _) _) _ _ _))); (first | (k_unfold; (try dsimp only)) | (k_end; wrow_close) | walk1 | (dsimp only; walk1) | (leave1; walk_say "STEP leave1"; try dsimp only) | fail "no step")))
    rename_i h8 oP8 F8 N8 dP8
    refine kms_slice_lit (s := ⟨_, _, _, _, _⟩) (zs := [Value.int x0 t0, Value.int x1 t1, Value.int x2 t2]) F8 N8 (isList_of N8 (.head _)) .none (.int _ _) (pick_to _ 3) (fun D9 h9 F9 N9 l9 => ?_) (by with_unfolding_all rfl) (fun _ => rfl) (by rw [sizeLine_eq]; exact Nat.le_of_ble_eq_true rfl)
    clear F8 N8 l9
    refine CSrc.ledger (its := (List.toArray [Value.int x0 t0, Value.int x1 t1, Value.int x2 t2])) (fun _ v => ∃ n t, v = .str (S n) t ∧ n.length = 4 ∧ ∀ c ∈ n, c = c0 ∨ c = c1) (fun _ _ => rfl) (fun _ => rfl) (by rfl) (by with_unfolding_all rfl) (by rfl) (by rfl) rfl F9 N9 (.head _) rfl rfl (by rw [sizeLine_eq]; exact Nat.le_of_ble_eq_true rfl) ?turn9 ?fin9
    case turn9 =>
      intro i v I oI C oC c oc D ys m₂ h tk E' hv hoC hoc F10 N10 hlt10
      clear F9 N9 hlt10
      obtain ⟨x, tx, rfl, _⟩ := ints_item (.cons x0 t0 (.cons x1 t1 (.cons x2 t2 .nil))) i v (by simpa using hv)
      (repeat' ((fail_if_success (with_reducible show wpAny _ _ (compareOp CmpOp.NotIn (Value.str _ _) (Value.ref _)) _ _ _)); (fail_if_success (with_reducible show wpAny _ _ (call (Value.builtin "list.append") _) _ _ _)); (fail_if_success (with_reducible show wpAny _ _ (newList (_ :: _)) _ _ _)); (fail_if_success (with_reducible show wpAny _ _ (subscriptTail _ _ _ (Value.int _ _)) _ _ _)); (fail_if_success (with_reducible show wpAny _ _ (binaryOp _ (Value.ref _) (Value.ref _)) _ _ _)); (fail_if_success (with_reducible show wpAny _ _ (binaryOp _ (Value.str _ _) (Value.str _ _)) _ _ _)); (fail_if_success (with_reducible show wpAny _ _ (compareOp CmpOp.Eq (Value.ref _) (Value.ref _)) _ _ _)); ((fail_if_success (with_reducible first | show wpAny _ _ (exec (Stmt.For _ _ _ _ _) _) _ _ _ | show wpAny _ _ (exec (Stmt.While _ _ _ _) _) _ _ _ | show wpAny _ _ (eval (Expr.ListComp _ _ _ _) _) _ _ _ | show wpAny _ _ (eval (Expr.Dict _ _ _) _) _ _ _ | show wpAny _ _ (binaryOp _ _ (Value.str (S (List.flatten _)) _)) _ _ _ | show wpAny _ _ (exec (Stmt.Assign _ (Expr.ListComp _ _ _ _) _) _) _ _ _ | show wpAny _ _ (call (Value.ref _) _ _) _ _ _ | show wpAny _ _ (pyIter _) _ _ _ | show wpAny _ _ (call (Value.builtin "len") [Value.ref _]) _ _ _ | show wpAny _ _ (subscriptTail _ _ (Value.ref _) (Value.ref _)) _ _ _ | show wpAny _ _ (compareOp CmpOp.Lt (Value.ref _) (Value.ref _)) _ _ _ | show wpAny _ _ (setItem (Value.ref _) (Value.int _ _) _) _ _ _))); (first | (k_unfold; (try dsimp only)) | (k_end; wrow_close) | walk1 | (dsimp only; walk1) | (leave1; walk_say "STEP leave1"; try dsimp only) | fail "no step")))
      k_dflt (refine LCg.ListComp_U (F₀ := by k_asm) (by with_unfolding_all rfl) (by decide) (by rfl) (by decide) (by rfl) ?_)
      (first | (k_unfold; (try dsimp only)) | (k_end; wrow_close) | walk1 | (dsimp only; walk1) | (leave1; walk_say "STEP leave1"; try dsimp only) | fail "no step")
      refine LCgL.ld_built F10 X T (by k_is) PyProof.Rows.Boot.range (by decide) ?_
      iterate 4 ((first | (k_unfold; (try dsimp only)) | (k_end; wrow_close) | walk1 | (dsimp only; walk1) | (leave1; walk_say "STEP leave1"; try dsimp only) | fail "no step"))
      refine range1_rows F10 N10 fun h11 tk11 r1 r2 r3 hr F11 N11 _ => ?_
      clear F10 N10
      refine LCg.CompSrc.range (n := 4) rfl F11 N11 hr (by decide) (by rfl) (by rw [sizeLine_eq]; decide) fun g12 => ?_
      refine rest_J (fun j zs nw => nw = [(I, oI), (C, oC), (c, oc), (D, LCg.lst ys), (D9, listOf (List.toArray [Value.int x0 t0, Value.int x1 t1, Value.int x2 t2]) 0), (D6, LCg.lst [Value.int x0 t0, Value.int x1 t1, Value.int x2 t2, Value.int x3 t3, Value.int x4 t4]), (s1.heap.objs.size + 1 + 1, oD), (s1.heap.objs.size + 1, oP8), (50, tabObj #[])] ∧ ∃ ws : List (List Nat), StrsAre zs (ws.map S) ∧ ws.length = j ∧ ∀ w ∈ ws, w = [c0] ∨ w = [c1]) ?_ ?_ ⟨rfl, [], .nil, rfl, by simp⟩
      · intro j v zs nw I2 oI2 C2 oC2 D2 m3 h tk E' hj hv2 hJ hoC2 hx F12 N12 off hne5
        obtain ⟨rfl, ws, hws, hwl, hwc⟩ := hJ
        obtain ⟨t12, rfl⟩ := hv2
        clear F11 N11
        (repeat' ((fail_if_success (with_reducible show wpAny _ _ (compareOp CmpOp.NotIn (Value.str _ _) (Value.ref _)) _ _ _)); (fail_if_success (with_reducible show wpAny _ _ (call (Value.builtin "list.append") _) _ _ _)); (fail_if_success (with_reducible show wpAny _ _ (newList (_ :: _)) _ _ _)); (fail_if_success (with_reducible show wpAny _ _ (subscriptTail _ _ _ (Value.int _ _)) _ _ _)); (fail_if_success (with_reducible show wpAny _ _ (binaryOp _ (Value.ref _) (Value.ref _)) _ _ _)); (fail_if_success (with_reducible show wpAny _ _ (binaryOp _ (Value.str _ _) (Value.str _ _)) _ _ _)); (fail_if_success (with_reducible show wpAny _ _ (compareOp CmpOp.Eq (Value.ref _) (Value.ref _)) _ _ _)); ((fail_if_success (with_reducible first | show wpAny _ _ (exec (Stmt.For _ _ _ _ _) _) _ _ _ | show wpAny _ _ (exec (Stmt.While _ _ _ _) _) _ _ _ | show wpAny _ _ (eval (Expr.ListComp _ _ _ _) _) _ _ _ | show wpAny _ _ (eval (Expr.Dict _ _ _) _) _ _ _ | show wpAny _ _ (binaryOp _ _ (Value.str (S (List.flatten _)) _)) _ _ _ | show wpAny _ _ (exec (Stmt.Assign _ (Expr.ListComp _ _ _ _) _) _) _ _ _ | show wpAny _ _ (call (Value.ref _) _ _) _ _ _ | show wpAny _ _ (pyIter _) _ _ _ | show wpAny _ _ (call (Value.builtin "len") [Value.ref _]) _ _ _ | show wpAny _ _ (subscriptTail _ _ (Value.ref _) (Value.ref _)) _ _ _ | show wpAny _ _ (compareOp CmpOp.Lt (Value.ref _) (Value.ref _)) _ _ _ | show wpAny _ _ (setItem (Value.ref _) (Value.int _ _) _) _ _ _))); (first | (k_unfold; (try dsimp only)) | (k_end; wrow_close) | walk1 | (dsimp only; walk1) | (leave1; walk_say "STEP leave1"; try dsimp only) | fail "no step")))
        obtain ⟨y, hsg, hy⟩ := sign_bit c0 c1 ((x.fmod 16).fdiv (2 ^ ((0 : Int) + (j : Int)).toNat))
        refine item_S hsg (by simp) ?_
        exact comp_same (by k_asm) (by k_asm) off trivial ⟨rfl, ws ++ [[y]], by rw [List.map_append]; exact strsAre_put hws, by rw [List.length_append, hwl]; rfl, fun w hw => by
          rcases List.mem_append.mp hw with hw | hw
          · exact hwc w hw
          · rw [List.mem_singleton.mp hw]
            rcases hy with rfl | rfl
            · exact .inl rfl
            · exact .inr rfl⟩
      · intro zs nw hJ
        obtain ⟨rfl, ws, hws, hwl, hwc⟩ := hJ
        intro D12 h12 tk12 F12 N12 o12
        clear F11 N11
        dsimp only
        obtain ⟨hf4, hfc⟩ := flat_sg hwc
        rw [hwl] at hf4
        (first | (k_unfold; (try dsimp only)) | (k_end; wrow_close) | walk1 | (dsimp only; walk1) | (leave1; walk_say "STEP leave1"; try dsimp only) | fail "no step")
        refine join_S N12 (.head _) hws (by rw [hf4]; decide) fun t' k' => ?_
        exact ⟨_, _, rfl, F12, drop_1 N12, ws.flatten, _, rfl, hf4, hfc⟩
    case fin9 =>
      intro D10 h10 tk10 ys hyl hR F10 N10 l10
      have hD10a : D6 ≠ D10 := Nat.ne_of_lt (l10 _ (.tail _ (.head _)))
      have hD10b : s1.heap.objs.size + 1 + 1 ≠ D10 := Nat.ne_of_lt (l10 _ (.tail _ (.tail _ (.head _))))
      have hD10c : s1.heap.objs.size + 1 ≠ D10 := Nat.ne_of_lt (l10 _ (.tail _ (.tail _ (.tail _ (.head _)))))
      have hD10d : 50 ≠ D10 := Nat.ne_of_lt (l10 _ (.tail _ (.tail _ (.tail _ (.tail _ (.head _))))))
      clear l10 F9 N9
      obtain ⟨nms, hnms, hnl, hnok⟩ := names_of (P := fun n => n.length = 4 ∧ ∀ c ∈ n, c = c0 ∨ c = c1) hR
      replace N10 := drop_2 N10
      have hnl3 : nms.length = 3 := by rw [hnl, hyl]; rfl
      clear hyl hR
      dsimp only
      (repeat' ((fail_if_success (with_reducible show wpAny _ _ (compareOp CmpOp.NotIn (Value.str _ _) (Value.ref _)) _ _ _)); (fail_if_success (with_reducible show wpAny _ _ (call (Value.builtin "list.append") _) _ _ _)); (fail_if_success (with_reducible show wpAny _ _ (newList (_ :: _)) _ _ _)); (fail_if_success (with_reducible show wpAny _ _ (subscriptTail _ _ _ (Value.int _ _)) _ _ _)); (fail_if_success (with_reducible show wpAny _ _ (binaryOp _ (Value.ref _) (Value.ref _)) _ _ _)); (fail_if_success (with_reducible show wpAny _ _ (binaryOp _ (Value.str _ _) (Value.str _ _)) _ _ _)); (fail_if_success (with_reducible show wpAny _ _ (compareOp CmpOp.Eq (Value.ref _) (Value.ref _)) _ _ _)); ((fail_if_success (with_reducible first | show wpAny _ _ (exec (Stmt.For _ _ _ _ _) _) _ _ _ | show wpAny _ _ (exec (Stmt.While _ _ _ _) _) _ _ _ | show wpAny _ _ (eval (Expr.ListComp _ _ _ _) _) _ _ _ | show wpAny _ _ (eval (Expr.Dict _ _ _) _) _ _ _ | show wpAny _ _ (binaryOp _ _ (Value.str (S (List.flatten _)) _)) _ _ _ | show wpAny _ _ (exec (Stmt.Assign _ (Expr.ListComp _ _ _ _) _) _) _ _ _ | show wpAny _ _ (call (Value.ref _) _ _) _ _ _ | show wpAny _ _ (pyIter _) _ _ _ | show wpAny _ _ (call (Value.builtin "len") [Value.ref _]) _ _ _ | show wpAny _ _ (subscriptTail _ _ (Value.ref _) (Value.ref _)) _ _ _ | show wpAny _ _ (compareOp CmpOp.Lt (Value.ref _) (Value.ref _)) _ _ _ | show wpAny _ _ (setItem (Value.ref _) (Value.int _ _) _) _ _ _))); (first | (k_unfold; (try dsimp only)) | (k_end; wrow_close) | walk1 | (dsimp only; walk1) | (leave1; walk_say "STEP leave1"; try dsimp only) | fail "no step")))
      k_dflt (refine LCg.Assign_ListComp_U (F₀ := by k_asm) (by rfl) (by with_unfolding_all rfl) (by with_unfolding_all rfl) (by decide) (by rfl) (by decide) (by rfl) (by rfl) (by rfl) ?_)
      (repeat' ((fail_if_success (with_reducible show wpAny _ _ (compareOp CmpOp.NotIn (Value.str _ _) (Value.ref _)) _ _ _)); (fail_if_success (with_reducible show wpAny _ _ (call (Value.builtin "list.append") _) _ _ _)); (fail_if_success (with_reducible show wpAny _ _ (newList (_ :: _)) _ _ _)); (fail_if_success (with_reducible show wpAny _ _ (subscriptTail _ _ _ (Value.int _ _)) _ _ _)); (fail_if_success (with_reducible show wpAny _ _ (binaryOp _ (Value.ref _) (Value.ref _)) _ _ _)); (fail_if_success (with_reducible show wpAny _ _ (binaryOp _ (Value.str _ _) (Value.str _ _)) _ _ _)); (fail_if_success (with_reducible show wpAny _ _ (compareOp CmpOp.Eq (Value.ref _) (Value.ref _)) _ _ _)); ((fail_if_success (with_reducible first | show wpAny _ _ (exec (Stmt.For _ _ _ _ _) _) _ _ _ | show wpAny _ _ (exec (Stmt.While _ _ _ _) _) _ _ _ | show wpAny _ _ (eval (Expr.ListComp _ _ _ _) _) _ _ _ | show wpAny _ _ (eval (Expr.Dict _ _ _) _) _ _ _ | show wpAny _ _ (binaryOp _ _ (Value.str (S (List.flatten _)) _)) _ _ _ | show wpAny _ _ (exec (Stmt.Assign _ (Expr.ListComp _ _ _ _) _) _) _ _ _ | show wpAny _ _ (call (Value.ref _) _ _) _ _ _ | show wpAny _ _ (pyIter _) _ _ _ | show wpAny _ _ (call (Value.builtin "len") [Value.ref _]) _ _ _ | show wpAny _ _ (subscriptTail _ _ (Value.ref _) (Value.ref _)) _ _ _ | show wpAny _ _ (compareOp CmpOp.Lt (Value.ref _) (Value.ref _)) _ _ _ | show wpAny _ _ (setItem (Value.ref _) (Value.int _ _) _) _ _ _))); (first | (k_unfold; (try dsimp only)) | (k_end; wrow_close) | walk1 | (dsimp only; walk1) | (leave1; walk_say "STEP leave1"; try dsimp only) | fail "no step")))
      refine kms_slice_lit (s := ⟨_, _, _, _, _⟩) (zs := [Value.int x3 t3, Value.int x4 t4]) F10 N10 (isList_of N10 (.tail _ (.head _))) (.int _ _) .none (pick_from _ 3) (fun D11 h11 F11 N11 l11 => ?_) (by with_unfolding_all rfl) (fun _ => rfl) (by rw [sizeLine_eq]; exact Nat.le_of_ble_eq_true rfl)
      clear F10 N10 l11
      have hi2 : IntsAre [Value.int x3 t3, Value.int x4 t4] [x3, x4] := .cons x3 t3 (.cons x4 t4 .nil)
      refine LCg.CompSrc.ledger rfl F11 N11 (.head _) (by rw [sizeLine_eq]; exact Nat.le_of_ble_eq_true rfl) fun g12 => ?_
      refine rest_J (fun j zs nw => nw = [(D11, listOf (List.toArray [Value.int x3 t3, Value.int x4 t4]) 0), (D10, LCg.lst ys), (D6, LCg.lst [Value.int x0 t0, Value.int x1 t1, Value.int x2 t2, Value.int x3 t3, Value.int x4 t4]), (s1.heap.objs.size + 1 + 1, oD), (s1.heap.objs.size + 1, oP8), (50, tabObj #[])] ∧ ∃ ps : List Nat, IntsAre zs (ps.map fun p : Nat => (p : Int)) ∧ ps.length = j ∧ ∀ p ∈ ps, 0 < p) ?_ ?_ ⟨rfl, [], .nil, rfl, by simp⟩
      · intro j v zs nw I2 oI2 C2 oC2 D2 m3 h tk E' hj hv2 hJ hoC2 hx F12 N12 off hne5
        obtain ⟨rfl, ps, hps, hpl, hpc⟩ := hJ
        obtain ⟨x, tx, rfl, _⟩ := ints_item hi2 j v (by simpa using hv2)
        clear F11 N11
        (repeat' ((fail_if_success (with_reducible show wpAny _ _ (compareOp CmpOp.NotIn (Value.str _ _) (Value.ref _)) _ _ _)); (fail_if_success (with_reducible show wpAny _ _ (call (Value.builtin "list.append") _) _ _ _)); (fail_if_success (with_reducible show wpAny _ _ (newList (_ :: _)) _ _ _)); (fail_if_success (with_reducible show wpAny _ _ (subscriptTail _ _ _ (Value.int _ _)) _ _ _)); (fail_if_success (with_reducible show wpAny _ _ (binaryOp _ (Value.ref _) (Value.ref _)) _ _ _)); (fail_if_success (with_reducible show wpAny _ _ (binaryOp _ (Value.str _ _) (Value.str _ _)) _ _ _)); (fail_if_success (with_reducible show wpAny _ _ (compareOp CmpOp.Eq (Value.ref _) (Value.ref _)) _ _ _)); ((fail_if_success (with_reducible first | show wpAny _ _ (exec (Stmt.For _ _ _ _ _) _) _ _ _ | show wpAny _ _ (exec (Stmt.While _ _ _ _) _) _ _ _ | show wpAny _ _ (eval (Expr.ListComp _ _ _ _) _) _ _ _ | show wpAny _ _ (eval (Expr.Dict _ _ _) _) _ _ _ | show wpAny _ _ (binaryOp _ _ (Value.str (S (List.flatten _)) _)) _ _ _ | show wpAny _ _ (exec (Stmt.Assign _ (Expr.ListComp _ _ _ _) _) _) _ _ _ | show wpAny _ _ (call (Value.ref _) _ _) _ _ _ | show wpAny _ _ (pyIter _) _ _ _ | show wpAny _ _ (call (Value.builtin "len") [Value.ref _]) _ _ _ | show wpAny _ _ (subscriptTail _ _ (Value.ref _) (Value.ref _)) _ _ _ | show wpAny _ _ (compareOp CmpOp.Lt (Value.ref _) (Value.ref _)) _ _ _ | show wpAny _ _ (setItem (Value.ref _) (Value.int _ _) _) _ _ _))); (first | (k_unfold; (try dsimp only)) | (k_end; wrow_close) | walk1 | (dsimp only; walk1) | (leave1; walk_say "STEP leave1"; try dsimp only) | fail "no step")))
        obtain ⟨p, hp, hp0⟩ := price_of x
        refine comp_same (by k_asm) (by k_asm) off (.inr ⟨_, .head _, rfl, _, rfl⟩) ⟨rfl, ps ++ [p], ?_, by rw [List.length_append, hpl]; rfl, fun w hw => ?_⟩
        · rw [List.map_append]
          show IntsAre _ (_ ++ [(p : Int)])
          rw [hp]
          exact ints_put hps _
        · rcases List.mem_append.mp hw with hw | hw
          · exact hpc w hw
          · rw [List.mem_singleton.mp hw]; exact hp0
      · intro zs nw hJ
        obtain ⟨rfl, ps, hps, hpl, hpc⟩ := hJ
        obtain ⟨p0, p1, u0, u1, rfl, hp0, hp1⟩ := two_of hps hpl hpc
        clear hps hpl hpc ps
        intro D12 h12 tk12 F12 N12 o12
        have hD12a : D10 ≠ D12 := o12.2.1
        have hD12b : D6 ≠ D12 := o12.2.2.1
        have hD12c : s1.heap.objs.size + 1 + 1 ≠ D12 := o12.2.2.2.1
        have hD12d : s1.heap.objs.size + 1 ≠ D12 := o12.2.2.2.2.1
        have hD12e : 50 ≠ D12 := o12.2.2.2.2.2.1
        replace N12 := drop_24 N12
        clear F11 N11 o12
        dsimp only
        (repeat' ((fail_if_success (with_reducible show wpAny _ _ (compareOp CmpOp.NotIn (Value.str _ _) (Value.ref _)) _ _ _)); (fail_if_success (with_reducible show wpAny _ _ (call (Value.builtin "list.append") _) _ _ _)); (fail_if_success (with_reducible show wpAny _ _ (newList (_ :: _)) _ _ _)); (fail_if_success (with_reducible show wpAny _ _ (subscriptTail _ _ _ (Value.int _ _)) _ _ _)); (fail_if_success (with_reducible show wpAny _ _ (binaryOp _ (Value.ref _) (Value.ref _)) _ _ _)); (fail_if_success (with_reducible show wpAny _ _ (binaryOp _ (Value.str _ _) (Value.str _ _)) _ _ _)); (fail_if_success (with_reducible show wpAny _ _ (compareOp CmpOp.Eq (Value.ref _) (Value.ref _)) _ _ _)); ((fail_if_success (with_reducible first | show wpAny _ _ (exec (Stmt.For _ _ _ _ _) _) _ _ _ | show wpAny _ _ (exec (Stmt.While _ _ _ _) _) _ _ _ | show wpAny _ _ (eval (Expr.ListComp _ _ _ _) _) _ _ _ | show wpAny _ _ (eval (Expr.Dict _ _ _) _) _ _ _ | show wpAny _ _ (binaryOp _ _ (Value.str (S (List.flatten _)) _)) _ _ _ | show wpAny _ _ (exec (Stmt.Assign _ (Expr.ListComp _ _ _ _) _) _) _ _ _ | show wpAny _ _ (call (Value.ref _) _ _) _ _ _ | show wpAny _ _ (pyIter _) _ _ _ | show wpAny _ _ (call (Value.builtin "len") [Value.ref _]) _ _ _ | show wpAny _ _ (subscriptTail _ _ (Value.ref _) (Value.ref _)) _ _ _ | show wpAny _ _ (compareOp CmpOp.Lt (Value.ref _) (Value.ref _)) _ _ _ | show wpAny _ _ (setItem (Value.ref _) (Value.int _ _) _) _ _ _))); (first | (k_unfold; (try dsimp only)) | (k_end; wrow_close) | walk1 | (dsimp only; walk1) | (leave1; walk_say "STEP leave1"; try dsimp only) | fail "no step")))
        clear hD10a hD10b hD10c hD10d hD12a hD12b hD12c hD12d hD12e hi2 ho1 ho2 ho5
        obtain ⟨q, rfl, rfl, rfl, rfl⟩ : ∃ q : Ask, q.x0 = c0 ∧ q.x1 = c1 ∧ q.p0 = p0 ∧ q.p1 = p1 := ⟨⟨c0, c1, p0, p1, hc01, hp0, hp1⟩, rfl, rfl, rfl, rfl⟩
        rename Fr _ _ _ _ => F13
        replace N12 := to_front N12
        have h50 : ∀ p ∈ [(D12, LCg.lst [Value.int (q.p0 : Int) u0, Value.int (q.p1 : Int) u1]), (D10, LCg.lst ys), (s1.heap.objs.size + 1 + 1, oD), (s1.heap.objs.size + 1, oP8)], p.1 ≠ 50 := by
          intro p hp
          simp only [List.mem_cons, List.not_mem_nil, or_false] at hp
          rcases hp with rfl | rfl | rfl | rfl
          · exact ne_obj N12 (.tail _ (.head _)) (.head _) fun h => by have := congrArg Obj.cls h; cases this
          · exact ne_obj N12 (.tail _ (.tail _ (.head _))) (.head _) fun h => by have := congrArg Obj.cls h; cases this
          · exact ne_obj N12 (.tail _ (.tail _ (.tail _ (.head _)))) (.head _) fun h => by have := congrArg Obj.data h; rw [dD] at this; cases this
          · exact ne_obj N12 (.tail _ (.tail _ (.tail _ (.tail _ (.head _))))) (.head _) fun h => by have := congrArg Obj.data h; rw [dP8] at this; cases this
        refine (found_ctr w loose mean mg mb q nms hnl3 hnok hs6 ys D10 D12 ys.length 2 tp u0 u1 hnms #[] TabOk.nil [(D12, LCg.lst [Value.int (q.p0 : Int) u0, Value.int (q.p1 : Int) u1]), (D10, LCg.lst ys), (s1.heap.objs.size + 1 + 1, oD), (s1.heap.objs.size + 1, oP8)] h50 (.tail _ (.head _)) (.head _)).use B F13 X N12 T rfl hC ?_ ?_ ?_
        · decide
        · decide
        intro r13 news13 g13 h13 tk13 B13 T13 F14 N14 hp13
        clear F13 N12
        have X13 : (K w.params).In g13 := X.keeps B13.stays
        have T13' : Top topProg loose mean mg mb g13 := T.keeps B13.stays
        have hC13 : CodeHd g13 54 50 := hC.keeps B13.stays
        obtain ⟨l14, k14, fv, Xf, ps14, rfl, hps14, hfn, N15⟩ := found_norm hp13 N14
        clear hp13 N14
        (repeat' ((fail_if_success (with_reducible show wpAny _ _ (compareOp CmpOp.NotIn (Value.str _ _) (Value.ref _)) _ _ _)); (fail_if_success (with_reducible show wpAny _ _ (call (Value.builtin "list.append") _) _ _ _)); (fail_if_success (with_reducible show wpAny _ _ (newList (_ :: _)) _ _ _)); (fail_if_success (with_reducible show wpAny _ _ (subscriptTail _ _ _ (Value.int _ _)) _ _ _)); (fail_if_success (with_reducible show wpAny _ _ (binaryOp _ (Value.ref _) (Value.ref _)) _ _ _)); (fail_if_success (with_reducible show wpAny _ _ (binaryOp _ (Value.str _ _) (Value.str _ _)) _ _ _)); (fail_if_success (with_reducible show wpAny _ _ (compareOp CmpOp.Eq (Value.ref _) (Value.ref _)) _ _ _)); ((fail_if_success (with_reducible first | show wpAny _ _ (exec (Stmt.For _ _ _ _ _) _) _ _ _ | show wpAny _ _ (exec (Stmt.While _ _ _ _) _) _ _ _ | show wpAny _ _ (eval (Expr.ListComp _ _ _ _) _) _ _ _ | show wpAny _ _ (eval (Expr.Dict _ _ _) _) _ _ _ | show wpAny _ _ (binaryOp _ _ (Value.str (S (List.flatten _)) _)) _ _ _ | show wpAny _ _ (exec (Stmt.Assign _ (Expr.ListComp _ _ _ _) _) _) _ _ _ | show wpAny _ _ (call (Value.ref _) _ _) _ _ _ | show wpAny _ _ (pyIter _) _ _ _ | show wpAny _ _ (call (Value.builtin "len") [Value.ref _]) _ _ _ | show wpAny _ _ (subscriptTail _ _ (Value.ref _) (Value.ref _)) _ _ _ | show wpAny _ _ (compareOp CmpOp.Lt (Value.ref _) (Value.ref _)) _ _ _ | show wpAny _ _ (setItem (Value.ref _) (Value.int _ _) _) _ _ _))); (first | (k_unfold; (try dsimp only)) | (k_end; wrow_close) | walk1 | (dsimp only; walk1) | (leave1; walk_say "STEP leave1"; try dsimp only) | fail "no step")))
        rename Fr _ _ _ _ => F15
        rename News _ _ _ _ => N15
        have hnl5 : ∀ e ∈ nms, e.length < 5 := fun e he => by rw [(hnok e he).1]; decide
        refine (least_ctr w loose mean mg mb q hs6 D12 2 tp u0 u1 5 nms ys D10 ys.length ((l14, listOf (List.toArray fv) k14) :: (50, tabObj ps14) :: (D12, LCg.lst [Value.int (q.p0 : Int) u0, Value.int (q.p1 : Int) u1]) :: (D10, LCg.lst ys) :: (s1.heap.objs.size + 1 + 1, oD) :: (s1.heap.objs.size + 1, oP8) :: Xf) (by decide) hnl3 hnl5 hnms (.tail _ (.tail _ (.tail _ (.head _)))) (.tail _ (.tail _ (.head _)))).use B13 F15 X13 N15 T13' rfl hC13 ?_ ?_ ?_
        · decide
        · decide
        intro r16 news16 h16 tk16 F16 N16 hp16
        clear F15 N15
        obtain ⟨l16, k16, rfl, hp16⟩ := hp16
        cases hlf : q.leastF 5 nms with
        | none =>
          rw [hlf] at hp16
          subst hp16
          have hbo := q.least_ok 5 nms (fun h => by rw [h] at hnl3; cases hnl3) hnl5
          rw [hlf] at hbo
          obtain ⟨rfl, rfl⟩ : fv = [] ∧ Xf = [] := by
            rcases hfn with ⟨h1, h2, _⟩ | ⟨t, lf, e, tu, u, n, vs, kf, _, _, hb, _⟩
            · exact ⟨h1, h2⟩
            · exact absurd hb.1 (hbo _)
          have hall : ∀ a ∈ nms, ∀ b ∈ nms, a = b := (Ask.none_iff (K := q) (k := 4) fun n hn => ⟨(hnok n hn).2, (hnok n hn).1⟩).mp hbo
          have N17 := due_front N16
          clear N16
          have hallc : ∀ p ∈ [(l16, listOf #[] k16), (l14, listOf #[] k14), (D10, LCg.lst ys), (50, tabObj ps14)], p.1 ≠ s1.heap.objs.size + 1 + 1 := by
            intro p hp
            refine ne_obj N17 (a := p.1) (oa := p.2) (.tail _ hp) (.head _) fun h => ?_
            have h2 := congrArg Obj.data h
            rw [dD] at h2
            simp only [List.mem_cons, List.not_mem_nil, or_false] at hp
            rcases hp with rfl | rfl | rfl | rfl <;> cases h2
          have hz0 : (#[] : Array Value).size ≤ 1000000 := Nat.zero_le _
          have hb0 : (!(#[] : Array Value).isEmpty) = false := rfl
          (repeat' ((fail_if_success (with_reducible show wpAny _ _ (compareOp CmpOp.NotIn (Value.str _ _) (Value.ref _)) _ _ _)); (fail_if_success (with_reducible show wpAny _ _ (call (Value.builtin "list.append") _) _ _ _)); (fail_if_success (with_reducible show wpAny _ _ (newList (_ :: _)) _ _ _)); (fail_if_success (with_reducible show wpAny _ _ (subscriptTail _ _ _ (Value.int _ _)) _ _ _)); (fail_if_success (with_reducible show wpAny _ _ (binaryOp _ (Value.ref _) (Value.ref _)) _ _ _)); (fail_if_success (with_reducible show wpAny _ _ (binaryOp _ (Value.str _ _) (Value.str _ _)) _ _ _)); (fail_if_success (with_reducible show wpAny _ _ (compareOp CmpOp.Eq (Value.ref _) (Value.ref _)) _ _ _)); ((fail_if_success (with_reducible first | show wpAny _ _ (exec (Stmt.For _ _ _ _ _) _) _ _ _ | show wpAny _ _ (exec (Stmt.While _ _ _ _) _) _ _ _ | show wpAny _ _ (eval (Expr.ListComp _ _ _ _) _) _ _ _ | show wpAny _ _ (eval (Expr.Dict _ _ _) _) _ _ _ | show wpAny _ _ (binaryOp _ _ (Value.str (S (List.flatten _)) _)) _ _ _ | show wpAny _ _ (exec (Stmt.Assign _ (Expr.ListComp _ _ _ _) _) _) _ _ _ | show wpAny _ _ (call (Value.ref _) _ _) _ _ _ | show wpAny _ _ (pyIter _) _ _ _ | show wpAny _ _ (call (Value.builtin "len") [Value.ref _]) _ _ _ | show wpAny _ _ (subscriptTail _ _ (Value.ref _) (Value.ref _)) _ _ _ | show wpAny _ _ (compareOp CmpOp.Lt (Value.ref _) (Value.ref _)) _ _ _ | show wpAny _ _ (setItem (Value.ref _) (Value.int _ _) _) _ _ _))); (first | (k_unfold; (try dsimp only)) | (k_end; wrow_close) | walk1 | (dsimp only; walk1) | (leave1; walk_say "STEP leave1"; try dsimp only) | fail "no step")))
          rename News _ _ _ _ => N18
          refine kqd_eq N18 (.tail _ (.tail _ (.head _))) rfl rfl (ds := []) .nil (fun _ x => x) (.tail _ (.head _)) rfl rfl (es := []) .nil (fun _ x => x) (by simp) (by simp) (by show 7 + 64 < cLine; decide) ?_
          rw [decide_eq_true rfl]
          (repeat' ((fail_if_success (with_reducible show wpAny _ _ (compareOp CmpOp.NotIn (Value.str _ _) (Value.ref _)) _ _ _)); (fail_if_success (with_reducible show wpAny _ _ (call (Value.builtin "list.append") _) _ _ _)); (fail_if_success (with_reducible show wpAny _ _ (newList (_ :: _)) _ _ _)); (fail_if_success (with_reducible show wpAny _ _ (subscriptTail _ _ _ (Value.int _ _)) _ _ _)); (fail_if_success (with_reducible show wpAny _ _ (binaryOp _ (Value.ref _) (Value.ref _)) _ _ _)); (fail_if_success (with_reducible show wpAny _ _ (binaryOp _ (Value.str _ _) (Value.str _ _)) _ _ _)); (fail_if_success (with_reducible show wpAny _ _ (compareOp CmpOp.Eq (Value.ref _) (Value.ref _)) _ _ _)); ((fail_if_success (with_reducible first | show wpAny _ _ (exec (Stmt.For _ _ _ _ _) _) _ _ _ | show wpAny _ _ (exec (Stmt.While _ _ _ _) _) _ _ _ | show wpAny _ _ (eval (Expr.ListComp _ _ _ _) _) _ _ _ | show wpAny _ _ (eval (Expr.Dict _ _ _) _) _ _ _ | show wpAny _ _ (binaryOp _ _ (Value.str (S (List.flatten _)) _)) _ _ _ | show wpAny _ _ (exec (Stmt.Assign _ (Expr.ListComp _ _ _ _) _) _) _ _ _ | show wpAny _ _ (call (Value.ref _) _ _) _ _ _ | show wpAny _ _ (pyIter _) _ _ _ | show wpAny _ _ (call (Value.builtin "len") [Value.ref _]) _ _ _ | show wpAny _ _ (subscriptTail _ _ (Value.ref _) (Value.ref _)) _ _ _ | show wpAny _ _ (compareOp CmpOp.Lt (Value.ref _) (Value.ref _)) _ _ _ | show wpAny _ _ (setItem (Value.ref _) (Value.int _ _) _) _ _ _))); (first | (k_unfold; (try dsimp only)) | (k_end; wrow_close) | walk1 | (dsimp only; walk1) | (leave1; walk_say "STEP leave1"; try dsimp only) | fail "no step")))
          rename News _ _ _ _ => N19
          refine eq_nil (ws := []) N19 (.tail _ (.tail _ (.tail _ (.head _)))) (.head _) .nil (by simp) (by show 7 + 64 < cLine; decide) ?_
          rw [decide_eq_true rfl]
          obtain ⟨n0, n1, n2, rfl⟩ := three_of hnl3
          obtain rfl := hall n0 (.head _) n1 (.tail _ (.head _))
          obtain rfl := hall n0 (.head _) n2 (.tail _ (.tail _ (.head _)))
          obtain ⟨ta, hya⟩ := strs_at hnms (j := 0) rfl
          obtain ⟨tb, hyb⟩ := strs_at hnms (j := 1) rfl
          obtain ⟨tc, hyc⟩ := strs_at hnms (j := 2) rfl
          have hee : ((S n0).cps.toList == (S n0).cps.toList) = true := beq_self_eq_true _
          have hys3 : ys.length = 3 := by rw [← hnl]; rfl
          (repeat' ((fail_if_success (with_reducible show wpAny _ _ (compareOp CmpOp.NotIn (Value.str _ _) (Value.ref _)) _ _ _)); (fail_if_success (with_reducible show wpAny _ _ (call (Value.builtin "list.append") _) _ _ _)); (fail_if_success (with_reducible show wpAny _ _ (newList (_ :: _)) _ _ _)); (fail_if_success (with_reducible show wpAny _ _ (subscriptTail _ _ _ (Value.int _ _)) _ _ _)); (fail_if_success (with_reducible show wpAny _ _ (binaryOp _ (Value.ref _) (Value.ref _)) _ _ _)); (fail_if_success (with_reducible show wpAny _ _ (binaryOp _ (Value.str _ _) (Value.str _ _)) _ _ _)); (fail_if_success (with_reducible show wpAny _ _ (compareOp CmpOp.Eq (Value.ref _) (Value.ref _)) _ _ _)); ((fail_if_success (with_reducible first | show wpAny _ _ (exec (Stmt.For _ _ _ _ _) _) _ _ _ | show wpAny _ _ (exec (Stmt.While _ _ _ _) _) _ _ _ | show wpAny _ _ (eval (Expr.ListComp _ _ _ _) _) _ _ _ | show wpAny _ _ (eval (Expr.Dict _ _ _) _) _ _ _ | show wpAny _ _ (binaryOp _ _ (Value.str (S (List.flatten _)) _)) _ _ _ | show wpAny _ _ (exec (Stmt.Assign _ (Expr.ListComp _ _ _ _) _) _) _ _ _ | show wpAny _ _ (call (Value.ref _) _ _) _ _ _ | show wpAny _ _ (pyIter _) _ _ _ | show wpAny _ _ (call (Value.builtin "len") [Value.ref _]) _ _ _ | show wpAny _ _ (subscriptTail _ _ (Value.ref _) (Value.ref _)) _ _ _ | show wpAny _ _ (compareOp CmpOp.Lt (Value.ref _) (Value.ref _)) _ _ _ | show wpAny _ _ (setItem (Value.ref _) (Value.int _ _) _) _ _ _))); (first | (k_unfold; (try dsimp only)) | (k_end; wrow_close) | walk1 | (dsimp only; walk1) | (leave1; walk_say "STEP leave1"; try dsimp only) | fail "no step")))
          refine item_L (i := 0) N19 (.tail _ (.tail _ (.tail _ (.tail _ (.head _))))) (by rw [List.size_toArray, hys3]; decide) (List.getElem?_toArray.trans hya) ?_
          (repeat' ((fail_if_success (with_reducible show wpAny _ _ (compareOp CmpOp.NotIn (Value.str _ _) (Value.ref _)) _ _ _)); (fail_if_success (with_reducible show wpAny _ _ (call (Value.builtin "list.append") _) _ _ _)); (fail_if_success (with_reducible show wpAny _ _ (newList (_ :: _)) _ _ _)); (fail_if_success (with_reducible show wpAny _ _ (subscriptTail _ _ _ (Value.int _ _)) _ _ _)); (fail_if_success (with_reducible show wpAny _ _ (binaryOp _ (Value.ref _) (Value.ref _)) _ _ _)); (fail_if_success (with_reducible show wpAny _ _ (binaryOp _ (Value.str _ _) (Value.str _ _)) _ _ _)); (fail_if_success (with_reducible show wpAny _ _ (compareOp CmpOp.Eq (Value.ref _) (Value.ref _)) _ _ _)); ((fail_if_success (with_reducible first | show wpAny _ _ (exec (Stmt.For _ _ _ _ _) _) _ _ _ | show wpAny _ _ (exec (Stmt.While _ _ _ _) _) _ _ _ | show wpAny _ _ (eval (Expr.ListComp _ _ _ _) _) _ _ _ | show wpAny _ _ (eval (Expr.Dict _ _ _) _) _ _ _ | show wpAny _ _ (binaryOp _ _ (Value.str (S (List.flatten _)) _)) _ _ _ | show wpAny _ _ (exec (Stmt.Assign _ (Expr.ListComp _ _ _ _) _) _) _ _ _ | show wpAny _ _ (call (Value.ref _) _ _) _ _ _ | show wpAny _ _ (pyIter _) _ _ _ | show wpAny _ _ (call (Value.builtin "len") [Value.ref _]) _ _ _ | show wpAny _ _ (subscriptTail _ _ (Value.ref _) (Value.ref _)) _ _ _ | show wpAny _ _ (compareOp CmpOp.Lt (Value.ref _) (Value.ref _)) _ _ _ | show wpAny _ _ (setItem (Value.ref _) (Value.int _ _) _) _ _ _))); (first | (k_unfold; (try dsimp only)) | (k_end; wrow_close) | walk1 | (dsimp only; walk1) | (leave1; walk_say "STEP leave1"; try dsimp only) | fail "no step")))
          refine item_L (i := 1) N19 (.tail _ (.tail _ (.tail _ (.tail _ (.head _))))) (by rw [List.size_toArray, hys3]; decide) (List.getElem?_toArray.trans hyb) ?_
          (repeat' ((fail_if_success (with_reducible show wpAny _ _ (compareOp CmpOp.NotIn (Value.str _ _) (Value.ref _)) _ _ _)); (fail_if_success (with_reducible show wpAny _ _ (call (Value.builtin "list.append") _) _ _ _)); (fail_if_success (with_reducible show wpAny _ _ (newList (_ :: _)) _ _ _)); (fail_if_success (with_reducible show wpAny _ _ (subscriptTail _ _ _ (Value.int _ _)) _ _ _)); (fail_if_success (with_reducible show wpAny _ _ (binaryOp _ (Value.ref _) (Value.ref _)) _ _ _)); (fail_if_success (with_reducible show wpAny _ _ (binaryOp _ (Value.str _ _) (Value.str _ _)) _ _ _)); (fail_if_success (with_reducible show wpAny _ _ (compareOp CmpOp.Eq (Value.ref _) (Value.ref _)) _ _ _)); ((fail_if_success (with_reducible first | show wpAny _ _ (exec (Stmt.For _ _ _ _ _) _) _ _ _ | show wpAny _ _ (exec (Stmt.While _ _ _ _) _) _ _ _ | show wpAny _ _ (eval (Expr.ListComp _ _ _ _) _) _ _ _ | show wpAny _ _ (eval (Expr.Dict _ _ _) _) _ _ _ | show wpAny _ _ (binaryOp _ _ (Value.str (S (List.flatten _)) _)) _ _ _ | show wpAny _ _ (exec (Stmt.Assign _ (Expr.ListComp _ _ _ _) _) _) _ _ _ | show wpAny _ _ (call (Value.ref _) _ _) _ _ _ | show wpAny _ _ (pyIter _) _ _ _ | show wpAny _ _ (call (Value.builtin "len") [Value.ref _]) _ _ _ | show wpAny _ _ (subscriptTail _ _ (Value.ref _) (Value.ref _)) _ _ _ | show wpAny _ _ (compareOp CmpOp.Lt (Value.ref _) (Value.ref _)) _ _ _ | show wpAny _ _ (setItem (Value.ref _) (Value.int _ _) _) _ _ _))); (first | (k_unfold; (try dsimp only)) | (k_end; wrow_close) | walk1 | (dsimp only; walk1) | (leave1; walk_say "STEP leave1"; try dsimp only) | fail "no step")))
          refine item_L (i := 2) N19 (.tail _ (.tail _ (.tail _ (.tail _ (.head _))))) (by rw [List.size_toArray, hys3]; decide) (List.getElem?_toArray.trans hyc) ?_
          (repeat' ((fail_if_success (with_reducible show wpAny _ _ (compareOp CmpOp.NotIn (Value.str _ _) (Value.ref _)) _ _ _)); (fail_if_success (with_reducible show wpAny _ _ (call (Value.builtin "list.append") _) _ _ _)); (fail_if_success (with_reducible show wpAny _ _ (newList (_ :: _)) _ _ _)); (fail_if_success (with_reducible show wpAny _ _ (subscriptTail _ _ _ (Value.int _ _)) _ _ _)); (fail_if_success (with_reducible show wpAny _ _ (binaryOp _ (Value.ref _) (Value.ref _)) _ _ _)); (fail_if_success (with_reducible show wpAny _ _ (binaryOp _ (Value.str _ _) (Value.str _ _)) _ _ _)); (fail_if_success (with_reducible show wpAny _ _ (compareOp CmpOp.Eq (Value.ref _) (Value.ref _)) _ _ _)); ((fail_if_success (with_reducible first | show wpAny _ _ (exec (Stmt.For _ _ _ _ _) _) _ _ _ | show wpAny _ _ (exec (Stmt.While _ _ _ _) _) _ _ _ | show wpAny _ _ (eval (Expr.ListComp _ _ _ _) _) _ _ _ | show wpAny _ _ (eval (Expr.Dict _ _ _) _) _ _ _ | show wpAny _ _ (binaryOp _ _ (Value.str (S (List.flatten _)) _)) _ _ _ | show wpAny _ _ (exec (Stmt.Assign _ (Expr.ListComp _ _ _ _) _) _) _ _ _ | show wpAny _ _ (call (Value.ref _) _ _) _ _ _ | show wpAny _ _ (pyIter _) _ _ _ | show wpAny _ _ (call (Value.builtin "len") [Value.ref _]) _ _ _ | show wpAny _ _ (subscriptTail _ _ (Value.ref _) (Value.ref _)) _ _ _ | show wpAny _ _ (compareOp CmpOp.Lt (Value.ref _) (Value.ref _)) _ _ _ | show wpAny _ _ (setItem (Value.ref _) (Value.int _ _) _) _ _ _))); (first | (k_unfold; (try dsimp only)) | (k_end; wrow_close) | walk1 | (dsimp only; walk1) | (leave1; walk_say "STEP leave1"; try dsimp only) | fail "no step")))
          rename Fr g13 _ _ _ => F20
          have F21 : Fr (ghostOf s1.heap [(54, 50)]) s1.heap.objs.size _ _ := ⟨F20.ns, fun b o e => F20.keep b o (B13.stays b o e), hab⟩
          exact goodW_bool (b := true) F21 hg (raise_none ns) (post_true ns)
        | some e16 =>
          rw [hlf] at hp16
          obtain ⟨t16, tu16, u16, n16, rfl⟩ := hp16
          have hbo := q.least_ok 5 nms (fun h => by rw [h] at hnl3; cases hnl3) hnl5
          rw [hlf] at hbo
          have hbest : q.best nms e16.2 := ⟨hbo.1, fun v hv => hbo.2.1 ▸ hbo.2.2 v hv⟩
          obtain ⟨t, lf, tu, u, n, vs, kf, rfl, rfl, hvs⟩ : ∃ t lf tu u n vs kf, fv = [Value.ref t, Value.ref lf] ∧ Xf = [(t, tupO e16 tu u n), (lf, listOf (List.toArray vs) kf)] ∧ StrsAre vs ((nms.filter (fun n => !takes e16.2 n)).map S) := by
            rcases hfn with ⟨_, _, h3⟩ | ⟨t, lf, e, tu, u, n, vs, kf, h1, h2, hb, he, hv⟩
            · exact absurd hbo.1 (h3 _)
            · have hw := Ask.best_unique hb hbest
              have : e = e16 := by rw [he, hw, ← hbo.2.1]
              subst this
              exact ⟨t, lf, tu, u, n, vs, kf, h1, h2, hv⟩
          clear hfn
          have hnall : ¬ ∀ a ∈ nms, ∀ b ∈ nms, a = b := fun h => (Ask.none_iff (K := q) (k := 4) fun n hn => ⟨(hnok n hn).2, (hnok n hn).1⟩).mpr h _ hbo.1
          have N17 := due_front2 N16
          clear N16
          have hallc : ∀ p ∈ [(l16, listOf #[Value.ref t16] k16), (t16, tupO e16 tu16 u16 n16), (l14, listOf #[Value.ref t, Value.ref lf] k14), (D10, LCg.lst ys), (50, tabObj ps14), (t, tupO e16 tu u n), (lf, listOf (List.toArray vs) kf)], p.1 ≠ s1.heap.objs.size + 1 + 1 := by
            intro p hp
            refine ne_obj N17 (a := p.1) (oa := p.2) (.tail _ hp) (.head _) fun h => ?_
            have h2 := congrArg Obj.data h
            rw [dD] at h2
            simp only [List.mem_cons, List.not_mem_nil, or_false] at hp
            rcases hp with rfl | rfl | rfl | rfl | rfl | rfl | rfl <;> cases h2
          have hz0 : (#[Value.ref t16] : Array Value).size ≤ 1000000 := Nat.le_of_ble_eq_true rfl
          have hb0 : (!(#[Value.ref t16] : Array Value).isEmpty) = true := rfl
          (repeat' ((fail_if_success (with_reducible show wpAny _ _ (compareOp CmpOp.NotIn (Value.str _ _) (Value.ref _)) _ _ _)); (fail_if_success (with_reducible show wpAny _ _ (call (Value.builtin "list.append") _) _ _ _)); (fail_if_success (with_reducible show wpAny _ _ (newList (_ :: _)) _ _ _)); (fail_if_success (with_reducible show wpAny _ _ (subscriptTail _ _ _ (Value.int _ _)) _ _ _)); (fail_if_success (with_reducible show wpAny _ _ (binaryOp _ (Value.ref _) (Value.ref _)) _ _ _)); (fail_if_success (with_reducible show wpAny _ _ (binaryOp _ (Value.str _ _) (Value.str _ _)) _ _ _)); (fail_if_success (with_reducible show wpAny _ _ (compareOp CmpOp.Eq (Value.ref _) (Value.ref _)) _ _ _)); ((fail_if_success (with_reducible first | show wpAny _ _ (exec (Stmt.For _ _ _ _ _) _) _ _ _ | show wpAny _ _ (exec (Stmt.While _ _ _ _) _) _ _ _ | show wpAny _ _ (eval (Expr.ListComp _ _ _ _) _) _ _ _ | show wpAny _ _ (eval (Expr.Dict _ _ _) _) _ _ _ | show wpAny _ _ (binaryOp _ _ (Value.str (S (List.flatten _)) _)) _ _ _ | show wpAny _ _ (exec (Stmt.Assign _ (Expr.ListComp _ _ _ _) _) _) _ _ _ | show wpAny _ _ (call (Value.ref _) _ _) _ _ _ | show wpAny _ _ (pyIter _) _ _ _ | show wpAny _ _ (call (Value.builtin "len") [Value.ref _]) _ _ _ | show wpAny _ _ (subscriptTail _ _ (Value.ref _) (Value.ref _)) _ _ _ | show wpAny _ _ (compareOp CmpOp.Lt (Value.ref _) (Value.ref _)) _ _ _ | show wpAny _ _ (setItem (Value.ref _) (Value.int _ _) _) _ _ _))); (first | (k_unfold; (try dsimp only)) | (k_end; wrow_close) | walk1 | (dsimp only; walk1) | (leave1; walk_say "STEP leave1"; try dsimp only) | fail "no step")))
          rename_i h18 o18 F18 N18 d18 tk18
          clear hallc
          k_dflt (refine LCt.ListComp_T (F₀ := by k_asm) (by with_unfolding_all rfl) (by decide) (by rfl) (by decide) (by rfl) ?_)
          (first | (k_unfold; (try dsimp only)) | (k_end; wrow_close) | walk1 | (dsimp only; walk1) | (leave1; walk_say "STEP leave1"; try dsimp only) | fail "no step")
          rename Fr _ _ _ _ => F19
          rename News _ _ _ _ => N19
          refine LCt.CompSrcT.ledger rfl F19 N19 (.tail _ (.tail _ (.tail _ (.tail _ (.head _))))) (by rw [List.size_toArray, ← hnl, hnl3, sizeLine_eq]; decide) fun g19 => ?_
          refine restT_J (fun j zs nw => nw = [(s1.heap.objs.size + 1 + 1, o18), (l16, listOf #[Value.ref t16] k16), (t16, tupO e16 tu16 u16 n16), (l14, listOf #[Value.ref t, Value.ref lf] k14), (D10, LCg.lst ys), (50, tabObj ps14), (t, tupO e16 tu u n), (lf, listOf (List.toArray vs) kf)] ∧ StrsAre zs (((nms.take j).filter (fun n => !takes e16.2 n)).map S)) ?_ ?_ ⟨rfl, .nil⟩
          · intro j v zs nw I2 oI2 C oC D2 m₂ h tk E' hj hv2 hJ hoC hx F20 N20 off hne5
            obtain ⟨rfl, hzs⟩ := hJ
            obtain ⟨x, tx, rfl, hxs⟩ := hnms.item j v (by simpa using hv2)
            obtain ⟨nm, hnm, rfl⟩ := strs_item hxs
            clear F19 N19
            iterate 4 (((fail_if_success (with_reducible first | show wpAny _ _ (exec (Stmt.For _ _ _ _ _) _) _ _ _ | show wpAny _ _ (exec (Stmt.While _ _ _ _) _) _ _ _ | show wpAny _ _ (eval (Expr.ListComp _ _ _ _) _) _ _ _ | show wpAny _ _ (eval (Expr.Dict _ _ _) _) _ _ _ | show wpAny _ _ (binaryOp _ _ (Value.str (S (List.flatten _)) _)) _ _ _ | show wpAny _ _ (exec (Stmt.Assign _ (Expr.ListComp _ _ _ _) _) _) _ _ _ | show wpAny _ _ (call (Value.ref _) _ _) _ _ _ | show wpAny _ _ (pyIter _) _ _ _ | show wpAny _ _ (call (Value.builtin "len") [Value.ref _]) _ _ _ | show wpAny _ _ (subscriptTail _ _ (Value.ref _) (Value.ref _)) _ _ _ | show wpAny _ _ (compareOp CmpOp.Lt (Value.ref _) (Value.ref _)) _ _ _ | show wpAny _ _ (setItem (Value.ref _) (Value.int _ _) _) _ _ _))); (first | (k_unfold; (try dsimp only)) | (k_end; wrow_close) | walk1 | (dsimp only; walk1) | (leave1; walk_say "STEP leave1"; try dsimp only) | fail "no step"))
            refine lcf_cell N20 rfl (.tail _ (.tail _ (.tail _ (.head _)))) d18 ?_ rfl rfl
            (first | (k_unfold; (try dsimp only)) | (k_end; wrow_close) | walk1 | (dsimp only; walk1) | (leave1; walk_say "STEP leave1"; try dsimp only) | fail "no step")
            refine item_L (i := 0) N20 (.tail _ (.tail _ (.tail _ (.tail _ (.head _))))) (Nat.le_of_ble_eq_true rfl) rfl ?_
            (first | (k_unfold; (try dsimp only)) | (k_end; wrow_close) | walk1 | (dsimp only; walk1) | (leave1; walk_say "STEP leave1"; try dsimp only) | fail "no step")
            refine item_tupleT (l := [Value.int (e16.1 : Int) tu16, Value.str (S e16.2) u16]) (j := 1) ⟨_, (N20 _ (.tail _ (.tail _ (.tail _ (.tail _ (.tail _ (.head _))))))).1, rfl, _, rfl⟩ (by decide) (by decide) (by rfl) rfl ?_
            (first | (k_unfold; (try dsimp only)) | (k_end; wrow_close) | walk1 | (dsimp only; walk1) | (leave1; walk_say "STEP leave1"; try dsimp only) | fail "no step")
            refine LCgL.ld_global F20 X13 T13' (by k_is) ?_
            (first | (k_unfold; (try dsimp only)) | (k_end; wrow_close) | walk1 | (dsimp only; walk1) | (leave1; walk_say "STEP leave1"; try dsimp only) | fail "no step")
            (first | (k_unfold; (try dsimp only)) | (k_end; wrow_close) | walk1 | (dsimp only; walk1) | (leave1; walk_say "STEP leave1"; try dsimp only) | fail "no step")
            refine LCgL.ld_own N20 (.tail _ (.head _)) hoC hx ?_
            (first | (k_unfold; (try dsimp only)) | (k_end; wrow_close) | walk1 | (dsimp only; walk1) | (leave1; walk_say "STEP leave1"; try dsimp only) | fail "no step")
            refine ⟨X13.keeps F20.keep, ?_⟩
            refine (words_ctr w loose mean mg mb nm tx _ (by rw [(hnok nm (List.mem_of_getElem? hnm)).1]; decide)).use B13 F20 X13 N20 T13' rfl hC13 ?_ ?_ ?_
            · decide
            · decide
            intro r21 news21 h21 tk21 F21 N21 hp21
            clear F20 N20
            obtain ⟨lw, kw, vw, rfl, rfl, hvw, _⟩ := hp21
            refine PySem.SeqAt.notIn_listAt (hasE e16.2) (isList_of N21 (.head _)) (fun y hy => MeetsSeq.EqGives.at (has_gives hvw e16.2 _ y hy) _ _) ?_
            rw [has_any hvw, show (!decide (e16.2 ∈ wordsF nm)) = (!takes e16.2 nm) by rw [takes_words, decide_not]]
            refine wpAny_truthy_bool ?_
            --M1
            dsimp only [qk]
            cases hb : takes e16.2 nm with
            | false =>
              refine ite_pos rfl ?_
              refine LCgL.ld_own N21 (.tail _ (.tail _ (.head _))) hoC hx ?_
              refine comp_same F21 (drop_1 N21) off (.inr ⟨_, .tail _ (.tail _ (.tail _ (.tail _ (.head _)))), rfl, _, rfl⟩) ⟨rfl, ?_⟩
              rw [List.take_add_one, hnm, List.filter_append, show List.filter (fun n => !takes e16.2 n) (some nm).toList = [nm] by simp [hb], List.map_append]
              exact strsAre_put hzs
            | true =>
              refine ite_neg (by decide) ?_
              refine comp_same F21 (drop_1 N21) off (.inr ⟨_, .tail _ (.tail _ (.tail _ (.tail _ (.head _)))), rfl, _, rfl⟩) ⟨rfl, ?_⟩
              rw [List.take_add_one, hnm, List.filter_append, show List.filter (fun n => !takes e16.2 n) (some nm).toList = [] by simp [hb], List.append_nil]
              exact hzs
          · intro zs nw hJ
            obtain ⟨rfl, hzs⟩ := hJ
            rw [List.size_toArray, ← hnl, List.take_length] at hzs
            intro D20 h20 tk20 F20 N20 o20
            clear F19 N19 o20
            dsimp only
            (first | (k_unfold; (try dsimp only)) | (k_end; wrow_close) | walk1 | (dsimp only; walk1) | (leave1; walk_say "STEP leave1"; try dsimp only) | fail "no step")
            have N21 := due_app N20
            clear N20
            have hne : ∀ p ∈ [(D20, LCg.lst zs), (s1.heap.objs.size + 1 + 1, o18), (t16, tupO e16 tu16 u16 n16), (l14, listOf #[Value.ref t, Value.ref lf] k14), (D10, LCg.lst ys), (50, tabObj ps14), (t, tupO e16 tu u n), (lf, listOf (List.toArray vs) kf)], p.1 ≠ l16 := by
              intro p hp
              refine ne_obj N21 (a := p.1) (oa := p.2) (.tail _ hp) (.head _) fun h => ?_
              have h2 := congrArg Obj.data h
              have h3 := congrArg Obj.cls h
              clear h
              simp only [List.mem_cons, List.not_mem_nil, or_false] at hp
              rcases hp with rfl | rfl | rfl | rfl | rfl | rfl | rfl | rfl
              · exact seq_ne hzs h2
              · rw [d18] at h2; cases h2
              · exact tup_ne h3
              · cases h2
              · exact seq_ne hnms h2
              · cases h3
              · exact tup_ne h3
              · exact seq_ne hvs h2
            refine append_K F20 N21 (.head hne) (fun h22 F22 N22 => ?_) (Nat.le_of_ble_eq_true rfl)
            clear F20 N21 hne
            have N23 : News g13 s1.heap.objs.size h22 [(l16, listOf (List.toArray [Value.ref t16, Value.ref D20]) (k16 + 1)), (D20, listOf (List.toArray zs) zs.length), (s1.heap.objs.size + 1 + 1, o18), (t16, tupO e16 tu16 u16 n16), (l14, listOf (List.toArray [Value.ref t, Value.ref lf]) k14), (D10, listOf (List.toArray ys) ys.length), (50, tabObj ps14), (t, tupO e16 tu u n), (lf, listOf (List.toArray vs) kf)] := N22
            clear N22
            have h128 : ∀ c, c = q.x0 ∨ c = q.x1 → c < 0x110000 := fun c hc => by
              have h6 : c = 42 ∨ c = 97 ∨ c = 91 ∨ c = 63 ∨ c = 45 ∨ c = 33 := hs6 c (by rcases hc with rfl | rfl <;> simp)
              omega
            have hoke : ∀ c ∈ e16.2, c < 0x110000 := fun c hc => h128 c (hbo.1.1 c hc)
            have hokn : ∀ n ∈ nms.filter (fun n => !takes e16.2 n), ∀ c ∈ n, c < 0x110000 := fun n hn c hc => h128 c ((hnok n (List.mem_filter.mp hn).1).2 c hc)
            have hDa := ent_dat (e := e16) N23 (.tail _ (.tail _ (.tail _ (.tail _ (.tail _ (.tail _ (.tail _ (.head _)))))))) (.tail _ (.tail _ (.tail _ (.tail _ (.tail _ (.tail _ (.tail _ (.tail _ (.head _))))))))) hvs
            have hDb := ent_dat (e := e16) N23 (.tail _ (.tail _ (.tail _ (.head _)))) (.tail _ (.head _)) hzs
            have hdk := ent_ok (e := e16) hoke hokn
            (repeat' ((fail_if_success (with_reducible show wpAny _ _ (compareOp CmpOp.NotIn (Value.str _ _) (Value.ref _)) _ _ _)); (fail_if_success (with_reducible show wpAny _ _ (call (Value.builtin "list.append") _) _ _ _)); (fail_if_success (with_reducible show wpAny _ _ (newList (_ :: _)) _ _ _)); (fail_if_success (with_reducible show wpAny _ _ (subscriptTail _ _ _ (Value.int _ _)) _ _ _)); (fail_if_success (with_reducible show wpAny _ _ (binaryOp _ (Value.ref _) (Value.ref _)) _ _ _)); (fail_if_success (with_reducible show wpAny _ _ (binaryOp _ (Value.str _ _) (Value.str _ _)) _ _ _)); (fail_if_success (with_reducible show wpAny _ _ (compareOp CmpOp.Eq (Value.ref _) (Value.ref _)) _ _ _)); ((fail_if_success (with_reducible first | show wpAny _ _ (exec (Stmt.For _ _ _ _ _) _) _ _ _ | show wpAny _ _ (exec (Stmt.While _ _ _ _) _) _ _ _ | show wpAny _ _ (eval (Expr.ListComp _ _ _ _) _) _ _ _ | show wpAny _ _ (eval (Expr.Dict _ _ _) _) _ _ _ | show wpAny _ _ (binaryOp _ _ (Value.str (S (List.flatten _)) _)) _ _ _ | show wpAny _ _ (exec (Stmt.Assign _ (Expr.ListComp _ _ _ _) _) _) _ _ _ | show wpAny _ _ (call (Value.ref _) _ _) _ _ _ | show wpAny _ _ (pyIter _) _ _ _ | show wpAny _ _ (call (Value.builtin "len") [Value.ref _]) _ _ _ | show wpAny _ _ (subscriptTail _ _ (Value.ref _) (Value.ref _)) _ _ _ | show wpAny _ _ (compareOp CmpOp.Lt (Value.ref _) (Value.ref _)) _ _ _ | show wpAny _ _ (setItem (Value.ref _) (Value.int _ _) _) _ _ _))); (first | (k_unfold; (try dsimp only)) | (k_end; wrow_close) | walk1 | (dsimp only; walk1) | (leave1; walk_say "STEP leave1"; try dsimp only) | fail "no step")))
            rename News _ _ _ _ => N24
            refine kqd_eq N24 (.tail _ (.tail _ (.tail _ (.tail _ (.head _))))) rfl rfl hDa (fun _ x => x) (.head _) rfl rfl hDb (fun _ x => x) hdk hdk (by show 7 + 64 < cLine; decide) ?_
            rw [dec_t (p := entDat e16 (nms.filter (fun n => !takes e16.2 n)) = entDat e16 (nms.filter (fun n => !takes e16.2 n))) rfl]
            (repeat' ((fail_if_success (with_reducible show wpAny _ _ (compareOp CmpOp.NotIn (Value.str _ _) (Value.ref _)) _ _ _)); (fail_if_success (with_reducible show wpAny _ _ (call (Value.builtin "list.append") _) _ _ _)); (fail_if_success (with_reducible show wpAny _ _ (newList _) _ _ _)); (fail_if_success (with_reducible show wpAny _ _ (subscriptTail _ _ _ (Value.int _ _)) _ _ _)); (fail_if_success (with_reducible show wpAny _ _ (binaryOp _ (Value.ref _) (Value.ref _)) _ _ _)); (fail_if_success (with_reducible show wpAny _ _ (binaryOp _ (Value.str _ _) (Value.str _ _)) _ _ _)); (fail_if_success (with_reducible show wpAny _ _ (compareOp CmpOp.Eq (Value.ref _) (Value.ref _)) _ _ _)); ((fail_if_success (with_reducible first | show wpAny _ _ (exec (Stmt.For _ _ _ _ _) _) _ _ _ | show wpAny _ _ (exec (Stmt.While _ _ _ _) _) _ _ _ | show wpAny _ _ (eval (Expr.ListComp _ _ _ _) _) _ _ _ | show wpAny _ _ (eval (Expr.Dict _ _ _) _) _ _ _ | show wpAny _ _ (binaryOp _ _ (Value.str (S (List.flatten _)) _)) _ _ _ | show wpAny _ _ (exec (Stmt.Assign _ (Expr.ListComp _ _ _ _) _) _) _ _ _ | show wpAny _ _ (call (Value.ref _) _ _) _ _ _ | show wpAny _ _ (pyIter _) _ _ _ | show wpAny _ _ (call (Value.builtin "len") [Value.ref _]) _ _ _ | show wpAny _ _ (subscriptTail _ _ (Value.ref _) (Value.ref _)) _ _ _ | show wpAny _ _ (compareOp CmpOp.Lt (Value.ref _) (Value.ref _)) _ _ _ | show wpAny _ _ (setItem (Value.ref _) (Value.int _ _) _) _ _ _))); (first | (k_unfold; (try dsimp only)) | (k_end; wrow_close) | walk1 | (dsimp only; walk1) | (leave1; walk_say "STEP leave1"; try dsimp only) | fail "no step")))
            refine new_list F22 N24 (Nat.zero_le _) fun D25 h25 F25 N25 l25 => ?_
            clear F22 l25
            (repeat' ((fail_if_success (with_reducible show wpAny _ _ (compareOp CmpOp.NotIn (Value.str _ _) (Value.ref _)) _ _ _)); (fail_if_success (with_reducible show wpAny _ _ (call (Value.builtin "list.append") _) _ _ _)); (fail_if_success (with_reducible show wpAny _ _ (newList (_ :: _)) _ _ _)); (fail_if_success (with_reducible show wpAny _ _ (subscriptTail _ _ _ (Value.int _ _)) _ _ _)); (fail_if_success (with_reducible show wpAny _ _ (binaryOp _ (Value.ref _) (Value.ref _)) _ _ _)); (fail_if_success (with_reducible show wpAny _ _ (binaryOp _ (Value.str _ _) (Value.str _ _)) _ _ _)); (fail_if_success (with_reducible show wpAny _ _ (compareOp CmpOp.Eq (Value.ref _) (Value.ref _)) _ _ _)); ((fail_if_success (with_reducible first | show wpAny _ _ (exec (Stmt.For _ _ _ _ _) _) _ _ _ | show wpAny _ _ (exec (Stmt.While _ _ _ _) _) _ _ _ | show wpAny _ _ (eval (Expr.ListComp _ _ _ _) _) _ _ _ | show wpAny _ _ (eval (Expr.Dict _ _ _) _) _ _ _ | show wpAny _ _ (binaryOp _ _ (Value.str (S (List.flatten _)) _)) _ _ _ | show wpAny _ _ (exec (Stmt.Assign _ (Expr.ListComp _ _ _ _) _) _) _ _ _ | show wpAny _ _ (call (Value.ref _) _ _) _ _ _ | show wpAny _ _ (pyIter _) _ _ _ | show wpAny _ _ (call (Value.builtin "len") [Value.ref _]) _ _ _ | show wpAny _ _ (subscriptTail _ _ (Value.ref _) (Value.ref _)) _ _ _ | show wpAny _ _ (compareOp CmpOp.Lt (Value.ref _) (Value.ref _)) _ _ _ | show wpAny _ _ (setItem (Value.ref _) (Value.int _ _) _) _ _ _))); (first | (k_unfold; (try dsimp only)) | (k_end; wrow_close) | walk1 | (dsimp only; walk1) | (leave1; walk_say "STEP leave1"; try dsimp only) | fail "no step")))
            refine kqd_eq N25 (.tail _ (.tail _ (.tail _ (.tail _ (.tail _ (.head _)))))) rfl rfl hDa (fun _ x => .tail _ x) (.head _) rfl rfl (ys := []) (es := []) .nil (fun _ x => x) hdk (by simp) (by show 7 + 64 < cLine; decide) ?_
            rw [dec_f (p := entDat e16 (nms.filter (fun n => !takes e16.2 n)) = []) (fun h => by cases h)]
            obtain ⟨m0, m1', m2', rfl⟩ := three_of hnl3
            obtain ⟨ta, hya⟩ := strs_at hnms (j := 0) rfl
            obtain ⟨tb, hyb⟩ := strs_at hnms (j := 1) rfl
            obtain ⟨tc, hyc⟩ := strs_at hnms (j := 2) rfl
            have hys3 : ys.length = 3 := by rw [← hnl]; rfl
            clear hDa hDb hdk hoke hokn hvs hzs hnok hnl5 hlf hbo hbest N24
            (repeat' ((fail_if_success (with_reducible show wpAny _ _ (compareOp CmpOp.NotIn (Value.str _ _) (Value.ref _)) _ _ _)); (fail_if_success (with_reducible show wpAny _ _ (call (Value.builtin "list.append") _) _ _ _)); (fail_if_success (with_reducible show wpAny _ _ (newList (_ :: _)) _ _ _)); (fail_if_success (with_reducible show wpAny _ _ (subscriptTail _ _ _ (Value.int _ _)) _ _ _)); (fail_if_success (with_reducible show wpAny _ _ (binaryOp _ (Value.ref _) (Value.ref _)) _ _ _)); (fail_if_success (with_reducible show wpAny _ _ (binaryOp _ (Value.str _ _) (Value.str _ _)) _ _ _)); (fail_if_success (with_reducible show wpAny _ _ (compareOp CmpOp.Eq (Value.ref _) (Value.ref _)) _ _ _)); ((fail_if_success (with_reducible first | show wpAny _ _ (exec (Stmt.For _ _ _ _ _) _) _ _ _ | show wpAny _ _ (exec (Stmt.While _ _ _ _) _) _ _ _ | show wpAny _ _ (eval (Expr.ListComp _ _ _ _) _) _ _ _ | show wpAny _ _ (eval (Expr.Dict _ _ _) _) _ _ _ | show wpAny _ _ (binaryOp _ _ (Value.str (S (List.flatten _)) _)) _ _ _ | show wpAny _ _ (exec (Stmt.Assign _ (Expr.ListComp _ _ _ _) _) _) _ _ _ | show wpAny _ _ (call (Value.ref _) _ _) _ _ _ | show wpAny _ _ (pyIter _) _ _ _ | show wpAny _ _ (call (Value.builtin "len") [Value.ref _]) _ _ _ | show wpAny _ _ (subscriptTail _ _ (Value.ref _) (Value.ref _)) _ _ _ | show wpAny _ _ (compareOp CmpOp.Lt (Value.ref _) (Value.ref _)) _ _ _ | show wpAny _ _ (setItem (Value.ref _) (Value.int _ _) _) _ _ _))); (first | (k_unfold; (try dsimp only)) | (k_end; wrow_close) | walk1 | (dsimp only; walk1) | (leave1; walk_say "STEP leave1"; try dsimp only) | fail "no step")))
            refine item_L (i := 0) N25 (.tail _ (.tail _ (.tail _ (.tail _ (.tail _ (.tail _ (.head _))))))) (by rw [List.size_toArray, hys3]; decide) (List.getElem?_toArray.trans hya) ?_
            (repeat' ((fail_if_success (with_reducible show wpAny _ _ (compareOp CmpOp.NotIn (Value.str _ _) (Value.ref _)) _ _ _)); (fail_if_success (with_reducible show wpAny _ _ (call (Value.builtin "list.append") _) _ _ _)); (fail_if_success (with_reducible show wpAny _ _ (newList (_ :: _)) _ _ _)); (fail_if_success (with_reducible show wpAny _ _ (subscriptTail _ _ _ (Value.int _ _)) _ _ _)); (fail_if_success (with_reducible show wpAny _ _ (binaryOp _ (Value.ref _) (Value.ref _)) _ _ _)); (fail_if_success (with_reducible show wpAny _ _ (binaryOp _ (Value.str _ _) (Value.str _ _)) _ _ _)); (fail_if_success (with_reducible show wpAny _ _ (compareOp CmpOp.Eq (Value.ref _) (Value.ref _)) _ _ _)); ((fail_if_success (with_reducible first | show wpAny _ _ (exec (Stmt.For _ _ _ _ _) _) _ _ _ | show wpAny _ _ (exec (Stmt.While _ _ _ _) _) _ _ _ | show wpAny _ _ (eval (Expr.ListComp _ _ _ _) _) _ _ _ | show wpAny _ _ (eval (Expr.Dict _ _ _) _) _ _ _ | show wpAny _ _ (binaryOp _ _ (Value.str (S (List.flatten _)) _)) _ _ _ | show wpAny _ _ (exec (Stmt.Assign _ (Expr.ListComp _ _ _ _) _) _) _ _ _ | show wpAny _ _ (call (Value.ref _) _ _) _ _ _ | show wpAny _ _ (pyIter _) _ _ _ | show wpAny _ _ (call (Value.builtin "len") [Value.ref _]) _ _ _ | show wpAny _ _ (subscriptTail _ _ (Value.ref _) (Value.ref _)) _ _ _ | show wpAny _ _ (compareOp CmpOp.Lt (Value.ref _) (Value.ref _)) _ _ _ | show wpAny _ _ (setItem (Value.ref _) (Value.int _ _) _) _ _ _))); (first | (k_unfold; (try dsimp only)) | (k_end; wrow_close) | walk1 | (dsimp only; walk1) | (leave1; walk_say "STEP leave1"; try dsimp only) | fail "no step")))
            refine item_L (i := 1) N25 (.tail _ (.tail _ (.tail _ (.tail _ (.tail _ (.tail _ (.head _))))))) (by rw [List.size_toArray, hys3]; decide) (List.getElem?_toArray.trans hyb) ?_
            by_cases e01 : m0 = m1'
            · subst e01
              have hee : ((S m0).cps.toList == (S m0).cps.toList) = true := beq_self_eq_true _
              have e02 : ¬ m0 = m2' := fun h => hnall (by subst h; simp)
              have hne2 : ((S m0).cps.toList == (S m2').cps.toList) = false := sne e02
              (repeat' ((fail_if_success (with_reducible show wpAny _ _ (compareOp CmpOp.NotIn (Value.str _ _) (Value.ref _)) _ _ _)); (fail_if_success (with_reducible show wpAny _ _ (call (Value.builtin "list.append") _) _ _ _)); (fail_if_success (with_reducible show wpAny _ _ (newList (_ :: _)) _ _ _)); (fail_if_success (with_reducible show wpAny _ _ (subscriptTail _ _ _ (Value.int _ _)) _ _ _)); (fail_if_success (with_reducible show wpAny _ _ (binaryOp _ (Value.ref _) (Value.ref _)) _ _ _)); (fail_if_success (with_reducible show wpAny _ _ (binaryOp _ (Value.str _ _) (Value.str _ _)) _ _ _)); (fail_if_success (with_reducible show wpAny _ _ (compareOp CmpOp.Eq (Value.ref _) (Value.ref _)) _ _ _)); ((fail_if_success (with_reducible first | show wpAny _ _ (exec (Stmt.For _ _ _ _ _) _) _ _ _ | show wpAny _ _ (exec (Stmt.While _ _ _ _) _) _ _ _ | show wpAny _ _ (eval (Expr.ListComp _ _ _ _) _) _ _ _ | show wpAny _ _ (eval (Expr.Dict _ _ _) _) _ _ _ | show wpAny _ _ (binaryOp _ _ (Value.str (S (List.flatten _)) _)) _ _ _ | show wpAny _ _ (exec (Stmt.Assign _ (Expr.ListComp _ _ _ _) _) _) _ _ _ | show wpAny _ _ (call (Value.ref _) _ _) _ _ _ | show wpAny _ _ (pyIter _) _ _ _ | show wpAny _ _ (call (Value.builtin "len") [Value.ref _]) _ _ _ | show wpAny _ _ (subscriptTail _ _ (Value.ref _) (Value.ref _)) _ _ _ | show wpAny _ _ (compareOp CmpOp.Lt (Value.ref _) (Value.ref _)) _ _ _ | show wpAny _ _ (setItem (Value.ref _) (Value.int _ _) _) _ _ _))); (first | (k_unfold; (try dsimp only)) | (k_end; wrow_close) | walk1 | (dsimp only; walk1) | (leave1; walk_say "STEP leave1"; try dsimp only) | fail "no step")))
              refine item_L (i := 2) N25 (.tail _ (.tail _ (.tail _ (.tail _ (.tail _ (.tail _ (.head _))))))) (by rw [List.size_toArray, hys3]; decide) (List.getElem?_toArray.trans hyc) ?_
              (repeat' ((fail_if_success (with_reducible show wpAny _ _ (compareOp CmpOp.NotIn (Value.str _ _) (Value.ref _)) _ _ _)); (fail_if_success (with_reducible show wpAny _ _ (call (Value.builtin "list.append") _) _ _ _)); (fail_if_success (with_reducible show wpAny _ _ (newList (_ :: _)) _ _ _)); (fail_if_success (with_reducible show wpAny _ _ (subscriptTail _ _ _ (Value.int _ _)) _ _ _)); (fail_if_success (with_reducible show wpAny _ _ (binaryOp _ (Value.ref _) (Value.ref _)) _ _ _)); (fail_if_success (with_reducible show wpAny _ _ (binaryOp _ (Value.str _ _) (Value.str _ _)) _ _ _)); (fail_if_success (with_reducible show wpAny _ _ (compareOp CmpOp.Eq (Value.ref _) (Value.ref _)) _ _ _)); ((fail_if_success (with_reducible first | show wpAny _ _ (exec (Stmt.For _ _ _ _ _) _) _ _ _ | show wpAny _ _ (exec (Stmt.While _ _ _ _) _) _ _ _ | show wpAny _ _ (eval (Expr.ListComp _ _ _ _) _) _ _ _ | show wpAny _ _ (eval (Expr.Dict _ _ _) _) _ _ _ | show wpAny _ _ (binaryOp _ _ (Value.str (S (List.flatten _)) _)) _ _ _ | show wpAny _ _ (exec (Stmt.Assign _ (Expr.ListComp _ _ _ _) _) _) _ _ _ | show wpAny _ _ (call (Value.ref _) _ _) _ _ _ | show wpAny _ _ (pyIter _) _ _ _ | show wpAny _ _ (call (Value.builtin "len") [Value.ref _]) _ _ _ | show wpAny _ _ (subscriptTail _ _ (Value.ref _) (Value.ref _)) _ _ _ | show wpAny _ _ (compareOp CmpOp.Lt (Value.ref _) (Value.ref _)) _ _ _ | show wpAny _ _ (setItem (Value.ref _) (Value.int _ _) _) _ _ _))); (first | (k_unfold; (try dsimp only)) | (k_end; wrow_close) | walk1 | (dsimp only; walk1) | (leave1; walk_say "STEP leave1"; try dsimp only) | fail "no step")))
              rename Fr g13 _ _ _ => F26
              have F27 : Fr (ghostOf s1.heap [(54, 50)]) s1.heap.objs.size _ _ := ⟨F26.ns, fun b o e => F26.keep b o (B13.stays b o e), hab⟩
              exact goodW_bool (b := true) F27 hg (raise_none ns) (post_true ns)
            · have hne1 : ((S m0).cps.toList == (S m1').cps.toList) = false := sne e01
              (repeat' ((fail_if_success (with_reducible show wpAny _ _ (compareOp CmpOp.NotIn (Value.str _ _) (Value.ref _)) _ _ _)); (fail_if_success (with_reducible show wpAny _ _ (call (Value.builtin "list.append") _) _ _ _)); (fail_if_success (with_reducible show wpAny _ _ (newList (_ :: _)) _ _ _)); (fail_if_success (with_reducible show wpAny _ _ (subscriptTail _ _ _ (Value.int _ _)) _ _ _)); (fail_if_success (with_reducible show wpAny _ _ (binaryOp _ (Value.ref _) (Value.ref _)) _ _ _)); (fail_if_success (with_reducible show wpAny _ _ (binaryOp _ (Value.str _ _) (Value.str _ _)) _ _ _)); (fail_if_success (with_reducible show wpAny _ _ (compareOp CmpOp.Eq (Value.ref _) (Value.ref _)) _ _ _)); ((fail_if_success (with_reducible first | show wpAny _ _ (exec (Stmt.For _ _ _ _ _) _) _ _ _ | show wpAny _ _ (exec (Stmt.While _ _ _ _) _) _ _ _ | show wpAny _ _ (eval (Expr.ListComp _ _ _ _) _) _ _ _ | show wpAny _ _ (eval (Expr.Dict _ _ _) _) _ _ _ | show wpAny _ _ (binaryOp _ _ (Value.str (S (List.flatten _)) _)) _ _ _ | show wpAny _ _ (exec (Stmt.Assign _ (Expr.ListComp _ _ _ _) _) _) _ _ _ | show wpAny _ _ (call (Value.ref _) _ _) _ _ _ | show wpAny _ _ (pyIter _) _ _ _ | show wpAny _ _ (call (Value.builtin "len") [Value.ref _]) _ _ _ | show wpAny _ _ (subscriptTail _ _ (Value.ref _) (Value.ref _)) _ _ _ | show wpAny _ _ (compareOp CmpOp.Lt (Value.ref _) (Value.ref _)) _ _ _ | show wpAny _ _ (setItem (Value.ref _) (Value.int _ _) _) _ _ _))); (first | (k_unfold; (try dsimp only)) | (k_end; wrow_close) | walk1 | (dsimp only; walk1) | (leave1; walk_say "STEP leave1"; try dsimp only) | fail "no step")))
              rename Fr g13 _ _ _ => F26
              have F27 : Fr (ghostOf s1.heap [(54, 50)]) s1.heap.objs.size _ _ := ⟨F26.ns, fun b o e => F26.keep b o (B13.stays b o e), hab⟩
              exact goodW_bool (b := true) F27 hg (raise_none ns) (post_true ns)

end
end Mine
end

theorem PySem.Challenge.cw_ku0020_01_holds : PySem.Challenge.rw_ku0020_01.Holds :=
  Mine.law_holds
