import PyProof.Rows.All
import Wide.All
import OpenK.AllK
import Wide.FinOn
import Lean
import PySem.Challenge.RW_wj0053_01
open PySem PySem.W PyProof.Rows PySem.Calls PySem.Spec PyProof.Rows.LCg
set_option Elab.async false
set_option maxRecDepth 100000
set_option maxHeartbeats 8000000
set_option pp.deepTerms false
set_option pp.maxSteps 4000
set_option pp.proofs false
set_option linter.unusedVariables false
set_option compiler.extract_closed false
set_option genInjectivity false
set_option genSizeOf false
namespace Mine
section
set_option maxHeartbeats 0
noncomputable abbrev kP : Program := PySem.Challenge.rw_wj0053_01.row.prog
noncomputable abbrev kView : Program := view kP [0, 1, 3, 4, 5, 6, 7, 9, 10, 11, 13, 14, 15, 17, 19, 20, 21, 22, 23, 24, 25, 26, 27, 28, 29]
noncomputable abbrev kLoose : List Str := [Str.ofString "UNKNOWN", Str.ofString "tspecials", Str.ofString "_name_disallowed_re", Str.ofString "_value_disallowed_re", Str.ofString "_formatparam"]
noncomputable def top (i : Nat) : Stmt := (PySem.Challenge.pw_wj0053_01.main.body[i]?).getD (.Pass ⟨0, 0, 0, 0⟩)
noncomputable def sub (i j : Nat) : Stmt := match top i with
  | .ClassDef _ _ _ body _ _ _ _ _ _ _ => (body[j]?).getD (.Pass ⟨0, 0, 0, 0⟩)
  | s => s
/-- a def's object, by its statement -/
noncomputable def fobj (s : Stmt) (qual : Str) (dV kV doc pm : Value) (an : Option Addr) (cdv ct : Value) (dict : Option Addr) (cl : List (Str × Addr)) (gl bl : Addr) : Obj := match s with
  | .FunctionDef name params body _ _ _ scope _ _ _ => ⟨.type "function", dict, .func ⟨name, qual, params, .stmts body, scope, gl, cl, dV, kV, doc, pm, an, cdv, ct, bl⟩, #[]⟩
  | _ => ⟨.none, none, .plain, #[]⟩
@[reducible] def E (P : Params) (x : String) (t : Tok) (v : Value) : DictEntry := ⟨PyData.keyHash P (Str.ofString x), .str (Str.ofString x) t, v⟩
noncomputable def kStart (P : Params) : List Obj :=
  ⟨.type "dict", none, .dict [E P "__name__" 1 (.str (Str.ofString "builtins") 160), E P "__doc__" 2 (.builtin "builtins.__doc__:str#opaque"), E P "__package__" 3 (.builtin "builtins.__package__:str#opaque"), E P "__loader__" 4 (.builtin "builtins.__loader__:shared#opaque"), E P "__spec__" 5 (.builtin "builtins.__spec__#opaque"), E P "__build_class__" 6 (.builtin "__build_class__"), E P "__import__" 7 (.builtin "__import__"), E P "abs" 8 (.builtin "abs"), E P "all" 9 (.builtin "all"), E P "any" 10 (.builtin "any"), E P "ascii" 11 (.builtin "ascii"), E P "bin" 12 (.builtin "bin"), E P "breakpoint" 13 (.builtin "breakpoint"), E P "callable" 14 (.builtin "callable"), E P "chr" 15 (.builtin "chr"), E P "compile" 16 (.builtin "compile"), E P "delattr" 17 (.builtin "delattr"), E P "dir" 18 (.builtin "dir"), E P "divmod" 19 (.builtin "divmod"), E P "eval" 20 (.builtin "eval"), E P "exec" 21 (.builtin "exec"), E P "format" 22 (.builtin "format"), E P "getattr" 23 (.builtin "getattr"), E P "globals" 24 (.builtin "globals"), E P "hasattr" 25 (.builtin "hasattr"), E P "hash" 26 (.builtin "hash"), E P "hex" 27 (.builtin "hex"), E P "id" 28 (.builtin "id"), E P "input" 29 (.builtin "input"), E P "isinstance" 30 (.builtin "isinstance"), E P "issubclass" 31 (.builtin "issubclass"), E P "iter" 32 (.builtin "iter"), E P "aiter" 33 (.builtin "aiter"), E P "len" 34 (.builtin "len"), E P "locals" 35 (.builtin "locals"), E P "max" 36 (.builtin "max"), E P "min" 37 (.builtin "min"), E P "next" 38 (.builtin "next"), E P "anext" 39 (.builtin "anext"), E P "oct" 40 (.builtin "oct"), E P "ord" 41 (.builtin "ord"), E P "pow" 42 (.builtin "pow"), E P "print" 43 (.builtin "print"), E P "repr" 44 (.builtin "repr"), E P "round" 45 (.builtin "round"), E P "setattr" 46 (.builtin "setattr"), E P "sorted" 47 (.builtin "sorted"), E P "sum" 48 (.builtin "sum"), E P "vars" 49 (.builtin "vars"), E P "None" 50 (.none), E P "Ellipsis" 51 (.ellipsis), E P "NotImplemented" 52 (.notImplemented), E P "False" 53 (.bool false), E P "True" 54 (.bool true), E P "bool" 55 (.type "bool"), E P "memoryview" 56 (.type "memoryview"), E P "bytearray" 57 (.type "bytearray"), E P "bytes" 58 (.type "bytes"), E P "classmethod" 59 (.type "classmethod"), E P "complex" 60 (.type "complex"), E P "dict" 61 (.type "dict"), E P "enumerate" 62 (.type "enumerate"), E P "filter" 63 (.type "filter"), E P "float" 64 (.type "float"), E P "frozenset" 65 (.type "frozenset"), E P "property" 66 (.type "property"), E P "int" 67 (.type "int"), E P "list" 68 (.type "list"), E P "map" 69 (.type "map"), E P "object" 70 (.type "object"), E P "range" 71 (.type "range"), E P "reversed" 72 (.type "reversed"), E P "set" 73 (.type "set"), E P "slice" 74 (.type "slice"), E P "staticmethod" 75 (.type "staticmethod"), E P "str" 76 (.type "str"), E P "super" 77 (.type "super"), E P "tuple" 78 (.type "tuple"), E P "type" 79 (.type "type"), E P "zip" 80 (.type "zip"), E P "__debug__" 81 (.bool true), E P "BaseException" 82 (.type "BaseException"), E P "BaseExceptionGroup" 83 (.type "BaseExceptionGroup"), E P "Exception" 84 (.type "Exception"), E P "GeneratorExit" 85 (.type "GeneratorExit"), E P "KeyboardInterrupt" 86 (.type "KeyboardInterrupt"), E P "SystemExit" 87 (.type "SystemExit"), E P "ArithmeticError" 88 (.type "ArithmeticError"), E P "AssertionError" 89 (.type "AssertionError"), E P "AttributeError" 90 (.type "AttributeError"), E P "BufferError" 91 (.type "BufferError"), E P "EOFError" 92 (.type "EOFError"), E P "ImportError" 93 (.type "ImportError"), E P "LookupError" 94 (.type "LookupError"), E P "MemoryError" 95 (.type "MemoryError"), E P "NameError" 96 (.type "NameError"), E P "OSError" 97 (.type "OSError"), E P "ReferenceError" 98 (.type "ReferenceError"), E P "RuntimeError" 99 (.type "RuntimeError"), E P "StopAsyncIteration" 100 (.type "StopAsyncIteration"), E P "StopIteration" 101 (.type "StopIteration"), E P "SyntaxError" 102 (.type "SyntaxError"), E P "SystemError" 103 (.type "SystemError"), E P "TypeError" 104 (.type "TypeError"), E P "ValueError" 105 (.type "ValueError"), E P "Warning" 106 (.type "Warning"), E P "FloatingPointError" 107 (.type "FloatingPointError"), E P "OverflowError" 108 (.type "OverflowError"), E P "ZeroDivisionError" 109 (.type "ZeroDivisionError"), E P "BytesWarning" 110 (.type "BytesWarning"), E P "DeprecationWarning" 111 (.type "DeprecationWarning"), E P "EncodingWarning" 112 (.type "EncodingWarning"), E P "FutureWarning" 113 (.type "FutureWarning"), E P "ImportWarning" 114 (.type "ImportWarning"), E P "PendingDeprecationWarning" 115 (.type "PendingDeprecationWarning"), E P "ResourceWarning" 116 (.type "ResourceWarning"), E P "RuntimeWarning" 117 (.type "RuntimeWarning"), E P "SyntaxWarning" 118 (.type "SyntaxWarning"), E P "UnicodeWarning" 119 (.type "UnicodeWarning"), E P "UserWarning" 120 (.type "UserWarning"), E P "BlockingIOError" 121 (.type "BlockingIOError"), E P "ChildProcessError" 122 (.type "ChildProcessError"), E P "ConnectionError" 123 (.type "ConnectionError"), E P "FileExistsError" 124 (.type "FileExistsError"), E P "FileNotFoundError" 125 (.type "FileNotFoundError"), E P "InterruptedError" 126 (.type "InterruptedError"), E P "IsADirectoryError" 127 (.type "IsADirectoryError"), E P "NotADirectoryError" 128 (.type "NotADirectoryError"), E P "PermissionError" 129 (.type "PermissionError"), E P "ProcessLookupError" 130 (.type "ProcessLookupError"), E P "TimeoutError" 131 (.type "TimeoutError"), E P "IndentationError" 132 (.type "IndentationError"), E P "_IncompleteInputError" 133 (.type "_IncompleteInputError"), E P "IndexError" 134 (.type "IndexError"), E P "KeyError" 135 (.type "KeyError"), E P "ModuleNotFoundError" 136 (.type "ModuleNotFoundError"), E P "NotImplementedError" 137 (.type "NotImplementedError"), E P "PythonFinalizationError" 138 (.type "PythonFinalizationError"), E P "RecursionError" 139 (.type "RecursionError"), E P "UnboundLocalError" 140 (.type "UnboundLocalError"), E P "UnicodeError" 141 (.type "UnicodeError"), E P "BrokenPipeError" 142 (.type "BrokenPipeError"), E P "ConnectionAbortedError" 143 (.type "ConnectionAbortedError"), E P "ConnectionRefusedError" 144 (.type "ConnectionRefusedError"), E P "ConnectionResetError" 145 (.type "ConnectionResetError"), E P "TabError" 146 (.type "TabError"), E P "UnicodeDecodeError" 147 (.type "UnicodeDecodeError"), E P "UnicodeEncodeError" 148 (.type "UnicodeEncodeError"), E P "UnicodeTranslateError" 149 (.type "UnicodeTranslateError"), E P "ExceptionGroup" 150 (.type "ExceptionGroup"), E P "EnvironmentError" 151 (.type "OSError"), E P "IOError" 152 (.type "OSError"), E P "open" 153 (.builtin "open"), E P "quit" 154 (.builtin "builtins.quit#opaque"), E P "exit" 155 (.builtin "builtins.exit#opaque"), E P "copyright" 156 (.builtin "builtins.copyright#opaque"), E P "credits" 157 (.builtin "builtins.credits#opaque"), E P "license" 158 (.builtin "builtins.license#opaque"), E P "help" 159 (.builtin "builtins.help#opaque")].toArray 159, [].toArray⟩ ::
  ⟨.type "dict", none, .dict [E P "builtins" 162 (.ref 4), E P "__main__" 163 (.ref 5), E P "_sre" 244 (.ref 12)].toArray 3, [].toArray⟩ ::
  ⟨.none, none, .dict [E P "\x69mport.loaded._sre" 183 (.bool true), E P "class._frozen_importlib.BuiltinImporter" 185 (.ref 14), E P "watched.\x69mport" 206 (.ref 18), E P "class._frozen_importlib.ModuleSpec" 216 (.ref 22), E P "sys.modules.booked-epoch" 245 (.int 3 0), E P "\x69mport.later-laid._sre" 270 (.bool true), E P "watched.library" 272 (.ref 27), E P "watched.library-objects" 0 (.str (Str.ofString "\x0c") 0), E P "watched.library-deep._sre" 273 (.str (Str.ofString "\x04\x00\x00\x0b\x04\x00\x00\x0b\x04\x00\x00\x03\x04\x00\x00\x0b\x08\x04dict\x02") 0)].toArray 9, [].toArray⟩ ::
  ⟨.type "dict", none, .dict [E P "__name__" 165 (.str (Str.ofString "__main__") 164), E P "__doc__" 166 (.none), E P "__package__" 167 (.none), E P "__loader__" 168 (.builtin "__main__.__loader__#opaque"), E P "__spec__" 169 (.none), E P "__annotations__" 170 (.ref 6), E P "__builtins__" 171 (.ref 4), E P "__file__" 173 (.str (Str.ofString "/claim/cut.py") 172), E P "__cached__" 174 (.none), E P "_sre" 275 (.ref 12)].toArray 10, [].toArray⟩ ::
  ⟨.type "module", (some 0), .plain, [].toArray⟩ ::
  ⟨.type "module", (some 3), .plain, [].toArray⟩ ::
  ⟨.type "dict", none, .dict [].toArray 0, [].toArray⟩ ::
  ⟨.type "tuple", none, .seq [].toArray 0, [].toArray⟩ ::
  ⟨.none, none, .fields [].toArray, [].toArray⟩ ::
  ⟨.type "code", none, .fields [.str (Str.ofString "<module>") 176, .str (Str.ofString "<module>") 177, .str (Str.ofString "/claim/cut.py") 178, .int 1 0, .int 0 0, .int 0 0, .int 0 0, .int 0 0, .ref 7, .bool false, .int 175 0, .ref 8, .none, .none, .none, .none, .int 179 0, .int 1 0, .str (Str.ofString "/claim/cut.py") 180].toArray, [].toArray⟩ ::
  ⟨.type "frame", none, .plain, [(some (.ref 9)), (some (.ref 3)), (some (.ref 3)), none, (some (.str (Str.ofString "__main__") 164)), none, (some (.ref 0))].toArray⟩ ::
  ⟨.type "dict", none, .dict [E P "__name__" 247 (.str (Str.ofString "_sre") 246), E P "__doc__" 248 (.none), E P "__package__" 250 (.str (Str.ofString "") 249), E P "__loader__" 251 (.builtin "off-the-table:_sre.__loader__:shared#opaque"), E P "__spec__" 252 (.builtin "off-the-table:_sre.__spec__:shared#opaque"), E P "compile" 253 (.builtin "_sre.compile"), E P "template" 254 (.builtin "off-the-table:_sre.template:shared#opaque"), E P "getcodesize" 255 (.builtin "off-the-table:_sre.getcodesize:shared#opaque"), E P "ascii_iscased" 256 (.builtin "off-the-table:_sre.ascii_iscased:shared#opaque"), E P "unicode_iscased" 257 (.builtin "off-the-table:_sre.unicode_iscased:shared#opaque"), E P "ascii_tolower" 258 (.builtin "off-the-table:_sre.ascii_tolower:shared#opaque"), E P "unicode_tolower" 259 (.builtin "off-the-table:_sre.unicode_tolower:shared#opaque"), E P "MAGIC" 261 (.int 20230612 260), E P "CODESIZE" 263 (.int 4 262), E P "MAXREPEAT" 265 (.int 4294967295 264), E P "MAXGROUPS" 267 (.int 1073741823 266), E P "copyright" 269 (.str (Str.ofString " SRE 2.2.2 Copyright (c) 1997-2002 by Secret Labs AB ") 268)].toArray 17, [].toArray⟩ ::
  ⟨.type "module", (some 11), .plain, [].toArray⟩ ::
  ⟨.type "dict", none, .dict [E P "__module__" 189 (.str (Str.ofString "_frozen_importlib") 186), E P "__firstlineno__" 190 (.int 971 187), E P "__doc__" 191 (.builtin "_frozen_importlib.BuiltinImporter.__doc__:str#opaque"), E P "_ORIGIN" 192 (.str (Str.ofString "built-in") 188), E P "find_spec" 193 (.builtin "_frozen_importlib.BuiltinImporter.find_spec#opaque"), E P "create_module" 194 (.builtin "_frozen_importlib.BuiltinImporter.create_module#opaque"), E P "exec_module" 195 (.builtin "_frozen_importlib.BuiltinImporter.exec_module#opaque"), E P "get_code" 196 (.builtin "_frozen_importlib.BuiltinImporter.get_code#opaque"), E P "get_source" 197 (.builtin "_frozen_importlib.BuiltinImporter.get_source#opaque"), E P "is_package" 198 (.builtin "_frozen_importlib.BuiltinImporter.is_package#opaque"), E P "load_module" 199 (.builtin "_frozen_importlib.BuiltinImporter.load_module#opaque"), E P "__static_attributes__" 200 (.ref 15), E P "__dict__" 202 (.ref 16), E P "__weakref__" 204 (.ref 17)].toArray 14, [].toArray⟩ ::
  ⟨.type "type", none, .cls ⟨(Str.ofString "BuiltinImporter"), [.type "object"], [.ref 14, .type "object"], 13, (Str.ofString "BuiltinImporter"), true, [], [], false, none, false⟩, [].toArray⟩ ::
  ⟨.type "tuple", none, .seq [].toArray 0, [].toArray⟩ ::
  ⟨.type "getset_descriptor", none, .fields [.str (Str.ofString "__dict__") 201, .ref 14, .builtin "function.__dict__", .builtin "function.__dict__#set"].toArray, [].toArray⟩ ::
  ⟨.type "getset_descriptor", none, .fields [.str (Str.ofString "__weakref__") 203, .ref 14, .builtin "ExceptionGroup.__weakref__", .none].toArray, [].toArray⟩ ::
  ⟨.none, none, .seq [.int 13 0, .str (Str.ofString "\x06½\x0a__module__\x06º\x11_frozen_importlib\x06¾\x0f__firstlineno__\x04»\x00ϋ\x06¿\x07__doc__\x094_frozen_importlib.BuiltinImporter.__doc__:str#opaque\x06À\x07_ORIGIN\x06¼\x08built-in\x06Á\x09find_spec\x092_frozen_importlib.BuiltinImporter.find_spec#opaque\x06Â\x0dcreate_module\x096_frozen_importlib.BuiltinImporter.create_module#opaque\x06Ã\x0bexec_module\x094_frozen_importlib.BuiltinImporter.exec_module#opaque\x06Ä\x08get_code\x091_frozen_importlib.BuiltinImporter.get_code#opaque\x06Å\x0aget_source\x093_frozen_importlib.BuiltinImporter.get_source#opaque\x06Æ\x0ais_package\x093_frozen_importlib.BuiltinImporter.is_package#opaque\x06Ç\x0bload_module\x094_frozen_importlib.BuiltinImporter.load_module#opaque\x06È\x15__static_attributes__\x04\x00\x00\x0f\x06Ê\x08__dict__\x04\x00\x00\x10\x06Ì\x0b__weakref__\x04\x00\x00\x11") 0, .bool true, .bool true, .str (Str.ofString "") 205, .int 21 0, .str (Str.ofString "\x06ã\x0a__module__\x06Ù\x11_frozen_importlib\x06ä\x0f__firstlineno__\x04Ú\x00Ȳ\x06å\x07__doc__\x09/_frozen_importlib.ModuleSpec.__doc__:str#opaque\x06æ\x08__init__\x09,_frozen_importlib.ModuleSpec.__init__#opaque\x06ç\x08__repr__\x09,_frozen_importlib.ModuleSpec.__repr__#opaque\x06è\x06__eq__\x09*_frozen_importlib.ModuleSpec.__eq__#opaque\x06é\x06cached\x09*_frozen_importlib.ModuleSpec.cached#opaque\x06ê\x06parent\x09*_frozen_importlib.ModuleSpec.parent#opaque\x06ë\x0chas_location\x090_frozen_importlib.ModuleSpec.has_location#opaque\x06ì\x15__static_attributes__\x04\x00\x00\x17\x06î\x08__dict__\x04\x00\x00\x18\x06ð\x0b__weakref__\x04\x00\x00\x19\x06ñ\x08__hash__\x00") 0, .bool true, .bool true, .str (Str.ofString "") 242].toArray 1, [].toArray⟩ ::
  ⟨.type "list", none, .seq [].toArray 0, [].toArray⟩ ::
  ⟨.type "dict", none, .dict [E P "name" 208 (.str (Str.ofString "_sre") 207), E P "loader" 209 (.ref 14), E P "origin" 210 (.str (Str.ofString "built-in") 184), E P "loader_state" 211 (.none), E P "submodule_search_locations" 212 (.none), E P "_uninitialized_submodules" 213 (.ref 19), E P "_set_fileattr" 214 (.bool false), E P "_cached" 215 (.none), E P "_initializing" 243 (.bool false)].toArray 9, [].toArray⟩ ::
  ⟨.type "dict", none, .dict [E P "__module__" 227 (.str (Str.ofString "_frozen_importlib") 217), E P "__firstlineno__" 228 (.int 562 218), E P "__doc__" 229 (.builtin "_frozen_importlib.ModuleSpec.__doc__:str#opaque"), E P "__init__" 230 (.builtin "_frozen_importlib.ModuleSpec.__init__#opaque"), E P "__repr__" 231 (.builtin "_frozen_importlib.ModuleSpec.__repr__#opaque"), E P "__eq__" 232 (.builtin "_frozen_importlib.ModuleSpec.__eq__#opaque"), E P "cached" 233 (.builtin "_frozen_importlib.ModuleSpec.cached#opaque"), E P "parent" 234 (.builtin "_frozen_importlib.ModuleSpec.parent#opaque"), E P "has_location" 235 (.builtin "_frozen_importlib.ModuleSpec.has_location#opaque"), E P "__static_attributes__" 236 (.ref 23), E P "__dict__" 238 (.ref 24), E P "__weakref__" 240 (.ref 25), E P "__hash__" 241 (.none)].toArray 13, [].toArray⟩ ::
  ⟨.type "type", none, .cls ⟨(Str.ofString "ModuleSpec"), [.type "object"], [.ref 22, .type "object"], 21, (Str.ofString "ModuleSpec"), true, [], [], false, none, false⟩, [].toArray⟩ ::
  ⟨.type "tuple", none, .seq [.str (Str.ofString "_cached") 219, .str (Str.ofString "_set_fileattr") 220, .str (Str.ofString "_uninitialized_submodules") 221, .str (Str.ofString "loader") 222, .str (Str.ofString "loader_state") 223, .str (Str.ofString "name") 224, .str (Str.ofString "origin") 225, .str (Str.ofString "submodule_search_locations") 226].toArray 0, [].toArray⟩ ::
  ⟨.type "getset_descriptor", none, .fields [.str (Str.ofString "__dict__") 237, .ref 22, .builtin "function.__dict__", .builtin "function.__dict__#set"].toArray, [].toArray⟩ ::
  ⟨.type "getset_descriptor", none, .fields [.str (Str.ofString "__weakref__") 239, .ref 22, .builtin "ExceptionGroup.__weakref__", .none].toArray, [].toArray⟩ ::
  ⟨.ref 22, (some 20), .plain, [].toArray⟩ ::
  ⟨.none, none, .seq [.int 11 0, .str (Str.mk #[6, 247, 8, 95, 95, 110, 97, 109, 101, 95, 95, 6, 246, 4, 95, 115, 114, 101, 6, 248, 7, 95, 95, 100, 111, 99, 95, 95, 0, 6, 250, 11, 95, 95, 112, 97, 99, 107, 97, 103, 101, 95, 95, 6, 249, 0, 6, 251, 10, 95, 95, 108, 111, 97, 100, 101, 114, 95, 95, 4, 0, 0, 14, 6, 252, 8, 95, 95, 115, 112, 101, 99, 95, 95, 4, 0, 0, 26, 6, 253, 7, 99, 111, 109, 112, 105, 108, 101, 9, 12, 95, 115, 114, 101, 46, 99, 111, 109, 112, 105, 108, 101, 6, 254, 8, 116, 101, 109, 112, 108, 97, 116, 101, 9, 13, 95, 115, 114, 101, 46, 116, 101, 109, 112, 108, 97, 116, 101, 6, 255, 11, 103, 101, 116, 99, 111, 100, 101, 115, 105, 122, 101, 9, 16, 95, 115, 114, 101, 46, 103, 101, 116, 99, 111, 100, 101, 115, 105, 122, 101, 6, 256, 13, 97, 115, 99, 105, 105, 95, 105, 115, 99, 97, 115, 101, 100, 9, 18, 95, 115, 114, 101, 46, 97, 115, 99, 105, 105, 95, 105, 115, 99, 97, 115, 101, 100, 6, 257, 15, 117, 110, 105, 99, 111, 100, 101, 95, 105, 115, 99, 97, 115, 101, 100, 9, 20, 95, 115, 114, 101, 46, 117, 110, 105, 99, 111, 100, 101, 95, 105, 115, 99, 97, 115, 101, 100, 6, 258, 13, 97, 115, 99, 105, 105, 95, 116, 111, 108, 111, 119, 101, 114, 9, 18, 95, 115, 114, 101, 46, 97, 115, 99, 105, 105, 95, 116, 111, 108, 111, 119, 101, 114, 6, 259, 15, 117, 110, 105, 99, 111, 100, 101, 95, 116, 111, 108, 111, 119, 101, 114, 9, 20, 95, 115, 114, 101, 46, 117, 110, 105, 99, 111, 100, 101, 95, 116, 111, 108, 111, 119, 101, 114, 6, 261, 5, 77, 65, 71, 73, 67, 4, 260, 0, 20230612, 6, 263, 8, 67, 79, 68, 69, 83, 73, 90, 69, 4, 262, 0, 4, 6, 265, 9, 77, 65, 88, 82, 69, 80, 69, 65, 84, 4, 264, 0, 4294967295, 6, 267, 9, 77, 65, 88, 71, 82, 79, 85, 80, 83, 4, 266, 0, 1073741823, 6, 269, 9, 99, 111, 112, 121, 114, 105, 103, 104, 116, 6, 268, 53, 32, 83, 82, 69, 32, 50, 46, 50, 46, 50, 32, 67, 111, 112, 121, 114, 105, 103, 104, 116, 32, 40, 99, 41, 32, 49, 57, 57, 55, 45, 50, 48, 48, 50, 32, 98, 121, 32, 83, 101, 99, 114, 101, 116, 32, 76, 97, 98, 115, 32, 65, 66, 32]) 0, .bool true, .bool false, .str (Str.ofString "_sre") 271].toArray 0, [].toArray⟩ :: []
noncomputable def kHeap : Params → Frag := fun P =>
  (nat_lit 1, ⟨.type "dict", none, .dict [E P "builtins" 162 (.ref 4), E P "__main__" 163 (.ref 5), E P "_sre" 244 (.ref 12)].toArray 3, [].toArray⟩) ::
  (nat_lit 2, ⟨.none, none, .dict [E P "\x69mport.loaded._sre" 183 (.bool true), E P "class._frozen_importlib.BuiltinImporter" 185 (.ref 14), E P "watched.\x69mport" 206 (.ref 18), E P "class._frozen_importlib.ModuleSpec" 216 (.ref 22), E P "sys.modules.booked-epoch" 245 (.int 3 0), E P "\x69mport.later-laid._sre" 270 (.bool true), E P "watched.library" 272 (.ref 27), E P "watched.library-objects" 0 (.str (Str.ofString "\x0c") 0), E P "watched.library-deep._sre" 273 (.str (Str.ofString "\x04\x00\x00\x0b\x04\x00\x00\x0b\x04\x00\x00\x03\x04\x00\x00\x0b\x08\x04dict\x02") 0), E P "type.__subclasses__.Exception.0" 358 (.int 85 0), E P "type.__subclasses__.Exception.n" 359 (.int 1 0)].toArray 11, [].toArray⟩) ::
  (nat_lit 3, ⟨.type "dict", none, .dict [E P "__name__" 165 (.str (Str.ofString "law_wj0053_01") 655), E P "__doc__" 166 (.none), E P "__package__" 167 (.none), E P "__loader__" 168 (.builtin "__main__.__loader__#opaque"), E P "__spec__" 169 (.none), E P "__annotations__" 170 (.ref 6), E P "__builtins__" 171 (.ref 4), E P "__file__" 173 (.str (Str.ofString "/claim/cut.py") 172), E P "__cached__" 174 (.none), E P "_sre" 275 (.ref 12), E P "_wall" 288 (.ref 38), E P "_Unknown" 317 (.ref 55), E P "UNKNOWN" 318 (.ref 61), E P "_get_name_info" 328 (.ref 68), E P "_NO_LINENO" 330 (.str (Str.ofString "  --") 329), E P "_get_lineno_width" 339 (.ref 75), E P "Error" 361 (.ref 85), E P "error_reply" 377 (.ref 98), E P "parse257" 388 (.ref 107), E P "tspecials" 424 (.ref 112), E P "_name_disallowed_re" 450 (.ref 117), E P "_value_disallowed_re" 484 (.ref 122), E P "_formatparam" 494 (.ref 130), E P "Headers" 654 (.ref 253), E P "_law_cells" 665 (.ref 264), E P "_law_reply" 676 (.ref 271), E P "_law_page" 687 (.ref 278), E P "_law_told" 696 (.ref 285), E P "_law_roads" 702 (.ref 290), E P "_law_ways" 708 (.ref 295), E P "_law_rings" 722 (.ref 302), E P "_law_due" 728 (.ref 307), E P "_law_ptolemy" 734 (.ref 312), E P "_law_count" 740 (.ref 317), E P "law" 746 (.ref 322)].toArray 35, [].toArray⟩) ::
  (nat_lit 32, ⟨.type "tuple", none, .seq [].toArray 0, [].toArray⟩) ::
  (nat_lit 34, ⟨.type "tuple", none, .seq [.str (Str.ofString "k") 285].toArray 0, [].toArray⟩) ::
  (nat_lit 35, ⟨.type "tuple", none, .seq [].toArray 0, [].toArray⟩) ::
  (nat_lit 37, ⟨.type "code", none, .fields [.str (Str.ofString "_wall") 282, .str (Str.ofString "_wall") 283, .str (Str.ofString "/claim/cut.py") 284, .int 2 0, .int 1 0, .int 0 0, .int 0 0, .int 3 0, .ref 32, .bool true, .int 276 0, .ref 33, .none, .ref 34, .ref 35, .ref 36, .int 286 0, .int 2 0, .str (Str.ofString "/claim/cut.py") 287].toArray, [].toArray⟩) ::
  (nat_lit 38, fobj (top 1) (Str.ofString "_wall") (.none) (.none) (.none) (.str (Str.ofString "__main__") 164) none (.ref 37) (.none) none [] 3 0) ::
  (nat_lit 46, ⟨.type "tuple", none, .seq [].toArray 0, [].toArray⟩) ::
  (nat_lit 48, ⟨.type "tuple", none, .seq [.str (Str.ofString "self") 306].toArray 0, [].toArray⟩) ::
  (nat_lit 49, ⟨.type "tuple", none, .seq [].toArray 0, [].toArray⟩) ::
  (nat_lit 51, ⟨.type "code", none, .fields [.str (Str.ofString "__repr__") 303, .str (Str.ofString "_Unknown.__repr__") 304, .str (Str.ofString "/claim/cut.py") 305, .int 8 0, .int 1 0, .int 0 0, .int 0 0, .int 3 0, .ref 46, .bool true, .int 276 0, .ref 47, .none, .ref 48, .ref 49, .ref 50, .int 307 0, .int 8 0, .str (Str.ofString "/claim/cut.py") 308].toArray, [].toArray⟩) ::
  (nat_lit 52, fobj (sub 3 0) (Str.ofString "_Unknown.__repr__") (.none) (.none) (.none) (.str (Str.ofString "cpy313.dis") 289) none (.ref 51) (.none) none [] 3 0) ::
  (nat_lit 53, ⟨.type "tuple", none, .seq [].toArray 0, [].toArray⟩) ::
  (nat_lit 54, ⟨.type "dict", none, .dict [E P "__module__" 298 (.str (Str.ofString "cpy313.dis") 289), E P "__firstlineno__" 302 (.int 6 301), E P "__repr__" 309 (.ref 52), E P "__static_attributes__" 310 (.ref 53), E P "__dict__" 312 (.ref 56), E P "__weakref__" 314 (.ref 57), E P "__doc__" 315 (.none)].toArray 4, [].toArray⟩) ::
  (nat_lit 55, ⟨.type "type", none, .cls ⟨(Str.ofString "_Unknown"), [.type "object"], [.ref 55, .type "object"], 54, (Str.ofString "_Unknown"), true, [], [], false, none, false⟩, [none, none, (some (.str (Str.ofString "_Unknown") 291)), (some (.str (Str.ofString "_Unknown") 299)), (some (.builtin "object.__new__")), (some (.bool true))].toArray⟩) ::
  (nat_lit 56, ⟨.type "getset_descriptor", none, .fields [.str (Str.ofString "__dict__") 311, .ref 55, .builtin "function.__dict__", .builtin "function.__dict__#set"].toArray, [].toArray⟩) ::
  (nat_lit 57, ⟨.type "getset_descriptor", none, .fields [.str (Str.ofString "__weakref__") 313, .ref 55, .builtin "ExceptionGroup.__weakref__", .none].toArray, [].toArray⟩) ::
  (nat_lit 60, ⟨.type "dict", none, .dict [].toArray 0, [].toArray⟩) ::
  (nat_lit 61, ⟨.ref 55, (some 60), .plain, [].toArray⟩) ::
  (nat_lit 62, ⟨.type "tuple", none, .seq [].toArray 0, [].toArray⟩) ::
  (nat_lit 64, ⟨.type "tuple", none, .seq [.str (Str.ofString "name_index") 322, .str (Str.ofString "get_name") 323, .str (Str.ofString "extrainfo") 324, .str (Str.ofString "argval") 325].toArray 0, [].toArray⟩) ::
  (nat_lit 65, ⟨.type "tuple", none, .seq [].toArray 0, [].toArray⟩) ::
  (nat_lit 67, ⟨.type "code", none, .fields [.str (Str.ofString "_get_name_info") 319, .str (Str.ofString "_get_name_info") 320, .str (Str.ofString "/claim/cut.py") 321, .int 11 0, .int 2 0, .int 0 0, .int 0 0, .int 11 0, .ref 62, .bool true, .int 276 0, .ref 63, .none, .ref 64, .ref 65, .ref 66, .int 326 0, .int 11 0, .str (Str.ofString "/claim/cut.py") 327].toArray, [].toArray⟩) ::
  (nat_lit 68, fobj (top 5) (Str.ofString "_get_name_info") (.none) (.none) (.none) (.str (Str.ofString "cpy313.dis") 289) none (.ref 67) (.none) none [] 3 0) ::
  (nat_lit 69, ⟨.type "tuple", none, .seq [].toArray 0, [].toArray⟩) ::
  (nat_lit 71, ⟨.type "tuple", none, .seq [.str (Str.ofString "linestarts") 334, .str (Str.ofString "maxlineno") 335, .str (Str.ofString "lineno_width") 336].toArray 0, [].toArray⟩) ::
  (nat_lit 72, ⟨.type "tuple", none, .seq [].toArray 0, [].toArray⟩) ::
  (nat_lit 74, ⟨.type "code", none, .fields [.str (Str.ofString "_get_lineno_width") 331, .str (Str.ofString "_get_lineno_width") 332, .str (Str.ofString "/claim/cut.py") 333, .int 18 0, .int 1 0, .int 0 0, .int 0 0, .int 3 0, .ref 69, .bool true, .int 276 0, .ref 70, .none, .ref 71, .ref 72, .ref 73, .int 337 0, .int 18 0, .str (Str.ofString "/claim/cut.py") 338].toArray, [].toArray⟩) ::
  (nat_lit 75, fobj (top 7) (Str.ofString "_get_lineno_width") (.none) (.none) (.none) (.str (Str.ofString "cpy313.dis") 289) none (.ref 74) (.none) none [] 3 0) ::
  (nat_lit 76, ⟨.type "tuple", none, .seq [.type "Exception"].toArray 0, [].toArray⟩) ::
  (nat_lit 83, ⟨.type "tuple", none, .seq [].toArray 0, [].toArray⟩) ::
  (nat_lit 84, ⟨.type "dict", none, .dict [E P "__module__" 349 (.str (Str.ofString "cpy313.ftplib") 340), E P "__firstlineno__" 353 (.int 29 352), E P "__static_attributes__" 354 (.ref 83), E P "__weakref__" 356 (.ref 86), E P "__doc__" 357 (.none)].toArray 3, [].toArray⟩) ::
  (nat_lit 85, ⟨.type "type", none, .cls ⟨(Str.ofString "Error"), [.type "Exception"], [.ref 85, .type "Exception", .type "BaseException", .type "object"], 84, (Str.ofString "Error"), true, [], [.ref 98], false, none, false⟩, [(some (.ref 76)), none, (some (.str (Str.ofString "Error") 342)), (some (.str (Str.ofString "Error") 350)), (some (.builtin "Exception.__new__")), (some (.bool true))].toArray⟩) ::
  (nat_lit 86, ⟨.type "getset_descriptor", none, .fields [.str (Str.ofString "__weakref__") 355, .ref 85, .builtin "ExceptionGroup.__weakref__", .none].toArray, [].toArray⟩) ::
  (nat_lit 89, ⟨.type "tuple", none, .seq [.ref 85].toArray 0, [].toArray⟩) ::
  (nat_lit 96, ⟨.type "tuple", none, .seq [].toArray 0, [].toArray⟩) ::
  (nat_lit 97, ⟨.type "dict", none, .dict [E P "__module__" 369 (.str (Str.ofString "cpy313.ftplib") 340), E P "__firstlineno__" 373 (.int 31 372), E P "__static_attributes__" 374 (.ref 96), E P "__doc__" 375 (.none)].toArray 2, [].toArray⟩) ::
  (nat_lit 98, ⟨.type "type", none, .cls ⟨(Str.ofString "error_reply"), [.ref 85], [.ref 98, .ref 85, .type "Exception", .type "BaseException", .type "object"], 97, (Str.ofString "error_reply"), true, [], [], false, none, false⟩, [(some (.ref 89)), none, (some (.str (Str.ofString "error_reply") 362)), (some (.str (Str.ofString "error_reply") 370)), (some (.builtin "Exception.__new__")), (some (.bool true))].toArray⟩) ::
  (nat_lit 101, ⟨.type "tuple", none, .seq [].toArray 0, [].toArray⟩) ::
  (nat_lit 103, ⟨.type "tuple", none, .seq [.str (Str.ofString "resp") 381, .str (Str.ofString "dirname") 382, .str (Str.ofString "i") 383, .str (Str.ofString "n") 384, .str (Str.ofString "c") 385].toArray 0, [].toArray⟩) ::
  (nat_lit 104, ⟨.type "tuple", none, .seq [].toArray 0, [].toArray⟩) ::
  (nat_lit 106, ⟨.type "code", none, .fields [.str (Str.ofString "parse257") 378, .str (Str.ofString "parse257") 379, .str (Str.ofString "/claim/cut.py") 380, .int 33 0, .int 1 0, .int 0 0, .int 0 0, .int 3 0, .ref 101, .bool true, .int 276 0, .ref 102, .none, .ref 103, .ref 104, .ref 105, .int 386 0, .int 33 0, .str (Str.ofString "/claim/cut.py") 387].toArray, [].toArray⟩) ::
  (nat_lit 107, fobj (top 11) (Str.ofString "parse257") (.none) (.none) (.none) (.str (Str.ofString "cpy313.ftplib") 340) none (.ref 106) (.none) none [] 3 0) ::
  (nat_lit 111, ⟨.type "tuple", none, .seq [.int 14 0, .int 14 0, .int 4 0, .int 1 0, .int 1 0, .int 9 0, .int 0 0, .int 4227896069 0, .int 939524097 0, .int 0 0, .int 0 0, .int 0 0, .int 0 0, .int 0 0, .int 0 0, .int 13 0, .int 11 0, .int 9 0, .int 0 0, .int 4227896069 0, .int 939524097 0, .int 0 0, .int 0 0, .int 0 0, .int 0 0, .int 0 0, .int 0 0, .int 1 0].toArray 0, [].toArray⟩) ::
  (nat_lit 112, ⟨.type "re.Pattern", none, .fields [.str (Str.ofString "[ \\(\\)<>@,;:\\\\\"/\\[\\]\\?=]") 392, .int 32 423, .int 0 0, .none, .none, .ref 111, .int 0 0].toArray, [].toArray⟩) ::
  (nat_lit 116, ⟨.type "tuple", none, .seq [.int 14 0, .int 10 0, .int 4 0, .int 1 0, .int 1 0, .int 22 0, .int 0 0, .int 31 0, .int 16 0, .int 127 0, .int 0 0, .int 13 0, .int 7 0, .int 22 0, .int 0 0, .int 31 0, .int 16 0, .int 127 0, .int 0 0, .int 1 0].toArray 0, [].toArray⟩) ::
  (nat_lit 117, ⟨.type "re.Pattern", none, .fields [.str (Str.ofString "[\\x00-\\x1F\\x7F]") 426, .int 32 449, .int 0 0, .none, .none, .ref 116, .int 0 0].toArray, [].toArray⟩) ::
  (nat_lit 121, ⟨.type "tuple", none, .seq [.int 14 0, .int 14 0, .int 4 0, .int 1 0, .int 1 0, .int 9 0, .int 4294966783 0, .int 0 0, .int 0 0, .int 2147483648 0, .int 0 0, .int 0 0, .int 0 0, .int 0 0, .int 0 0, .int 13 0, .int 11 0, .int 9 0, .int 4294966783 0, .int 0 0, .int 0 0, .int 2147483648 0, .int 0 0, .int 0 0, .int 0 0, .int 0 0, .int 0 0, .int 1 0].toArray 0, [].toArray⟩) ::
  (nat_lit 122, ⟨.type "re.Pattern", none, .fields [.str (Str.ofString "[\\x00-\\x08\\x0A-\\x1F\\x7F]") 452, .int 32 483, .int 0 0, .none, .none, .ref 121, .int 0 0].toArray, [].toArray⟩) ::
  (nat_lit 123, ⟨.type "tuple", none, .seq [.none, .int 1 485].toArray 0, [].toArray⟩) ::
  (nat_lit 124, ⟨.type "tuple", none, .seq [].toArray 0, [].toArray⟩) ::
  (nat_lit 126, ⟨.type "tuple", none, .seq [.str (Str.ofString "param") 489, .str (Str.ofString "value") 490, .str (Str.ofString "quote") 491].toArray 0, [].toArray⟩) ::
  (nat_lit 127, ⟨.type "tuple", none, .seq [].toArray 0, [].toArray⟩) ::
  (nat_lit 129, ⟨.type "code", none, .fields [.str (Str.ofString "_formatparam") 486, .str (Str.ofString "_formatparam") 487, .str (Str.ofString "/claim/cut.py") 488, .int 54 0, .int 3 0, .int 0 0, .int 0 0, .int 3 0, .ref 124, .bool true, .int 276 0, .ref 125, .none, .ref 126, .ref 127, .ref 128, .int 492 0, .int 54 0, .str (Str.ofString "/claim/cut.py") 493].toArray, [].toArray⟩) ::
  (nat_lit 130, fobj (top 16) (Str.ofString "_formatparam") (.ref 123) (.none) (.none) (.str (Str.ofString "cpy313.wsgiref.headers") 389) none (.ref 129) (.none) none [] 3 0) ::
  (nat_lit 138, ⟨.type "tuple", none, .seq [.none].toArray 0, [].toArray⟩) ::
  (nat_lit 139, ⟨.type "tuple", none, .seq [].toArray 0, [].toArray⟩) ::
  (nat_lit 141, ⟨.type "tuple", none, .seq [.str (Str.ofString "self") 510, .str (Str.ofString "headers") 511, .str (Str.ofString "k") 512, .str (Str.ofString "v") 513].toArray 0, [].toArray⟩) ::
  (nat_lit 142, ⟨.type "tuple", none, .seq [].toArray 0, [].toArray⟩) ::
  (nat_lit 144, ⟨.type "code", none, .fields [.str (Str.ofString "__init__") 507, .str (Str.ofString "Headers.__init__") 508, .str (Str.ofString "/claim/cut.py") 509, .int 65 0, .int 2 0, .int 0 0, .int 0 0, .int 3 0, .ref 139, .bool true, .int 276 0, .ref 140, .none, .ref 141, .ref 142, .ref 143, .int 514 0, .int 65 0, .str (Str.ofString "/claim/cut.py") 515].toArray, [].toArray⟩) ::
  (nat_lit 145, fobj (sub 17 0) (Str.ofString "Headers.__init__") (.ref 138) (.none) (.none) (.str (Str.ofString "cpy313.wsgiref.headers") 389) none (.ref 144) (.none) none [] 3 0) ::
  (nat_lit 146, ⟨.type "tuple", none, .seq [].toArray 0, [].toArray⟩) ::
  (nat_lit 148, ⟨.type "tuple", none, .seq [.str (Str.ofString "self") 520, .str (Str.ofString "value") 521, .str (Str.ofString "name") 522, .str (Str.ofString "regex") 523].toArray 0, [].toArray⟩) ::
  (nat_lit 149, ⟨.type "tuple", none, .seq [].toArray 0, [].toArray⟩) ::
  (nat_lit 151, ⟨.type "code", none, .fields [.str (Str.ofString "_convert_string_type") 517, .str (Str.ofString "Headers._convert_string_type") 518, .str (Str.ofString "/claim/cut.py") 519, .int 75 0, .int 2 0, .int 0 0, .int 1 0, .int 3 0, .ref 146, .bool true, .int 276 0, .ref 147, .none, .ref 148, .ref 149, .ref 150, .int 524 0, .int 75 0, .str (Str.ofString "/claim/cut.py") 525].toArray, [].toArray⟩) ::
  (nat_lit 152, fobj (sub 17 1) (Str.ofString "Headers._convert_string_type") (.none) (.none) (.none) (.str (Str.ofString "cpy313.wsgiref.headers") 389) none (.ref 151) (.none) none [] 3 0) ::
  (nat_lit 153, ⟨.type "tuple", none, .seq [].toArray 0, [].toArray⟩) ::
  (nat_lit 155, ⟨.type "tuple", none, .seq [.str (Str.ofString "self") 530].toArray 0, [].toArray⟩) ::
  (nat_lit 156, ⟨.type "tuple", none, .seq [].toArray 0, [].toArray⟩) ::
  (nat_lit 158, ⟨.type "code", none, .fields [.str (Str.ofString "__len__") 527, .str (Str.ofString "Headers.__len__") 528, .str (Str.ofString "/claim/cut.py") 529, .int 83 0, .int 1 0, .int 0 0, .int 0 0, .int 3 0, .ref 153, .bool true, .int 276 0, .ref 154, .none, .ref 155, .ref 156, .ref 157, .int 531 0, .int 83 0, .str (Str.ofString "/claim/cut.py") 532].toArray, [].toArray⟩) ::
  (nat_lit 159, fobj (sub 17 2) (Str.ofString "Headers.__len__") (.none) (.none) (.none) (.str (Str.ofString "cpy313.wsgiref.headers") 389) none (.ref 158) (.none) none [] 3 0) ::
  (nat_lit 160, ⟨.type "tuple", none, .seq [].toArray 0, [].toArray⟩) ::
  (nat_lit 162, ⟨.type "tuple", none, .seq [.str (Str.ofString "self") 537, .str (Str.ofString "name") 538, .str (Str.ofString "val") 539].toArray 0, [].toArray⟩) ::
  (nat_lit 163, ⟨.type "tuple", none, .seq [].toArray 0, [].toArray⟩) ::
  (nat_lit 165, ⟨.type "code", none, .fields [.str (Str.ofString "__setitem__") 534, .str (Str.ofString "Headers.__setitem__") 535, .str (Str.ofString "/claim/cut.py") 536, .int 86 0, .int 3 0, .int 0 0, .int 0 0, .int 3 0, .ref 160, .bool true, .int 276 0, .ref 161, .none, .ref 162, .ref 163, .ref 164, .int 540 0, .int 86 0, .str (Str.ofString "/claim/cut.py") 541].toArray, [].toArray⟩) ::
  (nat_lit 166, fobj (sub 17 3) (Str.ofString "Headers.__setitem__") (.none) (.none) (.none) (.str (Str.ofString "cpy313.wsgiref.headers") 389) none (.ref 165) (.none) none [] 3 0) ::
  (nat_lit 167, ⟨.type "tuple", none, .seq [].toArray 0, [].toArray⟩) ::
  (nat_lit 170, ⟨.type "code", none, .fields [.str (Str.ofString "__delitem__") 543, .str (Str.ofString "Headers.__delitem__") 544, .str (Str.ofString "/claim/cut.py") 545, .int 90 0, .int 2 0, .int 0 0, .int 0 0, .int 3 0, .ref 167, .bool true, .int 276 0, .ref 168, .none, .none, .none, .ref 169, .int 546 0, .int 90 0, .str (Str.ofString "/claim/cut.py") 547].toArray, [].toArray⟩) ::
  (nat_lit 171, fobj (sub 17 4) (Str.ofString "Headers.__delitem__") (.none) (.none) (.none) (.str (Str.ofString "cpy313.wsgiref.headers") 389) none (.ref 170) (.none) none [] 3 0) ::
  (nat_lit 172, ⟨.type "tuple", none, .seq [].toArray 0, [].toArray⟩) ::
  (nat_lit 174, ⟨.type "tuple", none, .seq [.str (Str.ofString "self") 552, .str (Str.ofString "name") 553].toArray 0, [].toArray⟩) ::
  (nat_lit 175, ⟨.type "tuple", none, .seq [].toArray 0, [].toArray⟩) ::
  (nat_lit 177, ⟨.type "code", none, .fields [.str (Str.ofString "__getitem__") 549, .str (Str.ofString "Headers.__getitem__") 550, .str (Str.ofString "/claim/cut.py") 551, .int 94 0, .int 2 0, .int 0 0, .int 0 0, .int 3 0, .ref 172, .bool true, .int 276 0, .ref 173, .none, .ref 174, .ref 175, .ref 176, .int 554 0, .int 94 0, .str (Str.ofString "/claim/cut.py") 555].toArray, [].toArray⟩) ::
  (nat_lit 178, fobj (sub 17 5) (Str.ofString "Headers.__getitem__") (.none) (.none) (.none) (.str (Str.ofString "cpy313.wsgiref.headers") 389) none (.ref 177) (.none) none [] 3 0) ::
  (nat_lit 179, ⟨.type "tuple", none, .seq [].toArray 0, [].toArray⟩) ::
  (nat_lit 181, ⟨.type "tuple", none, .seq [.str (Str.ofString "self") 560, .str (Str.ofString "name") 561].toArray 0, [].toArray⟩) ::
  (nat_lit 182, ⟨.type "tuple", none, .seq [].toArray 0, [].toArray⟩) ::
  (nat_lit 184, ⟨.type "code", none, .fields [.str (Str.ofString "__contains__") 557, .str (Str.ofString "Headers.__contains__") 558, .str (Str.ofString "/claim/cut.py") 559, .int 97 0, .int 2 0, .int 0 0, .int 0 0, .int 3 0, .ref 179, .bool true, .int 276 0, .ref 180, .none, .ref 181, .ref 182, .ref 183, .int 562 0, .int 97 0, .str (Str.ofString "/claim/cut.py") 563].toArray, [].toArray⟩) ::
  (nat_lit 185, fobj (sub 17 6) (Str.ofString "Headers.__contains__") (.none) (.none) (.none) (.str (Str.ofString "cpy313.wsgiref.headers") 389) none (.ref 184) (.none) none [] 3 0) ::
  (nat_lit 186, ⟨.type "tuple", none, .seq [].toArray 0, [].toArray⟩) ::
  (nat_lit 188, ⟨.type "tuple", none, .seq [.str (Str.ofString "self") 568, .str (Str.ofString "name") 569].toArray 0, [].toArray⟩) ::
  (nat_lit 189, ⟨.type "tuple", none, .seq [].toArray 0, [].toArray⟩) ::
  (nat_lit 191, ⟨.type "code", none, .fields [.str (Str.ofString "get_all") 565, .str (Str.ofString "Headers.get_all") 566, .str (Str.ofString "/claim/cut.py") 567, .int 100 0, .int 2 0, .int 0 0, .int 0 0, .int 3 0, .ref 186, .bool true, .int 276 0, .ref 187, .none, .ref 188, .ref 189, .ref 190, .int 570 0, .int 100 0, .str (Str.ofString "/claim/cut.py") 571].toArray, [].toArray⟩) ::
  (nat_lit 192, fobj (sub 17 7) (Str.ofString "Headers.get_all") (.none) (.none) (.none) (.str (Str.ofString "cpy313.wsgiref.headers") 389) none (.ref 191) (.none) none [] 3 0) ::
  (nat_lit 193, ⟨.type "tuple", none, .seq [.none].toArray 0, [].toArray⟩) ::
  (nat_lit 194, ⟨.type "tuple", none, .seq [].toArray 0, [].toArray⟩) ::
  (nat_lit 196, ⟨.type "tuple", none, .seq [.str (Str.ofString "self") 576, .str (Str.ofString "name") 577, .str (Str.ofString "default") 578, .str (Str.ofString "k") 579, .str (Str.ofString "v") 580].toArray 0, [].toArray⟩) ::
  (nat_lit 197, ⟨.type "tuple", none, .seq [].toArray 0, [].toArray⟩) ::
  (nat_lit 199, ⟨.type "code", none, .fields [.str (Str.ofString "get") 573, .str (Str.ofString "Headers.get") 574, .str (Str.ofString "/claim/cut.py") 575, .int 103 0, .int 3 0, .int 0 0, .int 0 0, .int 3 0, .ref 194, .bool true, .int 276 0, .ref 195, .none, .ref 196, .ref 197, .ref 198, .int 581 0, .int 103 0, .str (Str.ofString "/claim/cut.py") 582].toArray, [].toArray⟩) ::
  (nat_lit 200, fobj (sub 17 8) (Str.ofString "Headers.get") (.ref 193) (.none) (.none) (.str (Str.ofString "cpy313.wsgiref.headers") 389) none (.ref 199) (.none) none [] 3 0) ::
  (nat_lit 201, ⟨.type "tuple", none, .seq [].toArray 0, [].toArray⟩) ::
  (nat_lit 204, ⟨.type "code", none, .fields [.str (Str.ofString "keys") 584, .str (Str.ofString "Headers.keys") 585, .str (Str.ofString "/claim/cut.py") 586, .int 110 0, .int 1 0, .int 0 0, .int 0 0, .int 3 0, .ref 201, .bool true, .int 276 0, .ref 202, .none, .none, .none, .ref 203, .int 587 0, .int 110 0, .str (Str.ofString "/claim/cut.py") 588].toArray, [].toArray⟩) ::
  (nat_lit 205, fobj (sub 17 9) (Str.ofString "Headers.keys") (.none) (.none) (.none) (.str (Str.ofString "cpy313.wsgiref.headers") 389) none (.ref 204) (.none) none [] 3 0) ::
  (nat_lit 206, ⟨.type "tuple", none, .seq [].toArray 0, [].toArray⟩) ::
  (nat_lit 209, ⟨.type "code", none, .fields [.str (Str.ofString "values") 590, .str (Str.ofString "Headers.values") 591, .str (Str.ofString "/claim/cut.py") 592, .int 113 0, .int 1 0, .int 0 0, .int 0 0, .int 3 0, .ref 206, .bool true, .int 276 0, .ref 207, .none, .none, .none, .ref 208, .int 593 0, .int 113 0, .str (Str.ofString "/claim/cut.py") 594].toArray, [].toArray⟩) ::
  (nat_lit 210, fobj (sub 17 10) (Str.ofString "Headers.values") (.none) (.none) (.none) (.str (Str.ofString "cpy313.wsgiref.headers") 389) none (.ref 209) (.none) none [] 3 0) ::
  (nat_lit 211, ⟨.type "tuple", none, .seq [].toArray 0, [].toArray⟩) ::
  (nat_lit 213, ⟨.type "tuple", none, .seq [.str (Str.ofString "self") 599].toArray 0, [].toArray⟩) ::
  (nat_lit 214, ⟨.type "tuple", none, .seq [].toArray 0, [].toArray⟩) ::
  (nat_lit 216, ⟨.type "code", none, .fields [.str (Str.ofString "items") 596, .str (Str.ofString "Headers.items") 597, .str (Str.ofString "/claim/cut.py") 598, .int 116 0, .int 1 0, .int 0 0, .int 0 0, .int 3 0, .ref 211, .bool true, .int 276 0, .ref 212, .none, .ref 213, .ref 214, .ref 215, .int 600 0, .int 116 0, .str (Str.ofString "/claim/cut.py") 601].toArray, [].toArray⟩) ::
  (nat_lit 217, fobj (sub 17 11) (Str.ofString "Headers.items") (.none) (.none) (.none) (.str (Str.ofString "cpy313.wsgiref.headers") 389) none (.ref 216) (.none) none [] 3 0) ::
  (nat_lit 218, ⟨.type "tuple", none, .seq [].toArray 0, [].toArray⟩) ::
  (nat_lit 220, ⟨.type "tuple", none, .seq [.str (Str.ofString "self") 606].toArray 0, [].toArray⟩) ::
  (nat_lit 221, ⟨.type "tuple", none, .seq [].toArray 0, [].toArray⟩) ::
  (nat_lit 223, ⟨.type "code", none, .fields [.str (Str.ofString "__repr__") 603, .str (Str.ofString "Headers.__repr__") 604, .str (Str.ofString "/claim/cut.py") 605, .int 119 0, .int 1 0, .int 0 0, .int 0 0, .int 3 0, .ref 218, .bool true, .int 276 0, .ref 219, .none, .ref 220, .ref 221, .ref 222, .int 607 0, .int 119 0, .str (Str.ofString "/claim/cut.py") 608].toArray, [].toArray⟩) ::
  (nat_lit 224, fobj (sub 17 12) (Str.ofString "Headers.__repr__") (.none) (.none) (.none) (.str (Str.ofString "cpy313.wsgiref.headers") 389) none (.ref 223) (.none) none [] 3 0) ::
  (nat_lit 225, ⟨.type "tuple", none, .seq [].toArray 0, [].toArray⟩) ::
  (nat_lit 228, ⟨.type "code", none, .fields [.str (Str.ofString "__str__") 610, .str (Str.ofString "Headers.__str__") 611, .str (Str.ofString "/claim/cut.py") 612, .int 122 0, .int 1 0, .int 0 0, .int 0 0, .int 3 0, .ref 225, .bool true, .int 276 0, .ref 226, .none, .none, .none, .ref 227, .int 613 0, .int 122 0, .str (Str.ofString "/claim/cut.py") 614].toArray, [].toArray⟩) ::
  (nat_lit 229, fobj (sub 17 13) (Str.ofString "Headers.__str__") (.none) (.none) (.none) (.str (Str.ofString "cpy313.wsgiref.headers") 389) none (.ref 228) (.none) none [] 3 0) ::
  (nat_lit 230, ⟨.type "tuple", none, .seq [].toArray 0, [].toArray⟩) ::
  (nat_lit 232, ⟨.type "tuple", none, .seq [.str (Str.ofString "self") 619].toArray 0, [].toArray⟩) ::
  (nat_lit 233, ⟨.type "tuple", none, .seq [].toArray 0, [].toArray⟩) ::
  (nat_lit 235, ⟨.type "code", none, .fields [.str (Str.ofString "__bytes__") 616, .str (Str.ofString "Headers.__bytes__") 617, .str (Str.ofString "/claim/cut.py") 618, .int 125 0, .int 1 0, .int 0 0, .int 0 0, .int 3 0, .ref 230, .bool true, .int 276 0, .ref 231, .none, .ref 232, .ref 233, .ref 234, .int 620 0, .int 125 0, .str (Str.ofString "/claim/cut.py") 621].toArray, [].toArray⟩) ::
  (nat_lit 236, fobj (sub 17 14) (Str.ofString "Headers.__bytes__") (.none) (.none) (.none) (.str (Str.ofString "cpy313.wsgiref.headers") 389) none (.ref 235) (.none) none [] 3 0) ::
  (nat_lit 237, ⟨.type "tuple", none, .seq [].toArray 0, [].toArray⟩) ::
  (nat_lit 239, ⟨.type "tuple", none, .seq [.str (Str.ofString "self") 626, .str (Str.ofString "name") 627, .str (Str.ofString "value") 628, .str (Str.ofString "result") 629].toArray 0, [].toArray⟩) ::
  (nat_lit 240, ⟨.type "tuple", none, .seq [].toArray 0, [].toArray⟩) ::
  (nat_lit 242, ⟨.type "code", none, .fields [.str (Str.ofString "setdefault") 623, .str (Str.ofString "Headers.setdefault") 624, .str (Str.ofString "/claim/cut.py") 625, .int 128 0, .int 3 0, .int 0 0, .int 0 0, .int 3 0, .ref 237, .bool true, .int 276 0, .ref 238, .none, .ref 239, .ref 240, .ref 241, .int 630 0, .int 128 0, .str (Str.ofString "/claim/cut.py") 631].toArray, [].toArray⟩) ::
  (nat_lit 243, fobj (sub 17 15) (Str.ofString "Headers.setdefault") (.none) (.none) (.none) (.str (Str.ofString "cpy313.wsgiref.headers") 389) none (.ref 242) (.none) none [] 3 0) ::
  (nat_lit 244, ⟨.type "tuple", none, .seq [].toArray 0, [].toArray⟩) ::
  (nat_lit 246, ⟨.type "tuple", none, .seq [.str (Str.ofString "self") 636, .str (Str.ofString "_name") 637, .str (Str.ofString "_value") 638, .str (Str.ofString "_params") 639, .str (Str.ofString "parts") 640, .str (Str.ofString "k") 641, .str (Str.ofString "v") 642].toArray 0, [].toArray⟩) ::
  (nat_lit 247, ⟨.type "tuple", none, .seq [].toArray 0, [].toArray⟩) ::
  (nat_lit 249, ⟨.type "code", none, .fields [.str (Str.ofString "add_header") 633, .str (Str.ofString "Headers.add_header") 634, .str (Str.ofString "/claim/cut.py") 635, .int 136 0, .int 3 0, .int 0 0, .int 0 0, .int 11 0, .ref 244, .bool true, .int 276 0, .ref 245, .none, .ref 246, .ref 247, .ref 248, .int 643 0, .int 136 0, .str (Str.ofString "/claim/cut.py") 644].toArray, [].toArray⟩) ::
  (nat_lit 250, fobj (sub 17 16) (Str.ofString "Headers.add_header") (.none) (.none) (.none) (.str (Str.ofString "cpy313.wsgiref.headers") 389) none (.ref 249) (.none) none [] 3 0) ::
  (nat_lit 251, ⟨.type "tuple", none, .seq [.str (Str.ofString "_headers") 646].toArray 0, [].toArray⟩) ::
  (nat_lit 252, ⟨.type "dict", none, .dict [E P "__module__" 502 (.str (Str.ofString "cpy313.wsgiref.headers") 389), E P "__firstlineno__" 506 (.int 63 505), E P "__init__" 516 (.ref 145), E P "_convert_string_type" 526 (.ref 152), E P "__len__" 533 (.ref 159), E P "__setitem__" 542 (.ref 166), E P "__delitem__" 548 (.ref 171), E P "__getitem__" 556 (.ref 178), E P "__contains__" 564 (.ref 185), E P "get_all" 572 (.ref 192), E P "get" 583 (.ref 200), E P "keys" 589 (.ref 205), E P "values" 595 (.ref 210), E P "items" 602 (.ref 217), E P "__repr__" 609 (.ref 224), E P "__str__" 615 (.ref 229), E P "__bytes__" 622 (.ref 236), E P "setdefault" 632 (.ref 243), E P "add_header" 645 (.ref 250), E P "__static_attributes__" 647 (.ref 251), E P "__dict__" 649 (.ref 254), E P "__weakref__" 651 (.ref 255), E P "__doc__" 652 (.none)].toArray 4, [].toArray⟩) ::
  (nat_lit 253, ⟨.type "type", none, .cls ⟨(Str.ofString "Headers"), [.type "object"], [.ref 253, .type "object"], 252, (Str.ofString "Headers"), true, [], [], false, none, false⟩, [none, none, (some (.str (Str.ofString "Headers") 495)), (some (.str (Str.ofString "Headers") 503)), (some (.builtin "object.__new__")), (some (.bool true))].toArray⟩) ::
  (nat_lit 254, ⟨.type "getset_descriptor", none, .fields [.str (Str.ofString "__dict__") 648, .ref 253, .builtin "function.__dict__", .builtin "function.__dict__#set"].toArray, [].toArray⟩) ::
  (nat_lit 255, ⟨.type "getset_descriptor", none, .fields [.str (Str.ofString "__weakref__") 650, .ref 253, .builtin "ExceptionGroup.__weakref__", .none].toArray, [].toArray⟩) ::
  (nat_lit 258, ⟨.type "tuple", none, .seq [].toArray 0, [].toArray⟩) ::
  (nat_lit 260, ⟨.type "tuple", none, .seq [.str (Str.ofString "script") 660, .str (Str.ofString "cells") 661, .str (Str.ofString "k") 662].toArray 0, [].toArray⟩) ::
  (nat_lit 261, ⟨.type "tuple", none, .seq [].toArray 0, [].toArray⟩) ::
  (nat_lit 263, ⟨.type "code", none, .fields [.str (Str.ofString "_law_cells") 657, .str (Str.ofString "_law_cells") 658, .str (Str.ofString "/claim/cut.py") 659, .int 150 0, .int 1 0, .int 0 0, .int 0 0, .int 3 0, .ref 258, .bool true, .int 276 0, .ref 259, .none, .ref 260, .ref 261, .ref 262, .int 663 0, .int 150 0, .str (Str.ofString "/claim/cut.py") 664].toArray, [].toArray⟩) ::
  (nat_lit 264, fobj (top 19) (Str.ofString "_law_cells") (.none) (.none) (.none) (.str (Str.ofString "law_wj0053_01") 655) none (.ref 263) (.none) none [] 3 0) ::
  (nat_lit 265, ⟨.type "tuple", none, .seq [].toArray 0, [].toArray⟩) ::
  (nat_lit 267, ⟨.type "tuple", none, .seq [.str (Str.ofString "k") 669, .str (Str.ofString "cell") 670, .str (Str.ofString "word") 671, .str (Str.ofString "j") 672, .str (Str.ofString "kind") 673].toArray 0, [].toArray⟩) ::
  (nat_lit 268, ⟨.type "tuple", none, .seq [].toArray 0, [].toArray⟩) ::
  (nat_lit 270, ⟨.type "code", none, .fields [.str (Str.ofString "_law_reply") 666, .str (Str.ofString "_law_reply") 667, .str (Str.ofString "/claim/cut.py") 668, .int 155 0, .int 2 0, .int 0 0, .int 0 0, .int 3 0, .ref 265, .bool true, .int 276 0, .ref 266, .none, .ref 267, .ref 268, .ref 269, .int 674 0, .int 155 0, .str (Str.ofString "/claim/cut.py") 675].toArray, [].toArray⟩) ::
  (nat_lit 271, fobj (top 20) (Str.ofString "_law_reply") (.none) (.none) (.none) (.str (Str.ofString "law_wj0053_01") 655) none (.ref 270) (.none) none [] 3 0) ::
  (nat_lit 272, ⟨.type "tuple", none, .seq [].toArray 0, [].toArray⟩) ::
  (nat_lit 274, ⟨.type "tuple", none, .seq [.str (Str.ofString "cells") 680, .str (Str.ofString "page") 681, .str (Str.ofString "k") 682, .str (Str.ofString "cell") 683, .str (Str.ofString "sign") 684].toArray 0, [].toArray⟩) ::
  (nat_lit 275, ⟨.type "tuple", none, .seq [].toArray 0, [].toArray⟩) ::
  (nat_lit 277, ⟨.type "code", none, .fields [.str (Str.ofString "_law_page") 677, .str (Str.ofString "_law_page") 678, .str (Str.ofString "/claim/cut.py") 679, .int 162 0, .int 1 0, .int 0 0, .int 0 0, .int 3 0, .ref 272, .bool true, .int 276 0, .ref 273, .none, .ref 274, .ref 275, .ref 276, .int 685 0, .int 162 0, .str (Str.ofString "/claim/cut.py") 686].toArray, [].toArray⟩) ::
  (nat_lit 278, fobj (top 21) (Str.ofString "_law_page") (.none) (.none) (.none) (.str (Str.ofString "law_wj0053_01") 655) none (.ref 277) (.none) none [] 3 0) ::
  (nat_lit 279, ⟨.type "tuple", none, .seq [].toArray 0, [].toArray⟩) ::
  (nat_lit 281, ⟨.type "tuple", none, .seq [.str (Str.ofString "page") 691, .str (Str.ofString "sign") 692, .str (Str.ofString "reply") 693].toArray 0, [].toArray⟩) ::
  (nat_lit 282, ⟨.type "tuple", none, .seq [].toArray 0, [].toArray⟩) ::
  (nat_lit 284, ⟨.type "code", none, .fields [.str (Str.ofString "_law_told") 688, .str (Str.ofString "_law_told") 689, .str (Str.ofString "/claim/cut.py") 690, .int 170 0, .int 2 0, .int 0 0, .int 0 0, .int 3 0, .ref 279, .bool true, .int 276 0, .ref 280, .none, .ref 281, .ref 282, .ref 283, .int 694 0, .int 170 0, .str (Str.ofString "/claim/cut.py") 695].toArray, [].toArray⟩) ::
  (nat_lit 285, fobj (top 22) (Str.ofString "_law_told") (.none) (.none) (.none) (.str (Str.ofString "law_wj0053_01") 655) none (.ref 284) (.none) none [] 3 0) ::
  (nat_lit 286, ⟨.type "tuple", none, .seq [].toArray 0, [].toArray⟩) ::
  (nat_lit 289, ⟨.type "code", none, .fields [.str (Str.ofString "_law_roads") 697, .str (Str.ofString "_law_roads") 698, .str (Str.ofString "/claim/cut.py") 699, .int 176 0, .int 1 0, .int 0 0, .int 0 0, .int 3 0, .ref 286, .bool true, .int 276 0, .ref 287, .none, .none, .none, .ref 288, .int 700 0, .int 176 0, .str (Str.ofString "/claim/cut.py") 701].toArray, [].toArray⟩) ::
  (nat_lit 290, fobj (top 23) (Str.ofString "_law_roads") (.none) (.none) (.none) (.str (Str.ofString "law_wj0053_01") 655) none (.ref 289) (.none) none [] 3 0) ::
  (nat_lit 291, ⟨.type "tuple", none, .seq [].toArray 0, [].toArray⟩) ::
  (nat_lit 294, ⟨.type "code", none, .fields [.str (Str.ofString "_law_ways") 703, .str (Str.ofString "_law_ways") 704, .str (Str.ofString "/claim/cut.py") 705, .int 183 0, .int 2 0, .int 0 0, .int 0 0, .int 3 0, .ref 291, .bool true, .int 276 0, .ref 292, .none, .none, .none, .ref 293, .int 706 0, .int 183 0, .str (Str.ofString "/claim/cut.py") 707].toArray, [].toArray⟩) ::
  (nat_lit 295, fobj (top 24) (Str.ofString "_law_ways") (.none) (.none) (.none) (.str (Str.ofString "law_wj0053_01") 655) none (.ref 294) (.none) none [] 3 0) ::
  (nat_lit 296, ⟨.type "tuple", none, .seq [].toArray 0, [].toArray⟩) ::
  (nat_lit 298, ⟨.type "tuple", none, .seq [.str (Str.ofString "ties") 712, .str (Str.ofString "k") 713, .str (Str.ofString "far") 714, .str (Str.ofString "rim") 715, .str (Str.ofString "seen") 716, .str (Str.ofString "step") 717, .str (Str.ofString "fresh") 718, .str (Str.ofString "j") 719].toArray 0, [].toArray⟩) ::
  (nat_lit 299, ⟨.type "tuple", none, .seq [].toArray 0, [].toArray⟩) ::
  (nat_lit 301, ⟨.type "code", none, .fields [.str (Str.ofString "_law_rings") 709, .str (Str.ofString "_law_rings") 710, .str (Str.ofString "/claim/cut.py") 711, .int 194 0, .int 2 0, .int 0 0, .int 0 0, .int 3 0, .ref 296, .bool true, .int 276 0, .ref 297, .none, .ref 298, .ref 299, .ref 300, .int 720 0, .int 194 0, .str (Str.ofString "/claim/cut.py") 721].toArray, [].toArray⟩) ::
  (nat_lit 302, fobj (top 25) (Str.ofString "_law_rings") (.none) (.none) (.none) (.str (Str.ofString "law_wj0053_01") 655) none (.ref 301) (.none) none [] 3 0) ::
  (nat_lit 303, ⟨.type "tuple", none, .seq [].toArray 0, [].toArray⟩) ::
  (nat_lit 306, ⟨.type "code", none, .fields [.str (Str.ofString "_law_due") 723, .str (Str.ofString "_law_due") 724, .str (Str.ofString "/claim/cut.py") 725, .int 207 0, .int 1 0, .int 0 0, .int 0 0, .int 3 0, .ref 303, .bool true, .int 276 0, .ref 304, .none, .none, .none, .ref 305, .int 726 0, .int 207 0, .str (Str.ofString "/claim/cut.py") 727].toArray, [].toArray⟩) ::
  (nat_lit 307, fobj (top 26) (Str.ofString "_law_due") (.none) (.none) (.none) (.str (Str.ofString "law_wj0053_01") 655) none (.ref 306) (.none) none [] 3 0) ::
  (nat_lit 308, ⟨.type "tuple", none, .seq [].toArray 0, [].toArray⟩) ::
  (nat_lit 311, ⟨.type "code", none, .fields [.str (Str.ofString "_law_ptolemy") 729, .str (Str.ofString "_law_ptolemy") 730, .str (Str.ofString "/claim/cut.py") 731, .int 215 0, .int 1 0, .int 0 0, .int 0 0, .int 3 0, .ref 308, .bool true, .int 276 0, .ref 309, .none, .none, .none, .ref 310, .int 732 0, .int 215 0, .str (Str.ofString "/claim/cut.py") 733].toArray, [].toArray⟩) ::
  (nat_lit 312, fobj (top 27) (Str.ofString "_law_ptolemy") (.none) (.none) (.none) (.str (Str.ofString "law_wj0053_01") 655) none (.ref 311) (.none) none [] 3 0) ::
  (nat_lit 313, ⟨.type "tuple", none, .seq [].toArray 0, [].toArray⟩) ::
  (nat_lit 316, ⟨.type "code", none, .fields [.str (Str.ofString "_law_count") 735, .str (Str.ofString "_law_count") 736, .str (Str.ofString "/claim/cut.py") 737, .int 224 0, .int 1 0, .int 0 0, .int 0 0, .int 3 0, .ref 313, .bool true, .int 276 0, .ref 314, .none, .none, .none, .ref 315, .int 738 0, .int 224 0, .str (Str.ofString "/claim/cut.py") 739].toArray, [].toArray⟩) ::
  (nat_lit 317, fobj (top 28) (Str.ofString "_law_count") (.none) (.none) (.none) (.str (Str.ofString "law_wj0053_01") 655) none (.ref 316) (.none) none [] 3 0) ::
  (nat_lit 318, ⟨.type "tuple", none, .seq [].toArray 0, [].toArray⟩) ::
  (nat_lit 321, ⟨.type "code", none, .fields [.str (Str.ofString "law") 741, .str (Str.ofString "law") 742, .str (Str.ofString "/claim/cut.py") 743, .int 233 0, .int 1 0, .int 0 0, .int 0 0, .int 3 0, .ref 318, .bool true, .int 276 0, .ref 319, .none, .none, .none, .ref 320, .int 744 0, .int 233 0, .str (Str.ofString "/claim/cut.py") 745].toArray, [].toArray⟩) ::
  (nat_lit 322, fobj (top 29) (Str.ofString "law") (.none) (.none) (.none) (.str (Str.ofString "law_wj0053_01") 655) none (.ref 321) (.none) none [] 3 0) :: []
noncomputable def kAddrs : List Addr := nat_lit 1 :: nat_lit 2 :: nat_lit 3 :: nat_lit 32 :: nat_lit 34 :: nat_lit 35 :: nat_lit 37 :: nat_lit 38 :: nat_lit 46 :: nat_lit 48 :: nat_lit 49 :: nat_lit 51 :: nat_lit 52 :: nat_lit 53 :: nat_lit 54 :: nat_lit 55 :: nat_lit 56 :: nat_lit 57 :: nat_lit 60 :: nat_lit 61 :: nat_lit 62 :: nat_lit 64 :: nat_lit 65 :: nat_lit 67 :: nat_lit 68 :: nat_lit 69 :: nat_lit 71 :: nat_lit 72 :: nat_lit 74 :: nat_lit 75 :: nat_lit 76 :: nat_lit 83 :: nat_lit 84 :: nat_lit 85 :: nat_lit 86 :: nat_lit 89 :: nat_lit 96 :: nat_lit 97 :: nat_lit 98 :: nat_lit 101 :: nat_lit 103 :: nat_lit 104 :: nat_lit 106 :: nat_lit 107 :: nat_lit 111 :: nat_lit 112 :: nat_lit 116 :: nat_lit 117 :: nat_lit 121 :: nat_lit 122 :: nat_lit 123 :: nat_lit 124 :: nat_lit 126 :: nat_lit 127 :: nat_lit 129 :: nat_lit 130 :: nat_lit 138 :: nat_lit 139 :: nat_lit 141 :: nat_lit 142 :: nat_lit 144 :: nat_lit 145 :: nat_lit 146 :: nat_lit 148 :: nat_lit 149 :: nat_lit 151 :: nat_lit 152 :: nat_lit 153 :: nat_lit 155 :: nat_lit 156 :: nat_lit 158 :: nat_lit 159 :: nat_lit 160 :: nat_lit 162 :: nat_lit 163 :: nat_lit 165 :: nat_lit 166 :: nat_lit 167 :: nat_lit 170 :: nat_lit 171 :: nat_lit 172 :: nat_lit 174 :: nat_lit 175 :: nat_lit 177 :: nat_lit 178 :: nat_lit 179 :: nat_lit 181 :: nat_lit 182 :: nat_lit 184 :: nat_lit 185 :: nat_lit 186 :: nat_lit 188 :: nat_lit 189 :: nat_lit 191 :: nat_lit 192 :: nat_lit 193 :: nat_lit 194 :: nat_lit 196 :: nat_lit 197 :: nat_lit 199 :: nat_lit 200 :: nat_lit 201 :: nat_lit 204 :: nat_lit 205 :: nat_lit 206 :: nat_lit 209 :: nat_lit 210 :: nat_lit 211 :: nat_lit 213 :: nat_lit 214 :: nat_lit 216 :: nat_lit 217 :: nat_lit 218 :: nat_lit 220 :: nat_lit 221 :: nat_lit 223 :: nat_lit 224 :: nat_lit 225 :: nat_lit 228 :: nat_lit 229 :: nat_lit 230 :: nat_lit 232 :: nat_lit 233 :: nat_lit 235 :: nat_lit 236 :: nat_lit 237 :: nat_lit 239 :: nat_lit 240 :: nat_lit 242 :: nat_lit 243 :: nat_lit 244 :: nat_lit 246 :: nat_lit 247 :: nat_lit 249 :: nat_lit 250 :: nat_lit 251 :: nat_lit 252 :: nat_lit 253 :: nat_lit 254 :: nat_lit 255 :: nat_lit 258 :: nat_lit 260 :: nat_lit 261 :: nat_lit 263 :: nat_lit 264 :: nat_lit 265 :: nat_lit 267 :: nat_lit 268 :: nat_lit 270 :: nat_lit 271 :: nat_lit 272 :: nat_lit 274 :: nat_lit 275 :: nat_lit 277 :: nat_lit 278 :: nat_lit 279 :: nat_lit 281 :: nat_lit 282 :: nat_lit 284 :: nat_lit 285 :: nat_lit 286 :: nat_lit 289 :: nat_lit 290 :: nat_lit 291 :: nat_lit 294 :: nat_lit 295 :: nat_lit 296 :: nat_lit 298 :: nat_lit 299 :: nat_lit 301 :: nat_lit 302 :: nat_lit 303 :: nat_lit 306 :: nat_lit 307 :: nat_lit 308 :: nat_lit 311 :: nat_lit 312 :: nat_lit 313 :: nat_lit 316 :: nat_lit 317 :: nat_lit 318 :: nat_lit 321 :: nat_lit 322 :: []
noncomputable def topRunT (tb : String → Option Builtin) (p : Program) (w : World) (n₀ : Nat) (ann : Option Value) : Nat → SharedT → Thread → Option SharedT
  | 0, _, _ => none
  | n + 1, s, t => match through t with
    | true => some s
    | false => match stepOk n₀ ann t with
      | false => none
      | true => match stepT (denote tb) p w s t with
        | some (s', t') => topRunT tb p w n₀ ann n s' t'
        | none => none
theorem topRunT_of {tb : String → Option Builtin} {p : Program} {w : World} {n₀ : Nat} {ann : Option Value} : ∀ {n : Nat} {s s' : SharedT} {t : Thread}, topRunT tb p w n₀ ann n s t = some s' → topRun tb p w n₀ ann n s.abs t = some s'.abs
  | 0, _, _, _, h => by cases h
  | n + 1, s, s', t, h => by
    unfold topRunT at h
    unfold topRun
    cases he : through t with
    | true => rw [he] at h; cases h; rfl
    | false =>
      rw [he] at h
      cases hk : stepOk n₀ ann t with
      | false => rw [hk] at h; cases h
      | true =>
        rw [hk] at h
        cases hs : stepT (denote tb) p w s t with
        | none => rw [hs] at h; cases h
        | some r => obtain ⟨s₂, t₂⟩ := r; rw [hs] at h; rw [stepT_spec hs]; exact topRunT_of h
noncomputable def treeOf : List Obj → Nat → BT → BT
  | [], _, t => t
  | o :: r, n, t => treeOf r (n + 1) (t.ins n o)
noncomputable def kTree (P : Params) : BT := treeOf (kStart P) 0 .nil
noncomputable abbrev kXt (s : Shared) : Bool := xlAt kView [] s && recOk (RowW.records PySem.Challenge.rw_wj0053_01.row.toRowW) s
/-- the whole top in one run over a tree of objects -/
theorem left_of {p q : Program} {loose : List Str} {Xt : Shared → Bool} {N n₀ tk : Nat} {H : Params → Heap} {L : Params → List Obj} {T : Params → BT} {ann : Option Value} {as : List Addr} {V : World → List (Option Obj)}
    (open_ : ∀ w : World, (fencedOpening treeTable p w N).map (fun s => (s.heap.objs.toList, s.heap.life, s.gens, s.drawn, s.toks)) = some (L w.params, {}, #[], {}, tk))
    (hH : ∀ P, H P = ⟨(L P).toArray, {}⟩) (hT : ∀ P, H P = absHeap (T P) n₀ {})
    (size : ∀ w : World, ((H w.params).isNs mainGlobals && (#[] : Array GenState).size == 0, (H w.params).objs.size, (H w.params).nsMap mainGlobals (Str.ofString "__annotations__")) = (true, n₀, ann))
    (run : ∀ (w : World) (os : OsState), (topRunT treeTable p w n₀ ann N ⟨T w.params, n₀, {}, #[], {}, tk, os⟩ (topStub p)).map (fun s =>
        (staticsOk (importedModules p.main.body) (H w.params) s.abs.heap && namesBound p s.abs.heap && gensDone s.abs && laidKept (H w.params) s.abs.heap, openSeen q loose (importedModules p.main.body) Xt true s.abs, as.map s.abs.heap.get?)) = some (true, openGood q loose, V w)) :
    LeftO p q loose Xt (fun s => as.map s.heap.get?) V N := fun w => by
  obtain ⟨⟨⟨⟨ol⟩, lf⟩, gs, d, k, os⟩, e, e'⟩ := Option.map_eq_some_iff.mp (open_ w)
  simp only [Prod.mk.injEq] at e'
  obtain ⟨rfl, rfl, rfl, rfl, rfl⟩ := e'
  have z := size w
  simp only [Prod.mk.injEq] at z
  obtain ⟨z1, z2, z3⟩ := z
  obtain ⟨s₁, r, l⟩ := Option.map_eq_some_iff.mp (run w os)
  simp only [Prod.mk.injEq] at l
  obtain ⟨l1, l2, l3⟩ := l
  have r' := topRunT_of r
  have hs : (⟨⟨(L w.params).toArray, {}⟩, #[], {}, k, os⟩ : Shared) = ⟨H w.params, #[], {}, k, os⟩ := by rw [hH]
  have t : topFrom treeTable p w N ⟨H w.params, #[], {}, k, os⟩ = some s₁.abs := by
    unfold topFrom
    dsimp only
    rw [z1, z2, z3]
    have q1 : (⟨H w.params, #[], {}, k, os⟩ : Shared) = (⟨T w.params, n₀, {}, #[], {}, k, os⟩ : SharedT).abs := by unfold SharedT.abs; rw [hT]
    simp only [q1, r', Option.bind_some]
    rw [l1]
  unfold openEnds
  rw [e]
  simp only [Option.bind_some]
  rw [show (⟨⟨⟨L w.params⟩, {}⟩, #[], {}, k, os⟩ : Shared) = ⟨H w.params, #[], {}, k, os⟩ from hs, t]
  exact congrArg some (Prod.ext l2 l3)
noncomputable abbrev kH0 (P : Params) : Heap := absHeap (kTree P) 28 {}
theorem kOpen : ∀ w : World, (fencedOpening treeTable kP w 4448).map (fun s => (s.heap.objs.toList, s.heap.life, s.gens, s.drawn, s.toks)) = some (kStart w.params, {}, #[], {}, 276) := fun w => by kernel_rfl
theorem kH0_eq : ∀ P, kH0 P = ⟨(kStart P).toArray, {}⟩ := fun P => by kernel_rfl
theorem kSize : ∀ w : World, ((kH0 w.params).isNs mainGlobals && (#[] : Array GenState).size == 0, (kH0 w.params).objs.size, (kH0 w.params).nsMap mainGlobals (Str.ofString "__annotations__")) = (true, 28, some (Value.ref 6)) := fun w => by kernel_rfl
theorem kRun : ∀ (w : World) (os : OsState), (topRunT treeTable kP w 28 (some (Value.ref 6)) 4448 ⟨kTree w.params, 28, {}, #[], {}, 276, os⟩ (topStub kP)).map (fun s =>
        (staticsOk (importedModules kP.main.body) (kH0 w.params) s.abs.heap && namesBound kP s.abs.heap && gensDone s.abs && laidKept (kH0 w.params) s.abs.heap, openSeen kView kLoose (importedModules kP.main.body) kXt true s.abs, kAddrs.map s.abs.heap.get?)) =
    some (true, openGood kView kLoose, (kHeap w.params).map fun p => some p.2) := fun w os => by kernel_rfl
theorem kAddrs_eq : ∀ P : Params, kAddrs = (kHeap P).map (·.1) := fun P => by kernel_rfl
theorem kLeft : LeftO kP kView kLoose kXt (kHook kHeap kAddrs kAddrs_eq).obs (kHook kHeap kAddrs kAddrs_eq).val 4448 := left_of kOpen kH0_eq (fun _ => rfl) kSize kRun

end
section
noncomputable abbrev prog1 : Program := PySem.Challenge.rw_wj0053_01.row.prog
noncomputable abbrev loose1 : List Str := looseW kView kLoose

noncomputable abbrev Ar (dp un : Nat) (gd : Option (List Code)) (fr : List Env) : Around := { handled := none, depth := dp, frames := some fr, guards := gd, units := un }

noncomputable def Kept (g h : Heap) : Prop := ∀ b o, g.get? b = some o → h.get? b = some o
theorem Kept.refl (g : Heap) : Kept g g := fun _ _ e => e
theorem Kept.trans {a b c : Heap} (x : Kept a b) (y : Kept b c) : Kept a c := fun i o e => y i o (x i o e)

theorem hideAll_some {h : Heap} {b : Addr} {o : Obj} {l : List Addr} (e : (hideAll h l).get? b = some o) : b ∉ l := fun hb => by
  rw [hideAll_none l hb] at e; cases e

section
variable {prog : Program} {w : World} {A : Around} {s : Shared} {K : Frag} {name qual : Str} {params : Arguments} {body : List Stmt} {scope : Scope} {dV kV doc pm cdv ct oc : Value} {an od : Option Addr} {osl : Array (Option Value)} {f : Addr} {args : List Value} {kw : List (Str × Value)} {binds : List (Str × Value)} {base : Heap} {fr : List Env} {hid : List (Addr × Obj)}
  {Q E : Value → Shared → Prop}

/-- a call of a def without cells: what may change is told -/
theorem enterM (hid : List (Addr × Obj)) (X : K.In (hideAll s.heap (hid.map (·.1)))) (hlim : (hideAll s.heap (hid.map (·.1))).NoLimit) (hh : ∀ p ∈ hid, s.heap.get? p.1 = some p.2)
    (ho : K.lookup f = some ⟨oc, od, .func (fnOf name qual params body scope dV kV doc pm an cdv ct), osl⟩) (hcd : codeIn K cdv qual = true) (hroom : A.depth < recursionLimit)
    (hbind : BindsTo s (fnOf name qual params body scope dV kV doc pm an cdv ct) ⟨args, kw⟩ binds) (hloc : ∀ y ∈ binds, scope.names.lookup y.1 = some .local)
    (h : ∀ L h₁, L = s.heap.objs.size → Fr (hideAll s.heap (hid.map (·.1))) L h₁ (fun y => binds.reverse.lookup y) → News (hideAll s.heap (hid.map (·.1))) L h₁ hid → (∀ p ∈ hid, p.1 < L) →
      wpAny (model prog w) (A.deeper (envOf qual scope L f cdv)) (execs body (envOf qual scope L f cdv))
        (fun fl s' => Q (match fl with | .ret v => v | _ => .none) s')
        (fun e s' => wpAny (model prog w) (A.deeper (envOf qual scope L f cdv)) (leaving (envOf qual scope L f cdv) e) (fun _ s'' => E e s'') (fun e' s'' => E e' s'') s')
        { s with heap := h₁, toks := s.toks + binds.length })
    (hco : scope.isCoroutine = false) (hgen : scope.isGenerator = false) (hk : scope.kind = .function)
    (hcell : ∀ x ∈ scope.names, x.2 ≠ .cell) : wpAny (model prog w) A (call (.ref f) args kw) Q E s := by
  have up : Kept (hideAll s.heap (hid.map (·.1))) s.heap := fun b o e => of_hideAll _ e
  refine wpAny_call (codeAny_call_def (fd := fnOf name qual params body scope dV kV doc pm an cdv ct) (body := body) (binds := binds) hroom (up _ _ (X _ _ ho)) rfl (hlim.keeps up) ((codeRec_of X hcd).keeps up) rfl hbind hcell hloc (fun h₁ hns hk₁ => ?_) hco hgen hk)
  exact h _ h₁ rfl ⟨hns, fun b o e => hk₁ b o (up _ _ e), Nat.le_of_eq (hideAll_size _ _)⟩
    (fun p hp => ⟨hk₁ _ _ (hh p hp), Nat.ne_of_lt (Heap.lt_size (hh p hp)), hideAll_none _ (List.mem_map_of_mem hp)⟩) fun p hp => Heap.lt_size (hh p hp)

/-- the same with cells -/
theorem enterMC (hid : List (Addr × Obj)) (X : K.In (hideAll s.heap (hid.map (·.1)))) (hlim : (hideAll s.heap (hid.map (·.1))).NoLimit) (hh : ∀ p ∈ hid, s.heap.get? p.1 = some p.2)
    (ho : K.lookup f = some ⟨oc, od, .func (fnOf name qual params body scope dV kV doc pm an cdv ct), osl⟩) (hcd : codeIn K cdv qual = true) (hroom : A.depth < recursionLimit)
    (hbind : BindsTo s (fnOf name qual params body scope dV kV doc pm an cdv ct) ⟨args, kw⟩ binds)
    (hkind : (binds.all fun y => scope.names.lookup y.1 == some .local || scope.names.lookup y.1 == some .cell) = true)
    (hnd : ((cellsFrom 0 scope.names []).map (·.1)).Nodup)
    (h : ∀ L h₁ tk cells, L = s.heap.objs.size → Fr (hideAll s.heap (hid.map (·.1))) L h₁ (bindL (envOfC qual scope L f cdv).kindOf binds fun _ => none) → News (hideAll s.heap (hid.map (·.1))) L h₁ (cells ++ hid) →
      CellsAre (bindC (envOfC qual scope L f cdv).kindOf binds fun _ => none) (cellsFrom (L + 1) scope.names []) cells → (∀ p ∈ hid, p.1 < L) →
      wpAny (model prog w) (A.deeper (envOfC qual scope L f cdv)) (execs body (envOfC qual scope L f cdv))
        (fun fl s' => Q (match fl with | .ret v => v | _ => .none) s')
        (fun e s' => wpAny (model prog w) (A.deeper (envOfC qual scope L f cdv)) (leaving (envOfC qual scope L f cdv) e) (fun _ s'' => E e s'') (fun e' s'' => E e' s'') s')
        { s with heap := h₁, toks := tk })
    (hco : scope.isCoroutine = false) (hgen : scope.isGenerator = false) (hk : scope.kind = .function) : wpAny (model prog w) A (call (.ref f) args kw) Q E s := by
  have up : Kept (hideAll s.heap (hid.map (·.1))) s.heap := fun b o e => of_hideAll _ e
  refine wpAny_call (codeAny_call_function hroom (up _ _ (X _ _ ho)) rfl hco hgen rfl ((codeRec_of X hcd).keeps up) (hbind _ _ _ _ ?_))
  refine wpAny_newFunctionEnv_cells hk (kindsX hkind _) fun env' he s' x => ?_
  subst he
  refine ⟨(hlim.keeps up).keeps x.toInCall.keep, codeAny_func ?_⟩
  obtain ⟨h₁, tk, rfl, _⟩ := x.done
  have hk₁ := x.toInCall.keep
  obtain ⟨cells, NC, Y⟩ := Cl.news (h₀ := s.heap) (Nat.le_refl _) fun n c hm => ⟨x.cell n c (lookup_of_mem_nodup (cellsFrom_names scope.names 0 (s.heap.objs.size + 1) [] [] rfl ▸ hnd) hm), x.above n c hm⟩
  refine h _ h₁ tk cells rfl ⟨x.toInCall.ns, fun b o e => hk₁ b o (up _ _ e), Nat.le_of_eq (hideAll_size _ _)⟩ (fun p hp => ?_) Y fun p hp => Heap.lt_size (hh p hp)
  rcases List.mem_append.mp hp with hp | hp
  · refine ⟨(NC p hp).1, (NC p hp).2.1, ?_⟩
    cases q : (hideAll s.heap (hid.map (·.1))).get? p.1 with
    | none => rfl
    | some o => have := up _ _ q; rw [(NC p hp).2.2] at this; cases this
  · exact ⟨hk₁ _ _ (hh p hp), Nat.ne_of_lt (Heap.lt_size (hh p hp)), hideAll_none _ (List.mem_map_of_mem hp)⟩
end

/-- what a contract knows of where it is called -/
structure Here (w : World) (mean : ExcName → Option Value) (mg mb : Str → Option Value) (dp un : Nat) (gd : Option (List Code)) (fr : List Env) (base g : Heap) (need : Nat) : Prop where
  B : Below (Ar dp un gd fr) base fr g
  X : (kHeap w.params).In g
  T : Top kView loose1 mean mg mb g
  d : dp + need < recursionLimit
  u : un + 8 * need < cLine

/-- a contract: what may change (hid), what is asked of the rest (pre), what is told behind it (post) -/
noncomputable def Ctr (w : World) (mean : ExcName → Option Value) (mg mb : Str → Option Value) (need : Nat) (f : Addr) (args : List Value) (kw : List (Str × Value)) (hid : List (Addr × Obj)) (pre : Heap → Prop) (post : Heap → Heap → Value → Prop) : Prop :=
  ∀ (dp un : Nat) (gd : Option (List Code)) (fr : List Env) (base : Heap) (s : Shared) (Q E : Value → Shared → Prop),
    Here w mean mg mb dp un gd fr base (hideAll s.heap (hid.map (·.1))) need → (∀ p ∈ hid, s.heap.get? p.1 = some p.2) → pre (hideAll s.heap (hid.map (·.1))) →
    (∀ v h' tk', Kept (hideAll s.heap (hid.map (·.1))) h' → post (hideAll s.heap (hid.map (·.1))) h' v → Q v { s with heap := h', toks := tk' }) →
    wpAny (model prog1 w) (Ar dp un gd fr) (call (.ref f) args kw) Q E s

section
variable {w : World} {mean : ExcName → Option Value} {mg mb : Str → Option Value} {need : Nat} {f : Addr} {args : List Value} {kw : List (Str × Value)} {pre : Heap → Prop} {post : Heap → Heap → Value → Prop}
  {A₀ A : Around} {base h₀ : Heap} {outer : List Env} {env : Env} {L : Addr} {m : Str → Option Value} {news : List (Addr × Obj)} {s : Shared} {Q E : Value → Shared → Prop} {dp un : Nat} {gd : Option (List Code)}

theorem top_news {h₀ g h h' : Heap} {L : Addr} {m : Str → Option Value} (F : Fr h₀ L h m) (k : Kept g h') (kk : Kept h g) {a : Addr} {o : Obj} (e : h'.get? a = some o) (n : g.get? a = none) : h'.get? a = some o ∧ a ≠ L ∧ h₀.get? a = none := by
  refine ⟨e, fun q => ?_, ?_⟩
  · obtain ⟨oL, _, _, hL, _⟩ := F.ns
    have := kk _ _ hL
    rw [← q, n] at this; cases this
  · cases q : h₀.get? a with
    | none => rfl
    | some o' => have := kk _ _ (F.keep _ _ q); rw [n] at this; cases this

/-- the use of a contract that changes nothing -/
theorem ctr_pure (C : Ctr w mean mg mb need f args kw [] pre post) (B : Below A₀ base outer h₀) (F : Fr h₀ L s.heap m) (X : (kHeap w.params).In h₀) (T : Top kView loose1 mean mg mb h₀)
    (hA : A = Ar dp un gd (env :: outer)) (hf : env.frame = some L) (hke : env.scope.kind = .function) (hp : pre s.heap) (hd : dp + need < recursionLimit) (hu : un + 8 * need < cLine)
    (h : ∀ v h' tk', Kept s.heap h' → Fr h₀ L h' m → post s.heap h' v → Q v { s with heap := h', toks := tk' }) :
    wpAny (model prog1 w) A (call (.ref f) args kw) Q E s := by
  subst hA
  have B₁ := pushX B F hf hke
  exact C dp un gd (env :: outer) base s Q E ⟨⟨rfl, B₁.stays, B₁.frames⟩, X.keeps F.keep, T.keeps F.keep, hd, hu⟩ (fun _ h => (nomatch h)) hp fun v h' tk' k p => h v h' tk' k (F.keeps k) p

/-- the use of a contract that changes some of the ledger -/
theorem ctr_mut {hid : List (Addr × Obj)} (C : Ctr w mean mg mb need f args kw hid pre post) (B : Below A₀ base outer h₀) (F : Fr h₀ L s.heap m) (X : (kHeap w.params).In h₀) (T : Top kView loose1 mean mg mb h₀)
    (N : News h₀ L s.heap hid)
    (hA : A = Ar dp un gd (env :: outer)) (hf : env.frame = some L) (hke : env.scope.kind = .function) (hp : pre (hideAll s.heap (hid.map (·.1)))) (hd : dp + need < recursionLimit) (hu : un + 8 * need < cLine)
    (h : ∀ v h' tk', Kept (hideAll s.heap (hid.map (·.1))) h' → Fr h₀ L h' m → post (hideAll s.heap (hid.map (·.1))) h' v → Q v { s with heap := h', toks := tk' }) :
    wpAny (model prog1 w) A (call (.ref f) args kw) Q E s := by
  subst hA
  obtain ⟨FG, BG, st, _⟩ := groundX (A := Ar dp un gd (env :: outer)) (R := fun _ _ => True) B F N rfl hf hke
  exact C dp un gd (env :: outer) base s Q E ⟨BG, X.keeps st, T.keeps st, hd, hu⟩ (fun p hp => (N p hp).1) hp fun v h' tk' k p => h v h' tk' k (FG.keeps k) p
end
theorem ctr_of {w : World} {mean : ExcName → Option Value} {mg mb : Str → Option Value} {need : Nat} {f : Addr} {args : List Value} {kw : List (Str × Value)} {pre : Heap → Prop} {post : Heap → Heap → Value → Prop}
    (h : ∀ (dp un : Nat) (gd : Option (List Code)) (fr : List Env) (base : Heap) (s : Shared) (Q E : Value → Shared → Prop),
      Below (Ar dp un gd fr) base fr s.heap → (kHeap w.params).In s.heap → Top kView loose1 mean mg mb s.heap → dp + need < recursionLimit → un + 8 * need < cLine → pre s.heap →
      (∀ v h' tk', Kept s.heap h' → post s.heap h' v → Q v { s with heap := h', toks := tk' }) → wpAny (model prog1 w) (Ar dp un gd fr) (call (.ref f) args kw) Q E s) : Ctr w mean mg mb need f args kw [] pre post :=
  fun dp un gd fr base s Q E H _ hp ret => h dp un gd fr base s Q E H.B H.X H.T H.d H.u hp ret
theorem enterP {prog : Program} {w : World} {A : Around} {s : Shared} {K : Frag} {name qual : Str} {params : Arguments} {body : List Stmt} {scope : Scope} {dV kV doc pm cdv ct oc : Value} {an od : Option Addr} {osl : Array (Option Value)} {f : Addr} {args : List Value} {kw : List (Str × Value)} {binds : List (Str × Value)}
    {Q E : Value → Shared → Prop} (X : K.In s.heap) (hlim : s.heap.NoLimit)
    (ho : K.lookup f = some ⟨oc, od, .func (fnOf name qual params body scope dV kV doc pm an cdv ct), osl⟩) (hcd : codeIn K cdv qual = true) (hroom : A.depth < recursionLimit)
    (hbind : BindsTo s (fnOf name qual params body scope dV kV doc pm an cdv ct) ⟨args, kw⟩ binds) (hloc : ∀ y ∈ binds, scope.names.lookup y.1 = some .local)
    (h : ∀ L h₁, L = s.heap.objs.size → Fr s.heap L h₁ (fun y => binds.reverse.lookup y) → News s.heap L h₁ [] →
      wpAny (model prog w) (A.deeper (envOf qual scope L f cdv)) (execs body (envOf qual scope L f cdv))
        (fun fl s' => Q (match fl with | .ret v => v | _ => .none) s')
        (fun e s' => wpAny (model prog w) (A.deeper (envOf qual scope L f cdv)) (leaving (envOf qual scope L f cdv) e) (fun _ s'' => E e s'') (fun e' s'' => E e' s'') s')
        { s with heap := h₁, toks := s.toks + binds.length })
    (hco : scope.isCoroutine = false) (hgen : scope.isGenerator = false) (hk : scope.kind = .function)
    (hcell : ∀ x ∈ scope.names, x.2 ≠ .cell) : wpAny (model prog w) A (call (.ref f) args kw) Q E s :=
  enterM [] X hlim (fun _ h => nomatch h) ho hcd hroom hbind hloc (fun L h₁ e F N _ => h L h₁ e F N) hco hgen hk hcell
theorem enterPC {prog : Program} {w : World} {A : Around} {s : Shared} {K : Frag} {name qual : Str} {params : Arguments} {body : List Stmt} {scope : Scope} {dV kV doc pm cdv ct oc : Value} {an od : Option Addr} {osl : Array (Option Value)} {f : Addr} {args : List Value} {kw : List (Str × Value)} {binds : List (Str × Value)}
    {Q E : Value → Shared → Prop} (X : K.In s.heap) (hlim : s.heap.NoLimit)
    (ho : K.lookup f = some ⟨oc, od, .func (fnOf name qual params body scope dV kV doc pm an cdv ct), osl⟩) (hcd : codeIn K cdv qual = true) (hroom : A.depth < recursionLimit)
    (hbind : BindsTo s (fnOf name qual params body scope dV kV doc pm an cdv ct) ⟨args, kw⟩ binds)
    (hkind : (binds.all fun y => scope.names.lookup y.1 == some .local || scope.names.lookup y.1 == some .cell) = true)
    (hnd : ((cellsFrom 0 scope.names []).map (·.1)).Nodup)
    (h : ∀ L h₁ tk cells, L = s.heap.objs.size → Fr s.heap L h₁ (bindL (envOfC qual scope L f cdv).kindOf binds fun _ => none) → News s.heap L h₁ cells →
      CellsAre (bindC (envOfC qual scope L f cdv).kindOf binds fun _ => none) (cellsFrom (L + 1) scope.names []) cells →
      wpAny (model prog w) (A.deeper (envOfC qual scope L f cdv)) (execs body (envOfC qual scope L f cdv))
        (fun fl s' => Q (match fl with | .ret v => v | _ => .none) s')
        (fun e s' => wpAny (model prog w) (A.deeper (envOfC qual scope L f cdv)) (leaving (envOfC qual scope L f cdv) e) (fun _ s'' => E e s'') (fun e' s'' => E e' s'') s')
        { s with heap := h₁, toks := tk })
    (hco : scope.isCoroutine = false) (hgen : scope.isGenerator = false) (hk : scope.kind = .function) : wpAny (model prog w) A (call (.ref f) args kw) Q E s :=
  enterMC [] X hlim (fun _ h => nomatch h) ho hcd hroom hbind hkind hnd (fun L h₁ tk cells e F N Y _ => h L h₁ tk cells e F (by rw [List.append_nil] at N; exact N) Y) hco hgen hk
theorem fill : PySem.Challenge.rw_wj0053_01 = PySem.Challenge.rw_wj0053_01 ∧ kHeap = kHeap := by k_fill; exact ⟨rfl, rfl⟩
end
section
section
variable {prog : Program} {w : World} {A : Around} {E : Value → Shared → Prop} {s : Shared} {env : Env} {h₀ : Heap} {x : Str} {body : List Stmt} {Q : Flow → Shared → Prop}

/-- what stands between two turns of a for -/
noncomputable def LpJ {σ : Type} (ps : σ → List (Str × Value)) (Led : σ → List (Addr × Obj)) (P : Nat → σ → Prop) (stored : List Str) (x : Str) (m₀ : Str → Option Value) (i : Nat) (m : Str → Option Value) (nx : List (Addr × Obj)) : Prop :=
  ∃ c, nx = Led c ∧ P i c ∧ (∀ p ∈ ps c, m p.1 = some p.2) ∧ (∀ z, z ≠ x → (∀ p ∈ ps c, z ≠ p.1) → stored.contains z = false → m z = m₀ z)

theorem lp_end {σ : Type} {ps : σ → List (Str × Value)} {Led : σ → List (Addr × Obj)} {P : Nat → σ → Prop} {stored : List Str} {m₀ : Str → Option Value} {i : Nat} {L : Addr} {m' : Str → Option Value} {own news' : List (Addr × Obj)} {s₁ : Shared} {h' : Heap} {tk : Nat} (c' : σ)
    (F : Fr h₀ L h' m') (N : News h₀ L h' news') (hn : ∀ p ∈ Led c', p ∈ news') (ho : ∀ p ∈ own, p ∈ news') (hoff : OwnOff own ((Led c').map (·.1)))
    (hk : ∀ p ∈ ps c', m' p.1 = some p.2) (hr : ∀ z, z ≠ x → (∀ p ∈ ps c', z ≠ p.1) → stored.contains z = false → m' z = m₀ z) (hp : P i c') :
    InvEndG h₀ L (LpJ ps Led P stored x m₀ i) own s₁ { s₁ with heap := h', toks := tk } :=
  ⟨h', tk, m', news', Led c', rfl, F, N, hn, ho, hoff, c', rfl, hp, hk, hr⟩

theorem lp_range {σ : Type} {r : Addr} {a₀ b₀ : Int} {t₀ u₀ v₀ : Tok} {n : Nat} {m₀ : Str → Option Value} {news : List (Addr × Obj)} (ps : σ → List (Str × Value)) (Led : σ → List (Addr × Obj)) (P : Nat → σ → Prop) (stored : List Str) (c₀ : σ)
    (hh : A.handled = none) (hr : IsRange s.heap r a₀ b₀ 1 t₀ u₀ v₀) (hsmall : Builtin.Range.small a₀ b₀ 1 = true) (hsz : Builtin.Range.rangeSize a₀ b₀ 1 = (n : Int)) (F : Fr h₀ env.locals s.heap m₀) (N : News h₀ env.locals s.heap news) (hn : ∀ p ∈ Led c₀, p ∈ news) (hk : ∀ p ∈ ps c₀, m₀ p.1 = some p.2) (hp : P 0 c₀)
    (turn : ∀ (i : Nat) (c : σ) t (u : Str → Option Value) h tk own, i < n → P i c → OwnOff own ((Led c).map (·.1)) →
      Fr h₀ env.locals h (fun y => if y = x then some (.int (a₀ + (i : Int)) t) else kstB (fun z => if stored.contains z then u z else m₀ z) (ps c) y) → News h₀ env.locals h (Led c ++ own) →
      wpAny (model prog w) A (execs body env) (InvPostG h₀ env.locals (LpJ ps Led P stored x m₀ (i + 1)) own { s with heap := h, toks := tk } Q) E { s with heap := h, toks := tk })
    (done : ∀ (c : σ) (u : Str → Option Value) h tk, P n c → Fr h₀ env.locals h (fun y => if y = x then u y else kstB (fun z => if stored.contains z then u z else m₀ z) (ps c) y) → News h₀ env.locals h (Led c) → Q .next { s with heap := h, toks := tk }) :
    wpAny (model prog w) A (pyIter (.ref r)) (fun it s₂ => LoopAtV prog w A h₀ env x body Q E it s₂) E s := by
  refine wpAny_pyIter_range hr hsmall ?_
  have W : Walks prog w A s.heap.objs.size [s.heap.objs.size] [s.heap.objs.size] n (fun i v => i < n ∧ ∃ t, v = .int (a₀ + i * 1) t)
      (fun i h => IsRangeIter h s.heap.objs.size (a₀ + (i : Nat) * 1) ((n : Int) - (i : Nat)) 1) := (Walks.range hh _ a₀ 1 n).bound
  refine kdr_loop (LpJ ps Led P stored x m₀) W (fun _ h => h) (fun _ h => h) ?_ ?_ ?_ ?_ (by show IsRangeIter _ _ _ _ _; rw [hsz]; simpa using Heap.get?_push_size _ rfl) (F.push _) (news := Led c₀) (fun p hp => ⟨Heap.get?_push_of_some _ (N p (hn p hp)).1, (N p (hn p hp)).2⟩) ⟨c₀, rfl, hp, hk, fun _ _ _ _ => rfl⟩ ?_ ?_
  · intro i h hi b hb
    rw [List.mem_singleton.mp hb]
    exact ⟨_, hi⟩
  · intro hm
    exact absurd F.ns.lt ((List.mem_singleton.mp hm) ▸ Nat.lt_irrefl _)
  · intro b hb
    rw [List.mem_singleton.mp hb]
    exact next_is_new F
  · intro p hp hI
    exact absurd (Heap.lt_size (N p (hn p hp)).1) ((List.mem_singleton.mp hI) ▸ Nat.lt_irrefl _)
  · rintro i v m₁ nx h tk own hi ⟨_, t, rfl⟩ hoff ⟨c, rfl, hp', h1, h2⟩ F₁ N₁
    have e1 : a₀ + (i : Int) * 1 = a₀ + (i : Int) := by omega
    rw [e1] at F₁
    exact turn i c t m₁ h tk own hi hp' hoff (kst_fr h1 h2 F₁) N₁
  · rintro m₁ nx h tk ⟨c, rfl, hp', h1, h2⟩ F₁ N₁
    exact done c m₁ h tk hp' (kst_frOut h1 h2 F₁) N₁

/-- while: what is wanted behind a turn -/
noncomputable def LpW {σ : Type} (h₀ : Heap) (L : Addr) (s : Shared) (ps : σ → List (Str × Value)) (Led : σ → List (Addr × Obj)) (P : σ → Prop) (μ : σ → Nat) (stored : List Str) (m₀ : Str → Option Value) (Q : Flow → Shared → Prop) (c : σ) (f : Flow) (s₂ : Shared) : Prop :=
  match f with
  | .ret v => Q (.ret v) s₂
  | .brk => Q .next s₂
  | _ => ∃ (c' : σ) (h' : Heap) (tk : Nat) (m' : Str → Option Value) (news' : List (Addr × Obj)), s₂ = { s with heap := h', toks := tk } ∧ Fr h₀ L h' m' ∧ News h₀ L h' news' ∧ (∀ p ∈ Led c', p ∈ news') ∧ (∀ p ∈ ps c', m' p.1 = some p.2) ∧ (∀ z, (∀ p ∈ ps c', z ≠ p.1) → stored.contains z = false → m' z = m₀ z) ∧ P c' ∧ μ c' < μ c

theorem lw_end {σ : Type} {L : Addr} {ps : σ → List (Str × Value)} {Led : σ → List (Addr × Obj)} {P : σ → Prop} {μ : σ → Nat} {stored : List Str} {m₀ m' : Str → Option Value} {c : σ} {h' : Heap} {tk : Nat} {news' : List (Addr × Obj)} (c' : σ)
    (F : Fr h₀ L h' m') (N : News h₀ L h' news') (hn : ∀ p ∈ Led c', p ∈ news') (hk : ∀ p ∈ ps c', m' p.1 = some p.2) (hr : ∀ z, (∀ p ∈ ps c', z ≠ p.1) → stored.contains z = false → m' z = m₀ z) (hp : P c') (hm : μ c' < μ c) :
    LpW h₀ L s ps Led P μ stored m₀ Q c .next { s with heap := h', toks := tk } := ⟨c', h', tk, m', news', rfl, F, N, hn, hk, hr, hp, hm⟩

theorem lp_while {σ : Type} {L : Addr} {test : Expr} {pos : Pos} {m₀ : Str → Option Value} {news : List (Addr × Obj)} (ps : σ → List (Str × Value)) (Led : σ → List (Addr × Obj)) (P : σ → Prop) (μ : σ → Nat) (stored : List Str) (c₀ : σ)
    (F : Fr h₀ L s.heap m₀) (N : News h₀ L s.heap news) (hn : ∀ p ∈ Led c₀, p ∈ news) (hk : ∀ p ∈ ps c₀, m₀ p.1 = some p.2) (hp : P c₀)
    (turn : ∀ (c : σ) (u : Str → Option Value) h tk, P c → Fr h₀ L h (kstB (fun z => if stored.contains z then u z else m₀ z) (ps c)) → News h₀ L h (Led c) →
      wpAny (model prog w) A (isTrue test env (eval test env)) (fun b s₂ =>
        if b = true then wpAny (model prog w) A (execs body env) (LpW h₀ L s ps Led P μ stored m₀ Q c) E s₂ else Q .next s₂) E { s with heap := h, toks := tk })
    (hE : PassesOwn (model prog w) A env E := by passes_own) :
    wpAny (model prog w) A (exec (.While test body [] pos) env) Q E s := by
  refine While_inv2 (fun n m nx => ∃ c : σ, nx = Led c ∧ μ c = n ∧ (∀ p ∈ ps c, m p.1 = some p.2) ∧ (∀ z, (∀ p ∈ ps c, z ≠ p.1) → stored.contains z = false → m z = m₀ z) ∧ P c) F (fun p hp => N p (hn p hp)) ⟨c₀, rfl, rfl, hk, fun _ _ _ => rfl, hp⟩ ?_ hE
  rintro n m₁ nx h tk F₁ N₁ ⟨c, hnx, hsz, h1, h2, hp'⟩
  rw [hnx] at N₁
  rw [← hsz]
  refine wpAny_mono (turn c m₁ h tk hp' (ksw_fr h1 h2 F₁) N₁) (fun b s₂ p => ?_) fun _ _ x => x
  cases b with
  | false => simpa using p
  | true =>
    simp only [if_true] at p ⊢
    refine wpAny_mono p (fun f s₃ q => ?_) fun _ _ x => x
    cases f with
    | ret v => exact q
    | brk => exact q
    | next =>
      obtain ⟨c', h', tk', m', news', rfl, F', N', hn, hk9, hr9, hp9, hm9⟩ := q
      exact ⟨h', tk', m', Led c', μ c', rfl, F', fun p hp => N' p (hn p hp), hm9, c', rfl, rfl, hk9, hr9, hp9⟩
    | cont =>
      obtain ⟨c', h', tk', m', news', rfl, F', N', hn, hk9, hr9, hp9, hm9⟩ := q
      exact ⟨h', tk', m', Led c', μ c', rfl, F', fun p hp => N' p (hn p hp), hm9, c', rfl, rfl, hk9, hr9, hp9⟩
end
theorem bits32 : ∀ a b : Fin 32, (0 ≤ Builtin.bitOr (a.val : Int) (b.val : Int) ∧ Builtin.bitOr (a.val : Int) (b.val : Int) < 32) ∧ (Builtin.bitAnd (a.val : Int) (b.val : Int) = 0 → (a.val : Int) ≠ 0 → (b.val : Int) + 1 ≤ Builtin.bitOr (b.val : Int) (a.val : Int)) ∧
    (0 ≤ (a.val : Int) - Builtin.bitAnd (a.val : Int) (b.val : Int) ∧ (a.val : Int) - Builtin.bitAnd (a.val : Int) (b.val : Int) < 32) ∧ Builtin.bitAnd ((a.val : Int) - Builtin.bitAnd (a.val : Int) (b.val : Int)) (b.val : Int) = 0 := by decide +kernel
theorem fin_of {a : Int} {n : Nat} (h : 0 ≤ a ∧ a < n) : ∃ k : Fin n, a = (k.val : Int) := ⟨⟨a.toNat, by omega⟩, by show a = (a.toNat : Int); omega⟩
theorem or32 {a b : Int} (ha : 0 ≤ a ∧ a < 32) (hb : 0 ≤ b ∧ b < 32) : 0 ≤ Builtin.bitOr a b ∧ Builtin.bitOr a b < 32 := by
  obtain ⟨i, rfl⟩ := fin_of (n := 32) ha; obtain ⟨j, rfl⟩ := fin_of (n := 32) hb; exact (bits32 i j).1
theorem or32_gt {a b : Int} (ha : 0 ≤ a ∧ a < 32) (hb : 0 ≤ b ∧ b < 32) (h : Builtin.bitAnd a b = 0) (h0 : a ≠ 0) : b + 1 ≤ Builtin.bitOr b a := by
  obtain ⟨i, rfl⟩ := fin_of (n := 32) ha; obtain ⟨j, rfl⟩ := fin_of (n := 32) hb; exact (bits32 i j).2.1 h h0
theorem sub32 {a b : Int} (ha : 0 ≤ a ∧ a < 32) (hb : 0 ≤ b ∧ b < 32) : 0 ≤ a - Builtin.bitAnd a b ∧ a - Builtin.bitAnd a b < 32 := by
  obtain ⟨i, rfl⟩ := fin_of (n := 32) ha; obtain ⟨j, rfl⟩ := fin_of (n := 32) hb; exact (bits32 i j).2.2.1
theorem sub32_and {a b : Int} (ha : 0 ≤ a ∧ a < 32) (hb : 0 ≤ b ∧ b < 32) : Builtin.bitAnd (a - Builtin.bitAnd a b) b = 0 := by
  obtain ⟨i, rfl⟩ := fin_of (n := 32) ha; obtain ⟨j, rfl⟩ := fin_of (n := 32) hb; exact (bits32 i j).2.2.2
end
section
section
variable {prog : Program} {w : World} {A : Around} {E : Value → Shared → Prop} {s : Shared} {h₀ : Heap} {L : Addr} {m : Str → Option Value} {env : Env}

noncomputable abbrev compIfs (ifs : List Expr) (env : Env) : Sem Bool := forIn ifs true fun c r => if r = true then do let ok ← isTrue c env (eval c env); pure (ForInStep.yield ok) else pure (ForInStep.yield r)

/-- the end of a turn of a comprehension -/
inductive MEnd (h₀ : Heap) (L : Addr) (m : Str → Option Value) (s₁ : Shared) (I : Addr) (oI : Obj) (C : Addr) (oC : Obj) (D : Addr) (oD : Obj) (S : List (Addr × Obj) → Prop) (R : List (Addr × Obj) → Prop) (s₂ : Shared) : Prop
  | mk (h' : Heap) (tk : Nat) (nx : List (Addr × Obj)) : (s₂ = { s₁ with heap := h', toks := tk }) → (Fr h₀ L h' m) → (News h₀ L h' ((I, oI) :: (C, oC) :: (D, oD) :: nx)) → (Off3 I C D nx) → (S nx) → (R nx) → MEnd h₀ L m s₁ I oI C oC D oD S R s₂
theorem MEnd.intro {I C D : Addr} {oI oC oD : Obj} {S R : List (Addr × Obj) → Prop} {s₁ : Shared} {h' : Heap} {tk : Nat} {all : List (Addr × Obj)} (nx : List (Addr × Obj))
    (F : Fr h₀ L h' m) (N : News h₀ L h' all) (sub : ∀ p ∈ (I, oI) :: (C, oC) :: (D, oD) :: nx, p ∈ all) (off : Off3 I C D nx) (hS : S nx) (r : R nx) :
    MEnd h₀ L m s₁ I oI C oC D oD S R { s₁ with heap := h', toks := tk } := ⟨h', tk, nx, rfl, F, fun p hp => N p (sub p hp), off, hS, r⟩

noncomputable def MTurn (prog : Program) (w : World) (A : Around) (h₀ : Heap) (L : Addr) (m : Str → Option Value) (env : Env) (elt : Expr) (ifs : List Expr) (scope : Scope) (cl : List (Str × Addr)) (s : Shared) (S : List (Addr × Obj) → Prop) (P : Nat → Value → Prop) (Bd : Value → List (Addr × Obj) → (Str → Option Value) → Prop)
    (J : Nat → List Value → List (Addr × Obj) → Prop) (n : Nat) : Prop :=
  ∀ i v ys nx I oI C oC D m₂ h tk (E' : Value → Shared → Prop), i < n → P i v → J i ys nx → NsObj oC m₂ → Bd v nx m₂ → Fr h₀ L h m → News h₀ L h ((I, oI) :: (C, oC) :: (D, lst ys) :: nx) → Off3 I C D nx → ((@Ne Nat I C) ∧ (@Ne Nat I D) ∧ (@Ne Nat C D)) → S nx →
    wpAny (model prog w) A (compIfs ifs (compEnvC scope cl C env)) (fun ok s₃ => if ok = true then
        wpAny (model prog w) A (eval elt (compEnvC scope cl C env)) (fun y s₄ => MEnd h₀ L m { s with heap := h, toks := tk } I oI C oC D (lst ys) S (J (i + 1) (ys ++ [y])) s₄) E' s₃
      else MEnd h₀ L m { s with heap := h, toks := tk } I oI C oC D (lst ys) S (J (i + 1) ys) s₃) E' { s with heap := h, toks := tk }

theorem codeAny_compLoop_any {elt target iter : Expr} {ifs : List Expr} {scope : Scope} {pos : Pos} {it acc : Value} {env : Env} {R : Result → Shared → Prop} (I : Nat → Shared → Prop)
    (turn : ∀ n s, I n s → wpAny (model prog w) A (pyNext it) (fun r s₁ => match r with
      | none => R (.ok .next) s₁
      | some v => wpAny (model prog w) A (letOwnedTupleGo target it v) (fun _ s₁' => wpAny (model prog w) A (assign target env v) (fun _ s₂ =>
          wpAny (model prog w) A (compIfs ifs env) (fun ok s₃ =>
            if ok = true then wpAny (model prog w) A (eval elt env) (fun x s₄ =>
              wpAny (model prog w) A (call (.builtin "list.append") [acc, x]) (fun _ s₅ => ∃ m, m < n ∧ I m s₅) (notedBy (model prog w) A env fun e s' => R (.error e) s') s₄) (notedBy (model prog w) A env fun e s' => R (.error e) s') s₃
            else ∃ m, m < n ∧ I m s₃) (notedBy (model prog w) A env fun e s' => R (.error e) s') s₂) (notedBy (model prog w) A env fun e s' => R (.error e) s') s₁') (notedBy (model prog w) A env fun e s' => R (.error e) s') s₁) (notedBy (model prog w) A env fun e s' => R (.error e) s') s)
    (n : Nat) (h : I n s) :
    codeAny (model prog w) A (.compLoop (.ListComp elt [⟨target, iter, ifs, 0⟩] scope pos) 0 it acc env) R s := by
  refine codeAny_loop rfl I (fun n s hI => ?_) n h
  show wpAny _ A ((compTurn (.ListComp elt [⟨target, iter, ifs, 0⟩] scope pos) 0 it acc env).onRaise (fun x => do noteFrame x env; theTreesLotGoes x)) _ _ s
  refine wpAny_noted ?_
  rw [compTurn_list]
  refine wpAny_bind (wpAny_standAt (wpAny_bind (wpAny_mono (turn n s hI) (fun r s₁ h₁ => ?_) fun _ _ h' => h')))
  cases r with
  | none => exact wpAny_pure h₁
  | some v =>
    refine wpAny_bind (wpAny_mono h₁ (fun _ s₁' h₁' => ?_) fun _ _ h' => h')
    refine wpAny_bind (wpAny_mono h₁' (fun _ s₂ h₂ => wpAny_bind (wpAny_mono h₂ (fun ok s₃ h₃ => ?_) fun _ _ h' => h')) fun _ _ h' => h')
    cases ok with
    | false => exact wpAny_pure ⟨rfl, h₃⟩
    | true =>
      exact wpAny_bind (wpAny_bind (wpAny_mono h₃ (fun x s₄ h₄ => wpAny_bind (wpAny_mono h₄ (fun _ s₅ h₅ => wpAny_pure (wpAny_pure ⟨rfl, h₅⟩)) fun _ _ h' => h')) fun _ _ h' => h'))

/-- what binding the target does -/
noncomputable def MBind (prog : Program) (w : World) (A : Around) (h₀ : Heap) (L : Addr) (m : Str → Option Value) (env : Env) (scope : Scope) (cl : List (Str × Addr)) (target : Expr) (I : Addr) (P : Nat → Value → Prop) (S : List (Addr × Obj) → Prop) (St : Nat → Heap → Prop) (Bd : Value → List (Addr × Obj) → (Str → Option Value) → Prop) : Prop :=
  ∀ i v nx C m' (s' : Shared) (Q : Unit → Shared → Prop) (E' : Value → Shared → Prop), P i v → S nx → s'.heap.Ns C m' → Fr h₀ L s'.heap m → News h₀ L s'.heap nx → St (i + 1) s'.heap →
    (∀ h₃ tk₃ m₃, h₃.Ns C m₃ → Bd v nx m₃ → (∀ b o, b ≠ C → s'.heap.get? b = some o → h₃.get? b = some o) → Q () { s' with heap := h₃, toks := tk₃ }) →
    wpAny (model prog w) A (letOwnedTupleGo target (.ref I) v) (fun _ s₁' => wpAny (model prog w) A (assign target (compEnvC scope cl C env) v) Q E' s₁') E' s'

inductive CFin (h₀ : Heap) (L : Addr) (m : Str → Option Value) (s₂ : Shared) (I C : Addr) (oC oD : Obj) (St : Nat → Heap → Prop) (S R : List (Addr × Obj) → Prop) (i : Nat) (s₄ : Shared) : Prop
  | mk (h₄ : Heap) (tk₄ : Nat) (news₄ : List (Addr × Obj)) : s₄ = { s₂ with heap := h₄, toks := tk₄ } → Fr h₀ L h₄ m → News h₀ L h₄ news₄ → Off3 I C s₂.heap.objs.size news₄ → S news₄ → R news₄ → St i h₄ → h₄.get? C = some oC → h₄.get? s₂.heap.objs.size = some oD → CFin h₀ L m s₂ I C oC oD St S R i s₄
inductive CInv (h₀ : Heap) (L : Addr) (m : Str → Option Value) (s₂ : Shared) (I C : Addr) (n : Nat) (St : Nat → Heap → Prop) (S : List (Addr × Obj) → Prop) (J : Nat → List Value → List (Addr × Obj) → Prop) (k : Nat) (s' : Shared) : Prop
  | mk (h' : Heap) (tk i : Nat) (ys : List Value) (m' : Str → Option Value) (news' : List (Addr × Obj)) : s' = { s₂ with heap := h', toks := tk } → i ≤ n → k = n + 1 - i → ys.length ≤ i → St i h' → Fr h₀ L h' m → h'.Ns C m' → News h₀ L h' ((s₂.heap.objs.size, lst ys) :: news') →
    Off3 I C s₂.heap.objs.size news' → S news' → J i ys news' → CInv h₀ L m s₂ I C n St S J k s'
theorem block_J {elt iter target : Expr} {ifs : List Expr} {scope : Scope} {cl : List (Str × Addr)} {pos : Pos} {s₂ : Shared} {I : Addr} {fp : List Addr} {n : Nat} {P : Nat → Value → Prop} {St : Nat → Heap → Prop} {S : List (Addr × Obj) → Prop} {Bd : Value → List (Addr × Obj) → (Str → Option Value) → Prop} {news : List (Addr × Obj)}
    {J : Nat → List Value → List (Addr × Obj) → Prop} {RR : Value → Addr → Result → Shared → Prop}
    (W : Walks prog w A I fp [I] n P St) (hsz : n ≤ sizeLine) (hIo : ∀ i h, St i h → ∃ o, h.get? I = some o)
    (hSt : ∀ i h h' o nw, St i h → h.get? I = some o → h'.get? I = some o → (∀ b o, h₀.get? b = some o → h'.get? b = some o) → News h₀ L h' nw → S nw → St i h')
    (hcell : ∀ y ∈ scope.names, y.2 ≠ .cell) (hkind : scope.kind = .function) (hst : St 0 s₂.heap) (hfp : ∀ b ∈ fp, b < s₂.heap.objs.size)
    (F : Fr h₀ L s₂.heap m) (N : News h₀ L s₂.heap news) (hIL : L ≠ I) (hI₀ : h₀.get? I = none) (off : ∀ p ∈ news, p.1 ≠ I) (hS : S news)
    (hB : MBind prog w A h₀ L m env scope cl target I P S St Bd)
    (R : MTurn prog w A h₀ L m env elt ifs scope cl s₂ S P Bd J n) (hJ : J 0 [] news)
    (hRR : ∀ D C h tk m' ys news', Fr h₀ L h m → News h₀ L h ((D, lst ys) :: news') → Off1 D news' → h.Ns C m' → h₀.get? C = none → h₀.get? D = none → C ≠ L → D ≠ L → C ≠ D → (∀ p ∈ news', p.1 ≠ C) → ys.length ≤ n → J n ys news' → RR (.ref D) C (.ok .next) { s₂ with heap := h, toks := tk }) :
    wpAny (model prog w) A (newList []) (fun acc s₃ => wpAny (model prog w) A (newFunctionEnv scope env.globals cl [] env.qual none .none (some env)) (fun cenv s₄ =>
      codeAny (model prog w) A (.compStart (.ListComp elt [⟨target, iter, ifs, 0⟩] scope pos) 0 (.ref I) acc { cenv with scope := relabel scope env }) (RR acc cenv.locals) s₄) E s₃) E s₂ := by
  refine wpAny_newObj_type (wpAny_newFunctionEnv hcell (by intro y hy; simp at hy) (fun h₁ hns₁ hsb₁ => ?_) hkind)
  dsimp only at hns₁ hsb₁ ⊢
  generalize hH2 : s₂.heap.push { cls := .type "list", dict := none, data := .seq ([] : List Value).toArray } = H2 at hns₁ hsb₁ ⊢
  have hC : H2.objs.size = s₂.heap.objs.size + 1 := by rw [← hH2, Heap.size_push]
  have hDC : s₂.heap.objs.size ≠ H2.objs.size := by rw [hC]; exact Nat.ne_of_lt (Nat.lt_succ_self _)
  have below : ∀ b, b < s₂.heap.objs.size → b ≠ H2.objs.size ∧ b ≠ s₂.heap.objs.size := fun b hb => ⟨by rw [hC]; exact Nat.ne_of_lt (Nat.lt_succ_of_lt hb), Nat.ne_of_lt hb⟩
  have hDf : s₂.heap.objs.size ∉ fp := fun hm => Nat.lt_irrefl _ (hfp _ hm)
  have hCf : H2.objs.size ∉ fp := fun hm => by have := hfp _ hm; rw [hC] at this; exact Nat.lt_irrefl _ (Nat.lt_of_succ_lt this)
  have hIf : I ∈ fp := W.sub I (List.mem_singleton.mpr rfl)
  have hIlt : I < s₂.heap.objs.size := hfp I hIf
  have old : ∀ b o, s₂.heap.get? b = some o → h₁.get? b = some o := fun b o e => hsb₁.extBut b o (below b (Heap.lt_size e)).1 (Heap.get?_push_of_some _ (hH2 ▸ Heap.get?_push_of_some _ e))
  have hacc : h₁.get? s₂.heap.objs.size = some (lst []) := hsb₁.extBut _ _ hDC (Heap.get?_push_of_some _ (hH2 ▸ Heap.get?_push_size _ rfl))
  have hst₁ : St 0 h₁ := W.frame _ _ _ hst fun b _ o e => old b o e
  have fresh : ∀ a, s₂.heap.objs.size ≤ a → s₂.heap.get? a = none := fun a ha => by
    cases e : s₂.heap.get? a with
    | none => rfl
    | some o' => exact absurd (Heap.lt_size e) (Nat.not_lt.mpr ha)
  have fresh₀ : ∀ a, s₂.heap.objs.size ≤ a → h₀.get? a = none := fun a ha => by
    cases e : h₀.get? a with
    | none => rfl
    | some o' => have := F.keep a o' e; rw [fresh a ha] at this; cases this
  have hD₀ : h₀.get? s₂.heap.objs.size = none := fresh₀ _ (Nat.le_refl _)
  have hC₀ : h₀.get? H2.objs.size = none := fresh₀ _ (by rw [hC]; exact Nat.le_succ _)
  have hLlt : L < s₂.heap.objs.size := F.ns.lt
  have hDL : s₂.heap.objs.size ≠ L := Ne.symm (below L hLlt).2
  have hCL : H2.objs.size ≠ L := Ne.symm (below L hLlt).1
  have hCI : I ≠ H2.objs.size := (below I hIlt).1
  have hDI : I ≠ s₂.heap.objs.size := (below I hIlt).2
  have off₀ : Off3 I H2.objs.size s₂.heap.objs.size news := Off3.of fun p hp => ⟨off p hp, (below _ (Heap.lt_size (N p hp).1)).1, (below _ (Heap.lt_size (N p hp).1)).2⟩
  have loop : ∀ s₃ : Shared, s₃ = { s₂ with heap := h₁, toks := s₂.toks + ([] : List (Str × Value)).length } →
      codeAny (model prog w) A (.compLoop (.ListComp elt [⟨target, iter, ifs, 0⟩] scope pos) 0 (.ref I) (.ref s₂.heap.objs.size) (compEnvC scope cl H2.objs.size env))
        (RR (.ref s₂.heap.objs.size) H2.objs.size) s₃ := by
    rintro s₃ rfl
    refine codeAny_compLoop_any
      (CInv h₀ L m s₂ I H2.objs.size n St S J) ?_ (n + 1)
      ⟨h₁, _, 0, [], _, news, rfl, Nat.zero_le _, rfl, Nat.le_refl _, hst₁, F.keeps old, hns₁, fun p hp => ?_, off₀, hS, hJ⟩
    · rintro k s' ⟨h', tk, i, ys, m', news', rfl, hi, rfl, hyl, hst', F', hn', N', off', hS', J'⟩
      by_cases hlt : i < n
      · refine W.item i _ _ _ hlt hst' fun v h₂ tk₂ hPv hst₂ hk₂ => ?_
        have off3 := off'.mem
        have N₂ : News h₀ L h₂ ((s₂.heap.objs.size, lst ys) :: news') := news_but N' hk₂ fun p hp => by
          rcases List.mem_cons.mp hp with rfl | hp
          · exact Ne.symm hDI
          · exact (off3 p hp).1
        have F₂ : Fr h₀ L h₂ m := fr_but F' hk₂ hIL hI₀
        dsimp only
        refine hB i v news' H2.objs.size _ _ _ _ hPv hS' (hn'.at' fun o e => hk₂ _ o (by simpa using Ne.symm hCI) e) F₂ (fun p hp => N₂ p (List.mem_cons_of_mem _ hp)) hst₂ fun h₃ tk₃ m₃ hn₃ hbd hs₃ => ?_
        have hst₃ : St (i + 1) h₃ := W.frame _ _ _ hst₂ fun b hb o e => hs₃ b o (fun q => hCf (by have q' : b = H2.objs.size := q; rw [← q']; exact hb)) e
        obtain ⟨oI, heI⟩ := hIo _ _ hst₃
        obtain ⟨oC, heC, hoC⟩ := ns_obj hn₃
        have F₃ : Fr h₀ L h₃ m := ⟨F₂.ns.at' fun o e => hs₃ _ o (Ne.symm hCL) e, fun b o e => hs₃ b o (fun q => by rw [q, hC₀] at e; cases e) (F₂.keep b o e), F₂.above⟩
        have N₃ : News h₀ L h₃ ((I, oI) :: (H2.objs.size, oC) :: (s₂.heap.objs.size, lst ys) :: news') := fun p hp => by
          rcases List.mem_cons.mp hp with rfl | hp
          · exact ⟨heI, Ne.symm hIL, hI₀⟩
          · rcases List.mem_cons.mp hp with rfl | hp
            · exact ⟨heC, hCL, hC₀⟩
            · have z := N₂ p hp
              refine ⟨hs₃ _ _ ?_ z.1, z.2⟩
              rcases List.mem_cons.mp hp with rfl | hp
              · exact hDC
              · exact (off3 p hp).2.1
        have fin : ∀ s₄ ys', MEnd h₀ L m { s₂ with heap := h₃, toks := tk₃ } I oI H2.objs.size oC s₂.heap.objs.size (lst ys) S (J (i + 1) ys') s₄ → CFin h₀ L m s₂ I H2.objs.size oC (lst ys) St S (J (i + 1) ys') (i + 1) s₄ := by
          rintro s₄ ys' ⟨h₄, tk₄, news₄, rfl, F₄, N₄, off₄, hS₄, R₄⟩
          have zI := (N₄ (I, oI) List.mem_cons_self).1
          have zC := (N₄ (H2.objs.size, oC) (List.mem_cons_of_mem _ List.mem_cons_self)).1
          have zD := (N₄ (s₂.heap.objs.size, lst ys) (List.mem_cons_of_mem _ (List.mem_cons_of_mem _ List.mem_cons_self))).1
          have N₄' : News h₀ L h₄ news₄ := fun p hp => N₄ p (List.mem_cons_of_mem _ (List.mem_cons_of_mem _ (List.mem_cons_of_mem _ hp)))
          exact ⟨h₄, tk₄, news₄, rfl, F₄, N₄', off₄, hS₄, R₄, hSt _ _ _ _ _ hst₃ heI zI F₄.keep N₄' hS₄, zC, zD⟩
        refine wpAny_mono (R i v ys news' I oI H2.objs.size oC s₂.heap.objs.size m₃ h₃ tk₃ _ hlt hPv J' hoC hbd F₃ N₃ off' ⟨hCI, hDI, Ne.symm hDC⟩ hS') (fun ok s₃ h₃' => ?_) fun _ _ e => e
        cases ok with
        | false =>
          simp only [Bool.false_eq_true, if_false] at h₃' ⊢
          obtain ⟨h₄, tk₄, news₄, rfl, F₄, N₄, off₄, hS₄, R₄, hst₄, zC, zD⟩ := fin _ _ h₃'
          refine ⟨n + 1 - (i + 1), by omega, h₄, tk₄, i + 1, ys, _, news₄, rfl, hlt, rfl, by omega, hst₄, F₄, hoC.ns zC, fun p hp => ?_, off₄, hS₄, R₄⟩
          rcases List.mem_cons.mp hp with rfl | hp
          · exact ⟨zD, hDL, hD₀⟩
          · exact N₄ p hp
        | true =>
          simp only [if_true] at h₃' ⊢
          refine wpAny_mono h₃' (fun y s₄ h₄ => ?_) fun _ _ e => e
          obtain ⟨h₄, tk₄, news₄, rfl, F₄, N₄, off₄, hS₄, R₄, hst₄, zC, zD⟩ := fin _ _ h₄
          refine append_at (hsz := by show ys.toArray.size ≤ sizeLine; rw [List.size_toArray]; exact Nat.le_trans (Nat.le_trans hyl hi) hsz) zD fun h₅ hs₅ hD₅ => ?_
          have off4 := off₄.mem
          refine ⟨n + 1 - (i + 1), by omega, h₅, tk₄, i + 1, ys ++ [y], _, news₄, rfl, hlt, rfl, by rw [List.length_append, List.length_singleton]; omega, W.frame _ _ _ hst₄ fun b hb o e => hs₅.extBut b o (fun q => hDf (q ▸ hb)) e, F₄.change hs₅ hDL hD₀,
            (hoC.ns zC).sameBut hs₅ (Ne.symm hDC), fun p hp => ?_, off₄, hS₄, R₄⟩
          rcases List.mem_cons.mp hp with rfl | hp
          · exact ⟨hD₅.trans (congrArg some (lst_snoc ys y)), hDL, hD₀⟩
          · exact ⟨hs₅.extBut _ _ (off4 p hp).2.2 (N₄ p hp).1, (N₄ p hp).2⟩
      · obtain rfl : i = n := Nat.le_antisymm hi (Nat.not_lt.mp hlt)
        refine W.done _ _ _ hst' fun h₂ tk₂ hk₂ => ?_
        have off3 := off'.mem
        exact hRR _ _ h₂ tk₂ _ ys news' (fr_but F' hk₂ hIL hI₀) (news_but N' hk₂ fun p hp => by
          rcases List.mem_cons.mp hp with rfl | hp
          · exact Ne.symm hDI
          · exact (off3 p hp).1) off'.one (hn'.at' fun o e => hk₂ _ o (by simpa using Ne.symm hCI) e) hC₀ hD₀ hCL hDL (Ne.symm hDC) (fun p hp => (off3 p hp).2.1) hyl J'
    · rcases List.mem_cons.mp hp with rfl | hp
      · exact ⟨hacc, hDL, hD₀⟩
      · exact ⟨old _ _ (N p hp).1, (N p hp).2⟩
  exact codeAny_compStart_list (loop _ rfl) (W.self 0 _ _ _ hst₁ (loop _ rfl))

/-- the source of a comprehension, its iterator made -/
inductive McAt (prog : Program) (w : World) (A : Around) (h₀ : Heap) (L : Addr) (m : Str → Option Value) (env : Env) (elt target : Expr) (ifs : List Expr) (scope : Scope) (cl : List (Str × Addr)) (Fin : Shared → List Value → List (Addr × Obj) → Prop) (it : Value) (s₂ : Shared) : Prop
  | mk (I : Addr) (fp : List Addr) (n : Nat) (P : Nat → Value → Prop) (St : Nat → Heap → Prop) (S : List (Addr × Obj) → Prop) (Bd : Value → List (Addr × Obj) → (Str → Option Value) → Prop) (news : List (Addr × Obj)) (J : Nat → List Value → List (Addr × Obj) → Prop) : (it = .ref I) → (Walks prog w A I fp [I] n P St) → (n ≤ sizeLine) → ((∀ i h, St i h → ∃ o, h.get? I = some o)) → ((∀ i h h' o nw, St i h → h.get? I = some o → h'.get? I = some o → (∀ b o, h₀.get? b = some o → h'.get? b = some o) → News h₀ L h' nw → S nw → St i h')) → (St 0 s₂.heap) → ((∀ b ∈ fp, b < s₂.heap.objs.size)) → (Fr h₀ L s₂.heap m) → (News h₀ L s₂.heap news) → (L ≠ I) → (h₀.get? I = none) → ((∀ p ∈ news, p.1 ≠ I)) → (S news) → (MBind prog w A h₀ L m env scope cl target I P S St Bd) → (MTurn prog w A h₀ L m env elt ifs scope cl s₂ S P Bd J n) → (J 0 [] news) → (∀ ys nx, ys.length ≤ n → J n ys nx → Fin s₂ ys nx) → McAt prog w A h₀ L m env elt target ifs scope cl Fin it s₂

/-- the list is a value of an expression -/
noncomputable def MFinE (h₀ : Heap) (L : Addr) (m : Str → Option Value) (Q : Value → Shared → Prop) (s : Shared) (ys : List Value) (nx : List (Addr × Obj)) : Prop :=
  ∀ D h tk, Fr h₀ L h m → News h₀ L h ((D, lst ys) :: nx) → Off1 D nx → Q (.ref D) { s with heap := h, toks := tk }
theorem mc_eval {elt iter target : Expr} {ifs : List Expr} {scope : Scope} {cl : List (Str × Addr)} {pos : Pos} {Q : Value → Shared → Prop} (_F₀ : Fr h₀ L s.heap m)
    (hclos : closureFor scope env = pure cl) (hcell : ∀ y ∈ scope.names, y.2 ≠ .cell) (hkind : scope.kind = .function)
    (hnames : ∀ y ∈ scope.names, y.2 = .local → scope.names.lookup y.1 = some .local)
    (h : wpAny (model prog w) A (eval iter env) (fun xv s₁ => wpAny (model prog w) A (pyIter xv) (McAt prog w A h₀ L m env elt target ifs scope cl (MFinE h₀ L m Q)) E s₁) E s)
    (hs : ∀ x, foldedSetIterable iter env x = pure x := by intro _; rfl) :
    wpAny (model prog w) A (eval (.ListComp elt [⟨target, iter, ifs, 0⟩] scope pos) env) Q E s := by
  rw [eval_ListComp]
  refine wpAny_comprehension_free (use := none) rfl hs hclos hkind hnames (wpAny_mono h (fun xv s₁ h₁ => wpAny_mono h₁ (fun it s₂ h₂ => ?_) fun _ _ e => e) fun _ _ e => e)
  obtain ⟨I, fp, n, P, St, S, Bd, news, J, rfl, W, hsz, hIo, hSt, hst, hfp, F, N, hIL, hI₀, off, hS, hB, R, hJ, fin⟩ := h₂
  refine block_J W hsz hIo hSt hcell hkind hst hfp F N hIL hI₀ off hS hB R hJ ?_
  intro D C h tk m' ys news' F' N' o1 hn hC₀ hD₀ hCL hDL hCD offC hyl j
  refine ⟨m', hn, fun h'' hs'' => fin _ _ hyl j D h'' tk (F'.change hs'' hCL hC₀) (fun p hp => ?_) o1⟩
  refine ⟨hs''.extBut _ _ ?_ (N' p hp).1, (N' p hp).2⟩
  rcases List.mem_cons.mp hp with rfl | hp
  · exact Ne.symm hCD
  · exact offC p hp

/-- the list is bound to a name: what binding it must give -/
noncomputable def MStored (h₀ : Heap) (L : Addr) (C : Addr) (oC : Obj) (Q : Flow → Shared → Prop) (s₁ : Shared) (s₃ : Shared) : Prop :=
  ∃ h₃ tk₃ m₃ all nx₃, s₃ = { s₁ with heap := h₃, toks := tk₃ } ∧ Fr h₀ L h₃ m₃ ∧ News h₀ L h₃ all ∧ (C, oC) ∈ all ∧ (∀ p ∈ nx₃, p ∈ all ∧ p.1 ≠ C) ∧ ∀ h₄, Fr h₀ L h₄ m₃ → News h₀ L h₄ nx₃ → Q .next { s₁ with heap := h₄, toks := tk₃ }
noncomputable def MFinS (prog : Program) (w : World) (A : Around) (h₀ : Heap) (L : Addr) (m : Str → Option Value) (env : Env) (y : Str) (Q : Flow → Shared → Prop) (E : Value → Shared → Prop) (s : Shared) (ys : List Value) (nx : List (Addr × Obj)) : Prop :=
  ∀ D C oC h tk, Fr h₀ L h m → News h₀ L h ((C, oC) :: (D, lst ys) :: nx) → Off1 D nx → Off1 C ((D, lst ys) :: nx) →
    wpAny (model prog w) A (storeName env y (.ref D)) (fun _ => MStored h₀ L C oC Q s) E { s with heap := h, toks := tk }
theorem mc_store {elt iter target : Expr} {y : Str} {py : Pos} {ifs : List Expr} {scope : Scope} {cl : List (Str × Addr)} {pos spos : Pos} {Q : Flow → Shared → Prop} (_F₀ : Fr h₀ L s.heap m)
    (hsw : swapsWith (.ListComp elt [⟨target, iter, ifs, 0⟩] scope pos) (some (.Name y py)) spos.line env = pure true)
    (hclos : closureFor scope env = pure cl) (hcell : ∀ z ∈ scope.names, z.2 ≠ .cell) (hkind : scope.kind = .function)
    (hnames : ∀ z ∈ scope.names, z.2 = .local → scope.names.lookup z.1 = some .local)
    (h : wpAny (model prog w) A (eval iter env) (fun xv s₁ => wpAny (model prog w) A (pyIter xv) (McAt prog w A h₀ L m env elt target ifs scope cl (MFinS prog w A h₀ L m env y Q E)) E s₁) E s)
    (hs : ∀ x, foldedSetIterable iter env x = pure x := by intro _; rfl) :
    wpAny (model prog w) A (exec (.Assign [.Name y py] (.ListComp elt [⟨target, iter, ifs, 0⟩] scope pos) spos) env) Q E s := by
  rw [exec_Assign_Name_used _ _ _ _ hsw]
  refine wpAny_bind (wpAny_standAt (wpAny_bind ?_))
  show wpAny _ A (do let _ ← comprehension (.ListComp elt [⟨target, iter, ifs, 0⟩] scope pos) scope env _ (newList []) false (eval iter env) (some (assign (.Name y py) env))) _ _ s
  refine wpAny_bind (wpAny_mono (wpAny_comprehension_free (use := some (assign (.Name y py) env)) (Q := fun _ s' => Q .next s') rfl hs hclos hkind hnames
    (wpAny_mono h (fun xv s₁ h₁ => wpAny_mono h₁ (fun it s₂ h₂ => ?_) fun _ _ e => e) fun _ _ e => e)) (fun _ s' hq => wpAny_pure (wpAny_pure hq)) fun _ _ e => e)
  obtain ⟨I, fp, n, P, St, S, Bd, news, J, rfl, W, hsz, hIo, hSt, hst, hfp, F, N, hIL, hI₀, off, hS, hB, R, hJ, fin⟩ := h₂
  refine block_J W hsz hIo hSt hcell hkind hst hfp F N hIL hI₀ off hS hB R hJ ?_
  intro D C h tk m' ys news' F' N' o1 hn hC₀ hD₀ hCL hDL hCD offC hyl j
  show wpAny _ A (assign (.Name y py) env (.ref D)) _ _ _
  obtain ⟨oC, heC, hoC⟩ := ns_obj hn
  refine wpAny_assign_Name (wpAny_mono (fin _ _ hyl j D C oC h tk F' (fun p hp => ?_) o1 (off1_of fun p hp => ?_)) (fun _ s₃ h₃ => ?_) fun _ _ e => e)
  · rcases List.mem_cons.mp hp with rfl | hp
    · exact ⟨heC, hCL, hC₀⟩
    · exact N' p hp
  · rcases List.mem_cons.mp hp with rfl | hp
    · exact Ne.symm hCD
    · exact offC p hp
  · obtain ⟨h₃, tk₃, m₃, all, nx₃, rfl, F₃, N₃, hCa, hsub, fin⟩ := h₃
    refine ⟨m', hoC.ns (N₃ _ hCa).1, fun h'' hs'' => fin h'' (F₃.change hs'' hCL hC₀) fun p hp => ?_⟩
    have z := N₃ p (hsub p hp).1
    exact ⟨hs''.extBut _ _ (hsub p hp).2 z.1, z.2⟩
where off1_of {D : Addr} : ∀ {l : List (Addr × Obj)}, (∀ p ∈ l, p.1 ≠ D) → Off1 D l
  | [], _ => trivial
  | p :: r, h => ⟨h p (.head _), off1_of fun q hq => h q (.tail _ hq)⟩

/-- binding one name -/
noncomputable def BdN (x : Str) (v : Value) (_ : List (Addr × Obj)) (m₂ : Str → Option Value) : Prop := m₂ x = some v
theorem mbind_name {x : Str} {px : Pos} {scope : Scope} {cl : List (Str × Addr)} {I : Addr} {P : Nat → Value → Prop} {S : List (Addr × Obj) → Prop} {St : Nat → Heap → Prop} (hkind : scope.kind = .function) (hx : scope.names.lookup x = some .local) :
    MBind prog w A h₀ L m env scope cl (.Name x px) I P S St (BdN x) := by
  intro i v nx C m' s' Q E' _ _ hn _ _ _ k
  rw [show letOwnedTupleGo (.Name x px) (.ref I) v = pure () from rfl]
  refine wpAny_pure ?_
  exact wpAny_assign_Name (wpAny_storeName_local (lookup_relabel_local hx) hn (fun h₃ hn₃ hs₃ => k h₃ _ _ hn₃ (by simp [BdN]) fun b o hb e => hs₃.extBut b o hb e) (by simp [compEnvC, relabel, hkind]))

/-- binding two names to a tuple's items -/
noncomputable def BdP (x y : Str) (v : Value) (nx : List (Addr × Obj)) (m₂ : Str → Option Value) : Prop := ∃ (t : Addr) (ot : Obj) (v₁ v₂ : Value) (nt : Nat), v = .ref t ∧ (t, ot) ∈ nx ∧ ot = { cls := .type "tuple", data := .seq #[v₁, v₂] nt } ∧ m₂ x = some v₁ ∧ m₂ y = some v₂
theorem mbind_pair {x y : Str} {px py tp : Pos} {x1 : Nat} {scope : Scope} {cl : List (Str × Addr)} {I ax : Addr} {its : Array Value} {S : List (Addr × Obj) → Prop} (hh : A.handled = none) (hkind : scope.kind = .function) (hx : scope.names.lookup x = some .local) (hy : scope.names.lookup y = some .local) (hxy : x ≠ y)
    (hS : ∀ (i : Nat) (v : Value) nx, its[i]? = some v → S nx → ∃ (t : Addr) (v₁ v₂ : Value) (nt : Nat), v = .ref t ∧ (t, ({ cls := .type "tuple", data := .seq #[v₁, v₂] nt } : Obj)) ∈ nx) :
    MBind prog w A h₀ L m env scope cl (.Tuple [.Name x px, .Name y py] x1 tp) I (fun i v => its[i]? = some v) S (fun i h => h.IsListIter I ax i ∧ h.IsList ax its) (BdP x y) := by
  intro i v nx C m' s' Q E' hP hSn hn F N hst k
  obtain ⟨t, v₁, v₂, nt, rfl, hmem⟩ := hS i v nx hP hSn
  refine wpAny_letOwnedTupleGo_listiter hst.1 ?_
  have ht : IsTup s'.heap t #[v₁, v₂] := ⟨_, (N _ hmem).1, rfl, nt, rfl⟩
  refine assign_Tuple_tuple hh ht rfl rfl fun h₅ he => ?_
  have he' : ∀ b o, s'.heap.get? b = some o → h₅.get? b = some o := fun b o e => he b o (Nat.ne_of_lt (Heap.lt_size e)) e
  refine assignInOrder_cons (wpAny_assign_Name (wpAny_storeName_local (lookup_relabel_local hx) (hn.at' fun o e => he' _ o e) (fun h₆ hn₆ hs₆ => ?_) (by simp [compEnvC, relabel, hkind])))
  refine assignInOrder_cons (wpAny_assign_Name (wpAny_storeName_local (lookup_relabel_local hy) hn₆ (fun h₃ hn₃ hs₃ => ?_) (by simp [compEnvC, relabel, hkind])))
  refine assignInOrder_nil ?_
  exact k h₃ _ _ hn₃ ⟨t, _, v₁, v₂, nt, rfl, hmem, rfl, by simp [hxy], by simp⟩ fun b o hb e => hs₃.extBut b o hb (hs₆.extBut b o hb (he' b o e))

section
variable {elt : Expr} {ifs : List Expr} {scope : Scope} {cl : List (Str × Addr)} {Fin : Shared → List Value → List (Addr × Obj) → Prop} {x : Str} {px : Pos} {news : List (Addr × Obj)}

theorem mc_range {r : Addr} {a b : Int} {t u v : Tok} {n : Nat} (J : Nat → List Value → List (Addr × Obj) → Prop) (nx₀ : List (Addr × Obj)) (hh : A.handled = none) (hkind : scope.kind = .function) (hx : scope.names.lookup x = some .local)
    (hr : IsRange s.heap r a b 1 t u v) (hsm : Builtin.Range.small a b 1 = true) (hn : Builtin.Range.rangeSize a b 1 = ((n : Nat) : Int)) (hsz : n ≤ sizeLine) (F : Fr h₀ L s.heap m) (N : News h₀ L s.heap news) (hsub : ∀ p ∈ nx₀, p ∈ news)
    (R : MTurn prog w A h₀ L m env elt ifs scope cl s (fun _ => True) (fun i v => ∃ t, v = .int (a + (i : Int)) t) (BdN x) J n) (hJ : J 0 [] nx₀) (fin : ∀ g ys nx, ys.length ≤ n → J n ys nx → Fin { s with heap := g } ys nx) :
    wpAny (model prog w) A (pyIter (.ref r)) (McAt prog w A h₀ L m env elt (.Name x px) ifs scope cl Fin) E s := by
  refine wpAny_pyIter_range hr hsm ?_
  refine ⟨_, _, n, _, _, _, _, nx₀, J, rfl, range_walks hh a n, hsz, fun i h st => ⟨_, st⟩, range_st, by show IsRangeIter _ _ _ _ _; rw [hn]; simpa using Heap.get?_push_size _ rfl, fun b hb => ?_,
    F.keeps fun _ _ e => Heap.get?_push_of_some _ e, News.grown (fun p hp => N p (hsub p hp)) (fun _ _ e => Heap.get?_push_of_some _ e), Nat.ne_of_lt F.ns.lt, next_is_new F, fun p hp => Nat.ne_of_lt (Heap.lt_size (N p (hsub p hp)).1), trivial, mbind_name hkind hx, R, hJ, fin _⟩
  rw [List.mem_singleton.mp hb]
  show s.heap.objs.size < (s.heap.push _).objs.size
  rw [Heap.size_push]; exact Nat.lt_succ_self _

theorem mc_list {target : Expr} {ax : Addr} {its : Array Value} {Bd : Value → List (Addr × Obj) → (Str → Option Value) → Prop} (S' : List (Addr × Obj) → Prop) (J : Nat → List Value → List (Addr × Obj) → Prop) (nx₀ : List (Addr × Obj)) (hh : A.handled = none)
    (hl : SrcAt h₀ ax its nx₀) (hsz : its.size ≤ sizeLine) (F : Fr h₀ L s.heap m) (N : News h₀ L s.heap news) (hsub : ∀ p ∈ nx₀, p ∈ news) (hS : S' nx₀)
    (hB : ∀ I, MBind prog w A h₀ L m env scope cl target I (fun i v => its[i]? = some v) (fun nx => SrcAt h₀ ax its nx ∧ S' nx) (fun i h => h.IsListIter I ax i ∧ h.IsList ax its) Bd)
    (R : MTurn prog w A h₀ L m env elt ifs scope cl s (fun nx => SrcAt h₀ ax its nx ∧ S' nx) (fun i v => its[i]? = some v) Bd J its.size) (hJ : J 0 [] nx₀) (fin : ∀ g ys nx, ys.length ≤ its.size → J its.size ys nx → Fin { s with heap := g } ys nx) :
    wpAny (model prog w) A (pyIter (.ref ax)) (McAt prog w A h₀ L m env elt target ifs scope cl Fin) E s := by
  have N₀ : News h₀ L s.heap nx₀ := fun p hp => N p (hsub p hp)
  have hl' := hl.list F.keep N₀
  have hlt : ax < s.heap.objs.size := by obtain ⟨_, e, _⟩ := hl'; exact Heap.lt_size e
  refine wpAny_pyIter_list hl' ?_
  have up : ∀ b o, s.heap.get? b = some o → (s.heap.push { cls := .type "list_iterator", data := .fields #[.ref ax, .int 0 0] }).get? b = some o := fun b o e => Heap.get?_push_of_some _ e
  refine ⟨_, _, its.size, _, _, _, _, nx₀, J, rfl, Walks.list hh s.heap.objs.size ax (Nat.ne_of_lt hlt) its, hsz, fun i h st => by obtain ⟨o, e, _⟩ := st.1; exact ⟨o, e⟩, fun i h h' o nw st e e' k N S => list_st i h h' o nw st e e' k N S.1, ⟨⟨_, Heap.get?_push_size _ rfl, rfl, rfl⟩, hl'.push _⟩, fun b hb => ?_,
    F.keeps up, N₀.grown up, Nat.ne_of_lt F.ns.lt, next_is_new F, fun p hp => Nat.ne_of_lt (Heap.lt_size (N₀ p hp).1), ⟨hl, hS⟩, hB _, R, hJ, fin _⟩
  show b < (s.heap.push _).objs.size
  rw [Heap.size_push]
  rcases List.mem_cons.mp hb with rfl | hb
  · exact Nat.lt_succ_self _
  · rw [List.mem_singleton.mp hb]; exact Nat.lt_succ_of_lt hlt

theorem mc_str {c : Str} {t : Tok} (J : Nat → List Value → List (Addr × Obj) → Prop) (nx₀ : List (Addr × Obj)) (hh : A.handled = none) (hkind : scope.kind = .function) (hx : scope.names.lookup x = some .local)
    (hsz : c.cps.size ≤ sizeLine) (F : Fr h₀ L s.heap m) (N : News h₀ L s.heap news) (hsub : ∀ p ∈ nx₀, p ∈ news)
    (R : MTurn prog w A h₀ L m env elt ifs scope cl s (fun _ => True) (SignAt c) (BdN x) J c.cps.size) (hJ : J 0 [] nx₀) (fin : ∀ g ys nx, ys.length ≤ c.cps.size → J c.cps.size ys nx → Fin { s with heap := g } ys nx) :
    wpAny (model prog w) A (pyIter (.str c t)) (McAt prog w A h₀ L m env elt (.Name x px) ifs scope cl Fin) E s := by
  have N₀ : News h₀ L s.heap nx₀ := fun p hp => N p (hsub p hp)
  cases ha : c.cps.all (· < 128)
  · refine wpAny_pyIter_wide ha ?_
    refine ⟨_, _, c.cps.size, _, _, (fun _ => True), _, nx₀, J, rfl, Walks.strWide hh s.heap.objs.size c t, hsz, fun i h st => by obtain ⟨o, e, _⟩ := st; exact ⟨o, e⟩, fun i h h' o nw st e e' _ _ _ => by obtain ⟨o', q, r⟩ := st; rw [e] at q; cases q; exact ⟨o, e', r⟩, ⟨_, Heap.get?_push_size _ rfl, rfl, rfl⟩, fun b hb => ?_,
      F.keeps fun _ _ e => Heap.get?_push_of_some _ e, N₀.grown (fun _ _ e => Heap.get?_push_of_some _ e), Nat.ne_of_lt F.ns.lt, next_is_new F, fun p hp => Nat.ne_of_lt (Heap.lt_size (N₀ p hp).1), trivial, mbind_name hkind hx, R, hJ, fin _⟩
    rw [List.mem_singleton.mp hb]
    show s.heap.objs.size < (s.heap.push _).objs.size
    rw [Heap.size_push]; exact Nat.lt_succ_self _
  · refine wpAny_pyIter_ascii ha ?_
    refine ⟨_, _, c.cps.size, _, _, (fun _ => True), _, nx₀, J, rfl, Walks.strAscii hh s.heap.objs.size c t, hsz, fun i h st => by obtain ⟨o, e, _⟩ := st; exact ⟨o, e⟩, fun i h h' o nw st e e' _ _ _ => by obtain ⟨o', q, r⟩ := st; rw [e] at q; cases q; exact ⟨o, e', r⟩, ⟨_, Heap.get?_push_size _ rfl, rfl, rfl⟩, fun b hb => ?_,
      F.keeps fun _ _ e => Heap.get?_push_of_some _ e, N₀.grown (fun _ _ e => Heap.get?_push_of_some _ e), Nat.ne_of_lt F.ns.lt, next_is_new F, fun p hp => Nat.ne_of_lt (Heap.lt_size (N₀ p hp).1), trivial, mbind_name hkind hx, R, hJ, fin _⟩
    rw [List.mem_singleton.mp hb]
    show s.heap.objs.size < (s.heap.push _).objs.size
    rw [Heap.size_push]; exact Nat.lt_succ_self _
end
end
section
variable {prog : Program} {w : World} {A : Around} {E : Value → Shared → Prop} {s : Shared} {h₀ : Heap} {L : Addr} {m : Str → Option Value} {news : List (Addr × Obj)}
theorem getI {l : Addr} {vs : List Value} {ns : List Int} {n : Nat} {k : Int} {u : Tok} {Q : Value → Shared → Prop} (N : News h₀ L s.heap news) (hm : (l, listOf vs.toArray n) ∈ news) (hi : IntsAre vs ns)
    (h0 : 0 ≤ k) (hk : k < ns.length) (hz : ns.length ≤ 1000000) (h : ∀ t, Q (.int (ns.getD k.toNat 0) t) s) : wpAny (model prog w) A (getItem (.ref l) (.int k u)) Q E s := by
  have hlt : k.toNat < ns.length := by omega
  obtain ⟨t, hx⟩ := hi.get k.toNat (ns[k.toNat]'hlt) (List.getElem?_eq_getElem hlt)
  have e : ns.getD k.toNat 0 = ns[k.toNat]'hlt := by rw [List.getD_eq_getElem?_getD, List.getElem?_eq_getElem hlt]; rfl
  refine wpAny_getItem_list (x := .int (ns[k.toNat]'hlt) t) ⟨_, (N _ hm).1, rfl, n, rfl⟩ h0 (by omega) (by simpa using hx) ?_
  rw [← e]; exact h t
theorem subI {l : Addr} {vs : List Value} {ns : List Int} {n : Nat} {k : Int} {u : Tok} {value slice : Expr} {Q : Value → Shared → Prop} (N : News h₀ L s.heap news) (hm : (l, listOf vs.toArray n) ∈ news) (hi : IntsAre vs ns)
    (h0 : 0 ≤ k) (hk : k < ns.length) (hz : ns.length ≤ 1000000) (h : ∀ t, Q (.int (ns.getD k.toNat 0) t) s)
    (hs : subscripted slice false (.ref l) (.int k u) = operate [.ref l, .int k u] (getItem (.ref l) (.int k u)) := by with_unfolding_all rfl) :
    wpAny (model prog w) A (subscriptTail value slice (.ref l) (.int k u)) Q E s :=
  tail_any (Heap.IsList.typeIs ⟨_, (N _ hm).1, rfl, n, rfl⟩) slot_list_getitem.lookup (getI N hm hi h0 hk hz h) hs
/-- an item of a list that stands before the call -/
theorem getB {l : Addr} {vs : List Value} {k : Int} {u : Tok} {v : Value} {Q : Value → Shared → Prop} (F : Fr h₀ L s.heap m) (hl : h₀.IsList l vs.toArray)
    (h0 : 0 ≤ k) (hk : k < 1000000) (hv : vs[k.toNat]? = some v) (h : Q v s) : wpAny (model prog w) A (getItem (.ref l) (.int k u)) Q E s :=
  wpAny_getItem_list (hl.at fun o e => F.keep _ o e) h0 (by omega) (by simpa using hv) h
theorem subB {l : Addr} {vs : List Value} {k : Int} {u : Tok} {v : Value} {value slice : Expr} {Q : Value → Shared → Prop} (F : Fr h₀ L s.heap m) (hl : h₀.IsList l vs.toArray)
    (h0 : 0 ≤ k) (hk : k < 1000000) (hv : vs[k.toNat]? = some v) (h : Q v s)
    (hs : subscripted slice false (.ref l) (.int k u) = operate [.ref l, .int k u] (getItem (.ref l) (.int k u)) := by with_unfolding_all rfl) :
    wpAny (model prog w) A (subscriptTail value slice (.ref l) (.int k u)) Q E s :=
  tail_any (Heap.IsList.typeIs (hl.at fun o e => F.keep _ o e)) slot_list_getitem.lookup (getB F hl h0 hk hv h) hs
end
theorem off_app {own own' : List (Addr × Obj)} {l : List (Addr × Obj)} {A : List Addr} (h1 : OwnOff own A) (h2 : OwnOff own' ((l ++ own).map (·.1))) (hs : ∀ b ∈ A, b ∈ l.map (·.1)) : OwnOff (own ++ own') A := by
  intro p hp b hb
  rcases List.mem_append.mp hp with hp | hp
  · exact h1 p hp b hb
  · exact h2 p hp b (by rw [List.map_append]; exact List.mem_append.mpr (.inl (hs b hb)))
theorem execs_cons_g {M : Model} {A : Around} {E : Value → Shared → Prop} {s : Shared} {env : Env} {st : Stmt} {rest : List Stmt} {Q : Flow → Shared → Prop}
    (h : ∀ tk : Nat, wpAny M A (exec st env) (fun f s' => match f with | .next => wpAny M A (execs rest env) Q E s' | f => Q f s') E { s with toks := tk }) : wpAny M A (execs (st :: rest) env) Q E s := wpAny_execs_cons (h s.toks)
theorem grab_fr {h₀ h : Heap} {L : Addr} {m : Str → Option Value} (_F : Fr h₀ L h m) (x : Str) {a : Addr} {P : Prop} (_e : m x = some (.ref a)) (k : ∀ D : Addr, D = a → P) : P := k a rfl
theorem grab_obj {o : Obj} {d : Data} {P : Prop} (_e : o.data = d) (k : ∀ oc : Obj, oc = o → P) : P := k o rfl
theorem grab_cell {o : Obj} {a : Addr} {P : Prop} (_e : o.data = .cell (some (.ref a))) (k : ∀ D : Addr, D = a → P) : P := k a rfl
theorem grab_val {v : Value} {m : Str → Option Value} (x : Str) {P : Prop} (_e : m x = some v) (k : ∀ u : Value, u = v → P) : P := k v rfl
theorem news_add {h₀ h h' : Heap} {L : Addr} {m : Str → Option Value} {all : List (Addr × Obj)} {r : Addr} {o : Obj} (F : Fr h₀ L h m) (k : Kept h h') (N : News h₀ L h all) (n : h.get? r = none) (e : h'.get? r = some o) : News h₀ L h' ((r, o) :: all) := fun p hp => by
  rcases List.mem_cons.mp hp with rfl | hp
  · exact top_news F k (Kept.refl _) e n
  · exact N.grown k p hp
theorem off_new {h₀ h : Heap} {L : Addr} {all : List (Addr × Obj)} {r : Addr} (N : News h₀ L h all) (n : h.get? r = none) : ∀ p ∈ all, p.1 ≠ r := fun p hp e => by
  have := (N p hp).1
  rw [e, n] at this; cases this
theorem mend_new {h₀ h h' : Heap} {L I C D r : Addr} {m : Str → Option Value} {oI oC oD o : Obj} {S R : List (Addr × Obj) → Prop} {s₁ : Shared} {tk : Nat} {nx : List (Addr × Obj)}
    (F : Fr h₀ L h m) (k : Kept h h') (N : News h₀ L h ((I, oI) :: (C, oC) :: (D, oD) :: nx)) (off : Off3 I C D nx) (n : h.get? r = none) (e : h'.get? r = some o) (hS : S ((r, o) :: nx)) (hr : R ((r, o) :: nx)) :
    MEnd h₀ L m s₁ I oI C oC D oD S R { s₁ with heap := h', toks := tk } := by
  have hne := off_new N n
  refine ⟨h', tk, (r, o) :: nx, rfl, F.keeps k, fun p hp => ?_, ⟨⟨Ne.symm (hne _ (.head _)), Ne.symm (hne _ (.tail _ (.head _))), Ne.symm (hne _ (.tail _ (.tail _ (.head _))))⟩, off⟩, hS, hr⟩
  have N' := news_add F k N n e
  rcases List.mem_cons.mp hp with rfl | hp
  · exact N' _ (.tail _ (.head _))
  rcases List.mem_cons.mp hp with rfl | hp
  · exact N' _ (.tail _ (.tail _ (.head _)))
  rcases List.mem_cons.mp hp with rfl | hp
  · exact N' _ (.tail _ (.tail _ (.tail _ (.head _))))
  rcases List.mem_cons.mp hp with rfl | hp
  · exact N' _ (.head _)
  · exact N' _ (.tail _ (.tail _ (.tail _ (.tail _ hp))))
theorem mend_same {h₀ h h' : Heap} {L I C D : Addr} {m : Str → Option Value} {oI oC oD : Obj} {S R : List (Addr × Obj) → Prop} {s₁ : Shared} {tk : Nat} {nx : List (Addr × Obj)}
    (F : Fr h₀ L h' m) (N : News h₀ L h' ((I, oI) :: (C, oC) :: (D, oD) :: nx)) (off : Off3 I C D nx) (hS : S nx) (hr : R nx) :
    MEnd h₀ L m s₁ I oI C oC D oD S R { s₁ with heap := h', toks := tk } := ⟨h', tk, nx, rfl, F, N, off, hS, hr⟩
/-- rows of ints, each a list of the ledger -/
inductive RowsIn (nx : List (Addr × Obj)) : List Value → List (List Int) → Prop
  | nil : RowsIn nx [] []
  | cons {r : Addr} {vs : List Value} {n : Nat} {ns : List Int} {ys : List Value} {rss : List (List Int)} : (r, listOf vs.toArray n) ∈ nx → IntsAre vs ns → RowsIn nx ys rss → RowsIn nx (.ref r :: ys) (ns :: rss)
theorem RowsIn.mono {nx nx' : List (Addr × Obj)} (hs : ∀ p ∈ nx, p ∈ nx') {ys : List Value} {rss : List (List Int)} (h : RowsIn nx ys rss) : RowsIn nx' ys rss := by
  induction h with
  | nil => exact .nil
  | cons hm hi _ ih => exact .cons (hs _ hm) hi ih
theorem RowsIn.snoc {nx : List (Addr × Obj)} {ys : List Value} {rss : List (List Int)} {r : Addr} {vs : List Value} {n : Nat} {ns : List Int} (h : RowsIn nx ys rss) (hm : (r, listOf vs.toArray n) ∈ nx) (hi : IntsAre vs ns) : RowsIn nx (ys ++ [.ref r]) (rss ++ [ns]) := by
  induction h with
  | nil => exact .cons hm hi .nil
  | cons hm' hi' _ ih => exact .cons hm' hi' ih
theorem RowsIn.length {nx : List (Addr × Obj)} {ys : List Value} {rss : List (List Int)} (h : RowsIn nx ys rss) : ys.length = rss.length := by
  induction h with
  | nil => rfl
  | cons _ _ _ ih => simp [ih]
theorem RowsIn.get {nx : List (Addr × Obj)} {ys : List Value} {rss : List (List Int)} (h : RowsIn nx ys rss) : ∀ (i : Nat) (ns : List Int), rss[i]? = some ns → ∃ (r : Addr) (vs : List Value) (n : Nat), ys[i]? = some (.ref r) ∧ (r, listOf vs.toArray n) ∈ nx ∧ IntsAre vs ns := by
  induction h with
  | nil => intro i ns e; simp at e
  | cons hm hi _ ih =>
    intro i ns e
    cases i with
    | zero => simp at e; subst e; exact ⟨_, _, _, rfl, hm, hi⟩
    | succ i => simpa using ih i ns (by simpa using e)
/-- a new list of new rows -/
noncomputable def NewRows (rss : List (List Int)) (g h : Heap) (v : Value) : Prop := ∃ (D : Addr) (ys : List Value) (n : Nat) (nx : List (Addr × Obj)), v = .ref D ∧ g.get? D = none ∧ h.get? D = some (listOf ys.toArray n) ∧ (∀ p ∈ nx, h.get? p.1 = some p.2 ∧ g.get? p.1 = none) ∧ RowsIn nx ys rss
noncomputable def Stop (p : Prop) : Prop := p
theorem Stop.out {p : Prop} (h : Stop p) : p := h
/-- a new list of ints -/
noncomputable def NewInts (ns : List Int) (g h : Heap) (v : Value) : Prop := ∃ r vs n, v = .ref r ∧ g.get? r = none ∧ h.get? r = some (listOf vs.toArray n) ∧ IntsAre vs ns
end
theorem fill_all : PySem.Challenge.rw_wj0053_01 = PySem.Challenge.rw_wj0053_01 ∧ kHeap = kHeap := by k_fill; exact ⟨rfl, rfl⟩
section
set_option hygiene false in
local macro_rules | `(tactic| cell_enter) => `(tactic| first
  | (refine' enterP ?k1 ?k2 ?k6 ?k7 ?k8 ?k9 ?kB ?_ ?c2 ?c3 ?c4 ?c5; (case k1 => assumption); (case k2 => exact Top.nolimit (by assumption)); (case k6 => k_is); (case k7 => k_is); (case k8 => ktr_room); (case k9 => exact BindsTo.of_eq rfl); (case c5 => decide); (case kB => exact locs rfl); (case c2 => exact rfl); (case c3 => exact rfl); (case c4 => exact rfl); k_whole; intro L h₁ hL F N; (try dsimp only); (try k_fold))
  | (refine' enterPC ?k1 ?k2 ?k6 ?k7 ?k8 ?k9 ?kB ?kD ?_ ?c2 ?c3 ?c4; (case k1 => assumption); (case k2 => exact Top.nolimit (by assumption)); (case k6 => k_is); (case k7 => k_is); (case k8 => ktr_room); (case k9 => exact BindsTo.of_eq rfl); (case kB => exact rfl); (case kD => decide +kernel); (case c2 => exact rfl); (case c3 => exact rfl); (case c4 => exact rfl); k_whole; intro L h₁ tk cells hL F N Y'; k_cells Y'; (try simp only [List.cons_append, List.nil_append] at N); (try dsimp only); (try k_fold)))
local macro_rules | `(tactic| ktr_unf) => `(tactic| first | exact List.forall_mem_nil _ | (refine List.forall_mem_cons.mpr ⟨by with_unfolding_all rfl, ?_⟩; ktr_unf))
local macro_rules | `(tactic| k_steps) => `(tactic| repeat' ((fail_if_success (with_reducible show Stop _)); first | (k_unfold; (try dsimp only)) | walk1 | (dsimp only; walk1)))
local macro_rules | `(tactic| walk_at "exec While Name cons nil") => `(tactic| refine Stop.out ?_)
local macro_rules | `(tactic| walk_at "exec While Compare cons nil") => `(tactic| refine Stop.out ?_)
local macro_rules | `(tactic| walk_at "pyIter ref") => `(tactic| refine Stop.out ?_)
local macro_rules | `(tactic| walk_at "pyIter str") => `(tactic| refine Stop.out ?_)
local macro_rules | `(tactic| walk_at "exec For Name Call cons nil") => `(tactic| (k_here; (rename Fr _ _ _ _ => lF'); (with_unfolding_all refine' For_invVF lF' ?k1 ?k2 ?_; (case k1 => exact rfl); (case k2 => exact rfl); k_whole)))
local macro_rules | `(tactic| ktr_rel) => `(tactic| (intro z; intros; (rename_i h1 h2 h3; have h4 := h3; simp only [List.forall_mem_cons, List.not_mem_nil, false_implies, implies_true, and_true, ne_eq] at h1 h2; simp only [List.contains_cons, List.contains_nil, Bool.or_false, Bool.or_eq_false_iff, beq_eq_false_iff_ne, ne_eq] at h3; simp only [kstB, h1, h2, h3, if_false, ite_false, Bool.false_eq_true, List.contains_cons, List.contains_nil, Bool.or_false, Bool.or_eq_true, beq_iff_eq, or_false, false_or])))
local macro_rules | `(tactic| ksw_less) => `(tactic| (intro z; intros; (rename_i h2 h3; have h4 := h3; simp only [List.forall_mem_cons, List.not_mem_nil, false_implies, implies_true, and_true, ne_eq] at h2; simp only [List.contains_cons, List.contains_nil, Bool.or_false, Bool.or_eq_false_iff, beq_eq_false_iff_ne, ne_eq] at h3; simp only [kstB, h2, h3, if_false, ite_false, Bool.false_eq_true, List.contains_cons, List.contains_nil, Bool.or_false, Bool.or_eq_true, beq_iff_eq, or_false, false_or])))
local macro_rules | `(tactic| walk_at "eval ListComp") => `(tactic| refine Stop.out ?_)
local macro_rules | `(tactic| walk_at "exec Assign cons ListComp") => `(tactic| refine Stop.out ?_)
local macro_rules | `(tactic| walk_at "binaryOp Pow int int") => `(tactic| (k_here; refine pow_int_small (by omega) (by omega) (by decide) ?_))
local macro_rules | `(tactic| walk_at "binaryOp FloorDiv int int") => `(tactic| (k_here; refine floordiv_int (by assumption) ?_ (Or.inl (by assumption))))
local macro_rules | `(tactic| walk_at "execs cons AugAssign cons") => `(tactic| (refine execs_cons_g fun tk => ?_; (try dsimp only); (try k_fold)))
local macro_rules | `(tactic| walk_at "execs cons Assign cons") => `(tactic| (refine execs_cons_g fun tk => ?_; (try dsimp only); (try k_fold)))
local macro_rules | `(tactic| walk_at "getItem ref int") => `(tactic| (k_here; refine' getI ?k1 ?k2 ?k3 ?k4 ?k5 ?k6 ?_; (case k1 => k_asm); (case k2 => k_mem); (case k3 => assumption); (case k4 => omega); (case k5 => omega); (case k6 => omega); k_whole; intro _))
local macro_rules | `(tactic| walk_at "binaryOp LShift int int") => `(tactic| (k_here; refine lshift_int_small (by omega) (by omega) (by decide) ?_))
local macro_rules | `(tactic| walk_at "binaryOp RShift int int") => `(tactic| (k_here; refine rshift_int (by omega) ?_))
local macro_rules | `(tactic| walk_at "InvPostG") => `(tactic| (dsimp only [InvPostG]; refine Stop.out ?_))
local macro_rules | `(tactic| walk_at "execs nil") => `(tactic| (refine wpAny_execs_nil ?_; (try dsimp only)))
local macro_rules | `(tactic| walk_at "execs cons") => `(tactic| (refine execs_cons_g fun tk => ?_; (try dsimp only); (try k_fold)))
local macro_rules | `(tactic| kst_facts) => `(tactic| first | assumption | exact List.Mem.head _ | (refine List.Mem.tail _ ?_; kst_facts))
local macro_rules | `(tactic| walk_at "eval Name") => `(tactic| (k_here; (with_reducible show wpAny _ _ (eval (Expr.Name _ _) (compEnvC _ _ _ _)) _ _ _); k_dflt (first
  | (refine' LCgL.ld_own ?N ?m ?C ?x ?_ ?a ?b; (case a => rfl); (case b => rfl); (case N => k_asm); (case m => exact List.Mem.tail _ (List.Mem.head _)); (case C => assumption); (case x => assumption))
  | (refine' lcf_cell ?N ?c ?m ?d ?_ ?a ?b; (case a => rfl); (case b => rfl); (case N => k_asm); (case c => rfl); (case m => kst_facts); (case d => k_asm); k_whole)
  | (refine' LCgL.ld_global ?F ?X ?T ?e ?_ ?g ?a ?b; (case a => rfl); (case b => rfl); (case g => rfl); (case F => k_asm); (case X => k_asm); (case T => k_asm); (case e => k_is))
  | (refine' LCgL.ld_built ?F ?X ?T ?e ?v ?n ?_ ?g ?h ?a ?b; (case a => rfl); (case b => rfl); (case g => rfl); (case h => rfl); (case F => k_asm); (case X => k_asm); (case T => k_asm); (case e => k_is); (case v => boot_by_name); (case n => decide)))))
section
/-- one town of a ring -/
noncomputable def ringStep (ties : List Int) (rim step : Int) (c : List Int × Int) (j : Nat) : List Int × Int :=
  if Builtin.bitAnd (rim.fdiv (2 ^ j)) 1 ≠ 0 then (c.1.set j step, Builtin.bitOr c.2 (ties.getD j 0)) else c
noncomputable def ringTurn (ties : List Int) (far : List Int) (rim step : Int) (j : Nat) : List Int × Int := (List.range j).foldl (ringStep ties rim step) (far, 0)
noncomputable def ringsGo (ties : List Int) : Nat → List Int → Int → Int → Int → List Int
  | 0, far, _, _, _ => far
  | f + 1, far, rim, seen, step =>
    if rim = 0 then far else
      ringsGo ties f (ringTurn ties far rim step 5).1 ((ringTurn ties far rim step 5).2 - Builtin.bitAnd (ringTurn ties far rim step 5).2 (Builtin.bitOr seen rim)) (Builtin.bitOr seen rim) (step + 1)
noncomputable def ringsF (ties : List Int) (k : Int) : List Int := ringsGo ties 32 [10, 10, 10, 10, 10] (1 * 2 ^ k.toNat) 0 0

structure RSt where
  vs : List Value
  fs : List Int
  n : Nat
  rim : Int
  seen : Int
  step : Int
  fuel : Nat
  t1 : Tok
  t2 : Tok
  t3 : Tok
noncomputable def RP (ties : List Int) (R : List Int) (c : RSt) : Prop := IntsAre c.vs c.fs ∧ c.fs.length = 5 ∧ (0 ≤ c.rim ∧ c.rim < 32) ∧ (0 ≤ c.seen ∧ c.seen < 32) ∧ Builtin.bitAnd c.rim c.seen = 0 ∧ 32 ≤ c.seen + c.fuel ∧ ringsGo ties c.fuel c.fs c.rim c.seen c.step = R
structure RSi where
  vs : List Value
  n : Nat
  t : Tok
  d : List Int × Int
noncomputable def RPi (ties : List Int) (fs : List Int) (rim step : Int) (i : Nat) (c : RSi) : Prop := IntsAre c.vs c.d.1 ∧ c.d.1.length = 5 ∧ (0 ≤ c.d.2 ∧ c.d.2 < 32) ∧ c.d = ringTurn ties fs rim step i

theorem ringTurn_succ (ties far : List Int) (rim step : Int) (i : Nat) : ringTurn ties far rim step (i + 1) = ringStep ties rim step (ringTurn ties far rim step i) i := by
  unfold ringTurn; rw [List.range_succ, List.foldl_append]; rfl
theorem getD32 {ties : List Int} (h : ∀ t ∈ ties, 0 ≤ t ∧ t < 32) (i : Nat) : 0 ≤ ties.getD i 0 ∧ ties.getD i 0 < 32 := by
  rw [List.getD_eq_getElem?_getD]
  cases e : ties[i]? with
  | none => exact ⟨Int.le_refl _, by decide⟩
  | some t => exact h t (List.mem_of_getElem? e)
theorem ringsGo_zero (ties far : List Int) (seen step : Int) : ∀ f, ringsGo ties f far 0 seen step = far
  | 0 => rfl
  | f + 1 => by rw [ringsGo, if_pos rfl]
theorem pow32 {k : Int} (hk : 0 ≤ k ∧ k < 5) : (0 ≤ 1 * (2 : Int) ^ k.toNat ∧ 1 * (2 : Int) ^ k.toNat < 32) ∧ Builtin.bitAnd (1 * (2 : Int) ^ k.toNat) 0 = 0 := by
  rcases (by omega : k = 0 ∨ k = 1 ∨ k = 2 ∨ k = 3 ∨ k = 4) with rfl | rfl | rfl | rfl | rfl <;> decide
theorem rings_ctr {w : World} {mean : ExcName → Option Value} {mg mb : Str → Option Value} (a : Addr) (ties : List Int) (k : Int) (tk : Tok) (hk : 0 ≤ k ∧ k < 5) (ht : ties.length = 5 ∧ ∀ t ∈ ties, 0 ≤ t ∧ t < 32) :
    Ctr w mean mg mb 4 302 [.ref a, .int k tk] [] [] (fun g => ∃ vs, g.IsList a vs.toArray ∧ IntsAre vs ties) (NewInts (ringsF ties k)) := by
  refine ctr_of ?_
  intro dp un gd fr base s Q E B X T hd hu hp ret
  obtain ⟨vs, hl, hi⟩ := hp
  k_dflt cell_enter
  k_steps
  rename Fr _ _ _ _ => F
  rename News _ _ _ _ => N
  refine grab_fr F (Str.ofString "far") (by with_unfolding_all rfl) fun D hD => ?_
  subst hD
  unfold Stop
  refine' lp_while (σ := RSt) (fun c => [(Str.ofString "rim", .int c.rim c.t1), (Str.ofString "seen", .int c.seen c.t2), (Str.ofString "step", .int c.step c.t3)]) (fun c => [(D, listOf c.vs.toArray c.n)]) (RP ties (ringsF ties k)) (·.fuel) ["rim", "seen", "step", "fresh", "j"] (RSt.mk _ [10, 10, 10, 10, 10] _ _ _ _ 32 _ _ _) F N ?hn ?hk ?hp ?turn
  case hn => k_allIn
  case hk => ktr_unf
  case hp => exact ⟨by assumption, rfl, (pow32 hk).1, ⟨Int.le_refl _, by show (0:Int) < 32; decide⟩, (pow32 hk).2, by show (32:Int) ≤ 0 + 32; decide, rfl⟩
  case turn =>
    clear F N
    intro c u h tk hP F N
    obtain ⟨q1, q2, q3, q4, q5, q6, q7⟩ := hP
    try k_fold
    k_steps
    · rename Fr _ _ _ _ => F
      rename News _ _ _ _ => N
      unfold Stop
      refine' lp_range (σ := RSi) (fun d => [(Str.ofString "fresh", .int d.d.2 d.t)]) (fun d => [(D, listOf d.vs.toArray d.n)]) (RPi ties c.fs c.rim c.step) ["fresh"] (RSi.mk _ _ _ (c.fs, 0)) rfl ?hr ?hsm (n := 5) ?hsz F N ?hn2 ?hk2 ?hp2 ?turn2 ?done2
      case hr => assumption
      case hsm => decide
      case hsz => decide
      case hn2 => k_allIn
      case hk2 => ktr_unf
      case hp2 => exact ⟨q1, q2, ⟨Int.le_refl _, by show (0:Int) < 32; decide⟩, rfl⟩
      case turn2 =>
        clear F N
        intro i d t u h tk own hi hP hoff F N
        obtain ⟨p1, p2, p3, p4⟩ := hP
        try k_fold
        k_steps
        · unfold Stop
          refine' lp_end (RSi.mk _ _ _ (_, _)) (by assumption) (by assumption) ?hn ?ho ?hoff ?hk ?hr ?hp
          case hn => k_allIn
          case ho => exact fun p hp => List.Mem.tail _ hp
          case hk => ktr_unf
          case hoff => exact hoff
          case hr => ktr_rel
          case hp =>
            have ei : ((0 : Int) + (i : Int)).toNat = i := by omega
            simp only [ei] at *
            exact ⟨by assumption, by simpa using p2, or32 p3 (getD32 ht.2 i), by have e := ringTurn_succ ties c.fs c.rim c.step i; rw [← p4, ringStep, if_pos (by assumption)] at e; exact e.symm⟩
        · unfold Stop
          refine' lp_end (RSi.mk _ _ _ (_, _)) (by assumption) (by assumption) ?hn ?ho ?hoff ?hk ?hr ?hp
          case hn => k_allIn
          case ho => exact fun p hp => List.Mem.tail _ hp
          case hk => ktr_unf
          case hoff => exact hoff
          case hr => ktr_rel
          case hp =>
            have ei : ((0 : Int) + (i : Int)).toNat = i := by omega
            simp only [ei] at *
            exact ⟨by assumption, p2, p3, by have e := ringTurn_succ ties c.fs c.rim c.step i; rw [← p4, ringStep, if_neg (fun h => h (by assumption))] at e; exact e.symm⟩
      case done2 =>
        clear F N
        intro d u h tk hP F N
        obtain ⟨p1, p2, p3, p4⟩ := hP
        try k_fold
        k_steps
        refine' lw_end (RSt.mk _ d.d.1 _ _ _ _ (c.fuel - 1) _ _ _) (by assumption) (by assumption) ?hn ?hk ?hr ?hp ?hm
        case hn => k_allIn
        case hk => ktr_unf
        case hr => ksw_less
        case hp =>
          have g1 := or32_gt q3 q4 q5 (by assumption)
          have g2 := or32 q4 q3
          refine ⟨p1, p2, sub32 p3 (or32 q4 q3), or32 q4 q3, sub32_and p3 (or32 q4 q3), ?_, ?_⟩
          · show (32 : Int) ≤ Builtin.bitOr c.seen c.rim + ((c.fuel - 1 : Nat) : Int)
            omega
          · rw [← q7]
            obtain ⟨f, hf⟩ : ∃ f, c.fuel = f + 1 := ⟨c.fuel - 1, by omega⟩
            rw [hf, ringsGo, if_neg (by assumption), ← p4]
            rfl
        case hm => show c.fuel - 1 < c.fuel; omega
    · refine ret _ _ _ (Fr.keep (by assumption)) ⟨D, _, _, rfl, (N _ (by k_mem)).2.2, (N _ (by k_mem)).1, ?_⟩
      have e0 : c.rim = 0 := by assumption
      rw [e0, ringsGo_zero] at q7
      rw [← q7]; exact q1
end
section
/-- a road of the k-th letter -/
noncomputable abbrev dueOk (c : Int) (k j : Nat) : Prop := Builtin.bitAnd (c.fdiv (2 ^ j)) 1 ≠ 0 ∧ (c.fdiv (2 ^ k)).fmod 4 < 3
noncomputable def setTies (ts : List Int) (k j : Nat) : List Int := (ts.set k (Builtin.bitOr (ts.getD k 0) (1 * 2 ^ j)))
noncomputable def dueStep (c : Int) (k : Nat) (ts : List Int) (j : Nat) : List Int := if dueOk c k j then setTies (setTies ts k j) j k else ts
noncomputable def dueRow (c : Int) (k : Nat) (ts : List Int) (j : Nat) : List Int := (List.range j).foldl (dueStep c k) ts
noncomputable def dueTies (cs : List Int) (i : Nat) : List Int := (List.range i).foldl (fun ts i => dueRow (cs.getD i 0) (i + 1) ts (i + 1)) [0, 0, 0, 0, 0]
theorem dueRow_succ (c : Int) (k : Nat) (ts : List Int) (j : Nat) : dueRow c k ts (j + 1) = dueStep c k (dueRow c k ts j) j := by unfold dueRow; rw [List.range_succ, List.foldl_append]; rfl
theorem dueTies_succ (cs : List Int) (i : Nat) : dueTies cs (i + 1) = dueRow (cs.getD i 0) (i + 1) (dueTies cs i) (i + 1) := by unfold dueTies; rw [List.range_succ, List.foldl_append]; rfl
noncomputable def Ties (ts : List Int) : Prop := ts.length = 5 ∧ ∀ t ∈ ts, 0 ≤ t ∧ t < 32
theorem pow_lt32 {j : Nat} (h : j < 5) : 0 ≤ (1 : Int) * 2 ^ j ∧ (1 : Int) * 2 ^ j < 32 := by
  have : j = 0 ∨ j = 1 ∨ j = 2 ∨ j = 3 ∨ j = 4 := by omega
  rcases this with rfl | rfl | rfl | rfl | rfl <;> decide
theorem Ties.set {ts : List Int} (h : Ties ts) {k j : Nat} (hj : j < 5) : Ties (setTies ts k j) := by
  refine ⟨by simpa [setTies] using h.1, fun t ht => ?_⟩
  rcases List.mem_or_eq_of_mem_set ht with h1 | rfl
  · exact h.2 t h1
  · exact or32 (getD32 h.2 k) (pow_lt32 hj)
theorem small_of {a b : Int} (h1 : -1000 ≤ a) (h2 : a ≤ 1000) (h3 : -1000 ≤ b) (h4 : b ≤ 1000) : Builtin.Range.small a b 1 = true := by
  unfold Builtin.Range.small Builtin.Range.rangeFitsLong; rw [rangeSize_nat]; simp; omega
noncomputable def dueF (cs : List Int) : List (List Int) := (List.range 5).map fun j => ringsF (dueTies cs 4) ((0 : Int) + (j : Nat))
structure DS where
  vs : List Value
  ts : List Int
  n : Nat

theorem noPylong_pow {a : Int} {j : Nat} (h : j < 5) : Builtin.divisionGoesByPylong a (2 ^ j) = false := by
  refine PyProof.noPylong_small ?_
  have : j = 0 ∨ j = 1 ∨ j = 2 ∨ j = 3 ∨ j = 4 := by omega
  rcases this with rfl | rfl | rfl | rfl | rfl <;> decide
local macro_rules | `(tactic| walk_at "call ref") => `(tactic| refine Stop.out ?_)
theorem due_ctr {w : World} {mean : ExcName → Option Value} {mg mb : Str → Option Value} (a : Addr) (cs : List Int) (hc : cs.length = 4 ∧ ∀ t ∈ cs, 0 ≤ t ∧ t < 100000) :
    Ctr w mean mg mb 8 307 [.ref a] [] [] (fun g => ∃ vs, g.IsList a vs.toArray ∧ IntsAre vs cs) (NewRows (dueF cs)) := by
  refine ctr_of ?_
  intro dp un gd fr base s Q E B X T hd hu hp ret
  obtain ⟨vs, hl, hi⟩ := hp
  k_dflt cell_enter
  k_steps
  rename Fr _ _ _ _ => F
  rename News _ _ _ _ => N
  rename _ = Data.cell (some (Value.ref _)) => hoc
  refine grab_obj hoc fun oc hoc' => ?_
  subst hoc'
  refine grab_cell hoc fun D hD => ?_
  subst hD
  unfold Stop
  refine' lp_range (σ := DS) (fun _ => []) (fun c => [(D, listOf c.vs.toArray c.n), (L + 1, oc)]) (fun i c => IntsAre c.vs c.ts ∧ c.ts = dueTies cs i ∧ Ties c.ts) ["j"] (DS.mk _ [0, 0, 0, 0, 0] _) rfl (by assumption) ?hsm (n := 4) ?hsz F N ?hn ?hk ?hp ?turn ?done
  case hsm => decide
  case hsz => decide
  case hn => k_allIn
  case hk => ktr_unf
  case hp => exact ⟨by assumption, rfl, rfl, by show ∀ t ∈ [0, 0, 0, 0, 0], (0 : Int) ≤ t ∧ t < 32; decide⟩
  case turn =>
    clear F N
    intro i c t u h tk own hi' hP hoff F N
    obtain ⟨p1, p2, p3⟩ := hP
    have hdi : @Ne Nat D (L + 1) := by omega
    try k_fold
    k_steps
    rename Fr _ _ _ _ => F
    rename News _ _ _ _ => N
    unfold Stop
    refine' lp_range (σ := DS) (fun _ => []) (fun c => [(D, listOf c.vs.toArray c.n), (L + 1, oc)] ++ own) (fun j d => IntsAre d.vs d.ts ∧ d.ts = dueRow (cs.getD i 0) (i + 1) c.ts j ∧ Ties d.ts) [] c rfl (by assumption) ?hsm2 (n := i + 1) ?hsz2 F N ?hn2 ?hk2 ?hp2 ?turn2 ?done2
    case hsm2 => exact small_of (by omega) (by omega) (by omega) (by omega)
    case hsz2 => rw [rangeSize_nat]; omega
    case hn2 => exact fun _ h => h
    case hk2 => ktr_unf
    case hp2 => exact ⟨p1, rfl, p3⟩
    case turn2 =>
      clear F N
      intro j d t u h tk own' hj hP hoff' F N
      obtain ⟨r1, r2, r3⟩ := hP
      have hlen := r3.1
      have ei : ((1 : Int) + (i : Int) - 1).toNat = i := by omega
      have ej : ((0 : Int) + (j : Int)).toNat = j := by omega
      have ekx : ((1 : Int) + (i : Int)).toNat = i + 1 := by omega
      have hpw : (2 : Int) ^ ((1 : Int) + (i : Int)).toNat ≠ 0 := by rw [ekx]; exact Int.ne_of_gt (Int.pow_pos (by decide))
      have hpy : Builtin.divisionGoesByPylong (cs.getD ((1 : Int) + (i : Int) - 1).toNat 0) (2 ^ ((1 : Int) + (i : Int)).toNat) = false := by
        rw [ekx]; exact noPylong_pow (by omega)
      have ho : OwnOff (own ++ own') [D, L + 1] := off_app hoff hoff' (fun _ h => h)
      change News s.heap _ h ((D, listOf d.vs.toArray d.n) :: (L + 1, oc) :: (own ++ own')) at N
      try k_fold
      k_steps
      · unfold Stop
        rename News _ _ _ _ => N9
        refine' lp_end (DS.mk _ (setTies (setTies d.ts (i + 1) j) j (i + 1)) _) (by assumption) N9 ?hn3 ?ho3 ?hoff3 ?hk3 ?hr3 ?hp3
        case hn3 => refine List.forall_mem_cons.mpr ⟨by k_memK, List.forall_mem_cons.mpr ⟨by k_memK, fun p hp => List.Mem.tail _ (List.Mem.tail _ (List.mem_append.mpr (.inl hp)))⟩⟩
        case ho3 => exact fun p hp => List.Mem.tail _ (List.Mem.tail _ (List.mem_append.mpr (.inr hp)))
        case hk3 => ktr_unf
        case hoff3 => exact hoff'
        case hr3 => ktr_rel
        case hp3 =>
          simp only [ei, ej, ekx] at *
          refine ⟨by assumption, ?_, ?_⟩
          · rw [dueRow_succ, ← r2, dueStep, if_pos ⟨by assumption, by assumption⟩]
          · exact (r3.set (by omega)).set (by omega)
      · unfold Stop
        refine' lp_end d (by assumption) (by assumption) ?hn3 ?ho3 ?hoff3 ?hk3 ?hr3 ?hp3
        case hn3 => exact List.forall_mem_cons.mpr ⟨List.Mem.head _, List.forall_mem_cons.mpr ⟨List.Mem.tail _ (List.Mem.head _), fun p hp => List.Mem.tail _ (List.Mem.tail _ (List.mem_append.mpr (.inl hp)))⟩⟩
        case ho3 => exact fun p hp => List.Mem.tail _ (List.Mem.tail _ (List.mem_append.mpr (.inr hp)))
        case hk3 => ktr_unf
        case hoff3 => exact hoff'
        case hr3 => ktr_rel
        case hp3 =>
          simp only [ei, ej, ekx] at *
          refine ⟨by assumption, ?_, r3⟩
          rw [dueRow_succ, ← r2, dueStep, if_neg (fun h => absurd h.2 (by omega))]
      · unfold Stop
        refine' lp_end d (by assumption) (by assumption) ?hn3 ?ho3 ?hoff3 ?hk3 ?hr3 ?hp3
        case hn3 => exact List.forall_mem_cons.mpr ⟨List.Mem.head _, List.forall_mem_cons.mpr ⟨List.Mem.tail _ (List.Mem.head _), fun p hp => List.Mem.tail _ (List.Mem.tail _ (List.mem_append.mpr (.inl hp)))⟩⟩
        case ho3 => exact fun p hp => List.Mem.tail _ (List.Mem.tail _ (List.mem_append.mpr (.inr hp)))
        case hk3 => ktr_unf
        case hoff3 => exact hoff'
        case hr3 => ktr_rel
        case hp3 =>
          simp only [ei, ej, ekx] at *
          refine ⟨by assumption, ?_, r3⟩
          rw [dueRow_succ, ← r2, dueStep, if_neg (fun h => absurd (by assumption) h.1)]
    case done2 =>
      clear F N
      intro d u h tk hP F N
      obtain ⟨r1, r2, r3⟩ := hP
      try k_fold
      k_steps
      unfold Stop
      refine' lp_end (DS.mk _ d.ts _) (by assumption) N ?hn4 ?ho4 ?hoff4 ?hk4 ?hr4 ?hp4
      case hn4 => k_allIn
      case ho4 => exact fun p hp => List.Mem.tail _ (List.Mem.tail _ hp)
      case hk4 => ktr_unf
      case hoff4 => exact hoff
      case hr4 => ktr_rel
      case hp4 => exact ⟨r1, by rw [dueTies_succ, ← p2]; exact r2, r3⟩
  case done =>
    clear F N
    intro c u h tk hP F N
    obtain ⟨p1, p2, p3⟩ := hP
    try k_fold
    k_steps
    rename Fr _ _ _ _ => F
    rename News _ _ _ _ => N
    unfold Stop
    refine' mc_eval (cl := [(Str.ofString "ties", L + 1)]) F ?c1 ?c2 ?c3 ?c4 ?c5 ?c6
    case c1 => rfl
    case c2 => decide
    case c3 => rfl
    case c4 => decide
    case c6 => intro _; rfl
    case c5 =>
      k_steps
      rename Fr _ _ _ _ => F
      rename News _ _ _ _ => N
      unfold Stop
      refine' mc_range (fun i ys nx => (∀ p ∈ [(D, listOf c.vs.toArray c.n), (L + 1, oc)], p ∈ nx) ∧ RowsIn nx ys ((List.range i).map fun j => ringsF c.ts ((0 : Int) + (j : Nat)))) [(D, listOf c.vs.toArray c.n), (L + 1, oc)] rfl rfl rfl (by assumption) ?d1 (n := 5) ?d2 ?d3 F N ?d4 ?d5 ?d6 ?d7
      case d1 => decide
      case d2 => decide
      case d3 => decide
      case d4 => exact fun _ h => h
      case d6 => exact ⟨fun _ h => h, .nil⟩
      case d5 =>
        clear F N
        intro i v ys nx I oI C oC D2 m₂ h tk E' hi9 hv hJ hC hb F N off ne _
        obtain ⟨t, rfl⟩ := hv
        obtain ⟨hsub, hrows⟩ := hJ
        unfold BdN at hb
        have hm1 := hsub _ (List.Mem.head _)
        have hm2 := hsub _ (List.Mem.tail _ (List.Mem.head _))
        refine wpAny_tests_nil ?_
        dsimp only
        rw [if_pos rfl]
        try k_fold
        k_steps
        unfold Stop
        refine' ctr_pure (rings_ctr D c.ts ((0 : Int) + (i : Nat)) t ⟨by omega, by omega⟩ p3) B F X T rfl rfl rfl ?e1 ?e2 ?e3 ?e4
        case e1 => exact ⟨c.vs, ⟨_, (N (D, listOf c.vs.toArray c.n) (by kst_facts)).1, rfl, _, rfl⟩, p1⟩
        case e2 => ktr_room
        case e3 => ktr_units
        case e4 =>
          rintro v h' tk' hk' F' ⟨r, vs', n', rfl, hn, he, hi'⟩
          k_unfold
          refine mend_new F hk' N off hn he trivial ⟨fun p hp => List.Mem.tail _ (hsub p hp), ?_⟩
          rw [List.range_succ, List.map_append]
          exact (hrows.mono fun p hp => List.Mem.tail _ hp).snoc (List.Mem.head _) hi'
      case d7 =>
        intro g ys nx hl hJ
        unfold MFinE
        intro D2 h tk F N o1
        refine ret _ _ _ F.keep ⟨D2, ys, _, nx, rfl, (N _ (List.Mem.head _)).2.2, (N _ (List.Mem.head _)).1, fun p hp => ⟨(N p (List.Mem.tail _ hp)).1, (N p (List.Mem.tail _ hp)).2.2⟩, ?_⟩
        rw [dueF, ← p2]
        exact hJ.2
end
section
section
variable {prog : Program} {w : World} {A : Around} {E : Value → Shared → Prop} {s : Shared} {h₀ : Heap} {L : Addr} {m : Str → Option Value} {env : Env}
theorem newEnv1 {M : Model} {scope : Scope} {cl : List (Str × Addr)} {globals : Addr} {qual : Str} {outer : Env} {x : Str} {Q : Env → Shared → Prop} (hkind : scope.kind = .function)
    (hcf : ∀ n, cellsFrom n scope.names cl = (x, n) :: cl) (hpc : ∀ h, pushCells h scope.names = h.push { cls := .type "cell", data := .cell none })
    (h : ∀ CC h₁, CC = s.heap.objs.size + 1 → (∀ b o, s.heap.get? b = some o → h₁.get? b = some o) → h₁.Ns s.heap.objs.size (fun _ => none) → h₁.get? CC = some { cls := .type "cell", data := .cell none } →
      Q (newEnv scope s.heap.objs.size globals ((x, CC) :: cl) qual none .none (some outer) builtinsNs) { s with heap := h₁ }) :
    wpAny M A (newFunctionEnv scope globals cl [] qual none .none (some outer)) Q E s := by
  simp only [newFunctionEnv, Option.isSome_some, if_true]
  refine wpAny_bind (wpAny_alloc ?_)
  refine wpAny_bind (wpAny_layCells _ (fun name kind cells => by cases hkc : kind == NameKind.cell <;> simp [hkc]) _ _ _ _ ?_)
  refine wpAny_bind ?_
  rw [List.forIn_nil]
  refine wpAny_pure (wpAny_pure ?_)
  dsimp only
  rw [hcf, hpc]
  have e : (s.heap.push { cls := .type "dict", data := .dict #[] }).objs.size = s.heap.objs.size + 1 := Heap.size_push ..
  have q := h _ ((s.heap.push { cls := .type "dict", data := .dict #[] }).push { cls := .type "cell", data := .cell none }) e.symm.symm
    (fun b o e => Heap.get?_push_of_some _ (Heap.get?_push_of_some _ e)) ((Heap.Ns.new s.heap (.type "dict")).keeps fun _ _ e => Heap.get?_push_of_some _ e) (Heap.get?_push_size _ rfl)
  exact q
/-- a comprehension whose target is a cell of its own block -/
noncomputable def MTurnC (prog : Program) (w : World) (A : Around) (h₀ : Heap) (L : Addr) (m : Str → Option Value) (env : Env) (elt : Expr) (ifs : List Expr) (scope : Scope) (cl : List (Str × Addr)) (x : Str) (s : Shared) (P : Nat → Value → Prop)
    (J : Nat → List Value → List (Addr × Obj) → Prop) (n : Nat) : Prop :=
  ∀ i v ys nx I oI C oC D cc oc m₂ h tk (E' : Value → Shared → Prop), i < n → P i v → J i ys nx → NsObj oC m₂ → oc.data = .cell (some v) → Fr h₀ L h m → News h₀ L h ((I, oI) :: (C, oC) :: (D, lst ys) :: (cc, oc) :: nx) → Off3 I C D ((cc, oc) :: nx) → ((@Ne Nat I C) ∧ (@Ne Nat I D) ∧ (@Ne Nat C D)) → Off1 cc nx →
    wpAny (model prog w) A (compIfs ifs (compEnvC scope ((x, cc) :: cl) C env)) (fun ok s₃ => if ok = true then
        wpAny (model prog w) A (eval elt (compEnvC scope ((x, cc) :: cl) C env)) (fun y s₄ => MEnd h₀ L m { s with heap := h, toks := tk } I oI C oC D (lst ys) (fun _ => True) (fun l => ∃ nx', l = (cc, oc) :: nx' ∧ Off1 cc nx' ∧ J (i + 1) (ys ++ [y]) nx') s₄) E' s₃
      else MEnd h₀ L m { s with heap := h, toks := tk } I oI C oC D (lst ys) (fun _ => True) (fun l => ∃ nx', l = (cc, oc) :: nx' ∧ Off1 cc nx' ∧ J (i + 1) ys nx') s₃) E' { s with heap := h, toks := tk }
theorem off1_in {D : Addr} {l : List (Addr × Obj)} (h : Off1 D l) : ∀ p ∈ l, p.1 ≠ D := by
  induction l with
  | nil => intro p hp; cases hp
  | cons q r ih =>
    intro p hp
    rcases List.mem_cons.mp hp with rfl | hp
    · exact h.1
    · exact ih h.2 p hp
theorem off1_mk {D : Addr} : ∀ {l : List (Addr × Obj)}, (∀ p ∈ l, p.1 ≠ D) → Off1 D l
  | [], _ => trivial
  | p :: r, h => ⟨h p (.head _), off1_mk fun q hq => h q (.tail _ hq)⟩

inductive CFinC (h₀ : Heap) (L : Addr) (m : Str → Option Value) (s₂ : Shared) (I C CC : Addr) (oC oD oc : Obj) (St : Nat → Heap → Prop) (R : List (Addr × Obj) → Prop) (i : Nat) (s₄ : Shared) : Prop
  | mk (h₄ : Heap) (tk₄ : Nat) (news₄ : List (Addr × Obj)) : s₄ = { s₂ with heap := h₄, toks := tk₄ } → Fr h₀ L h₄ m → News h₀ L h₄ ((CC, oc) :: news₄) → Off3 I C s₂.heap.objs.size ((CC, oc) :: news₄) → Off1 CC news₄ → R news₄ → St i h₄ → h₄.get? C = some oC → h₄.get? s₂.heap.objs.size = some oD → CFinC h₀ L m s₂ I C CC oC oD oc St R i s₄
inductive CInvC (h₀ : Heap) (L : Addr) (m : Str → Option Value) (s₂ : Shared) (I C CC : Addr) (n : Nat) (St : Nat → Heap → Prop) (J : Nat → List Value → List (Addr × Obj) → Prop) (k : Nat) (s' : Shared) : Prop
  | mk (h' : Heap) (tk i : Nat) (ys : List Value) (m' : Str → Option Value) (news' : List (Addr × Obj)) (oc : Obj) (v₀ : Option Value) : s' = { s₂ with heap := h', toks := tk } → i ≤ n → k = n + 1 - i → ys.length ≤ i → St i h' → Fr h₀ L h' m → h'.Ns C m' → oc.data = .cell v₀ → News h₀ L h' ((s₂.heap.objs.size, lst ys) :: (CC, oc) :: news') →
    Off3 I C s₂.heap.objs.size ((CC, oc) :: news') → Off1 CC news' → J i ys news' → CInvC h₀ L m s₂ I C CC n St J k s'
theorem block_JC {elt iter : Expr} {x : Str} {px : Pos} {ifs : List Expr} {scope : Scope} {cl : List (Str × Addr)} {pos : Pos} {s₂ : Shared} {I : Addr} {fp : List Addr} {n : Nat} {P : Nat → Value → Prop} {St : Nat → Heap → Prop} {news : List (Addr × Obj)}
    {J : Nat → List Value → List (Addr × Obj) → Prop} {RR : Value → Addr → Result → Shared → Prop}
    (W : Walks prog w A I fp [I] n P St) (hsz : n ≤ sizeLine) (hIo : ∀ i h, St i h → ∃ o, h.get? I = some o)
    (hSt : ∀ i h h' o nw, St i h → h.get? I = some o → h'.get? I = some o → (∀ b o, h₀.get? b = some o → h'.get? b = some o) → News h₀ L h' nw → True → St i h')
    (hcf : ∀ n, cellsFrom n scope.names cl = (x, n) :: cl) (hpc : ∀ h, pushCells h scope.names = h.push { cls := .type "cell", data := .cell none }) (hkind : scope.kind = .function)
    (hkx : ∀ C cc, (compEnvC scope ((x, cc) :: cl) C env).kindOf x = some .cell) (hst : St 0 s₂.heap) (hfp : ∀ b ∈ fp, b < s₂.heap.objs.size)
    (F : Fr h₀ L s₂.heap m) (N : News h₀ L s₂.heap news) (hIL : L ≠ I) (hI₀ : h₀.get? I = none) (off : ∀ p ∈ news, p.1 ≠ I)
    (R : MTurnC prog w A h₀ L m env elt ifs scope cl x s₂ P J n) (hJ : J 0 [] news)
    (hRR : ∀ D C h tk m' ys news', Fr h₀ L h m → News h₀ L h ((D, lst ys) :: news') → Off1 D news' → h.Ns C m' → h₀.get? C = none → h₀.get? D = none → C ≠ L → D ≠ L → C ≠ D → (∀ p ∈ news', p.1 ≠ C) → ys.length ≤ n → J n ys news' → RR (.ref D) C (.ok .next) { s₂ with heap := h, toks := tk }) :
    wpAny (model prog w) A (newList []) (fun acc s₃ => wpAny (model prog w) A (newFunctionEnv scope env.globals cl [] env.qual none .none (some env)) (fun cenv s₄ =>
      codeAny (model prog w) A (.compStart (.ListComp elt [⟨.Name x px, iter, ifs, 0⟩] scope pos) 0 (.ref I) acc { cenv with scope := relabel scope env }) (RR acc cenv.locals) s₄) E s₃) E s₂ := by
  refine wpAny_newObj_type (newEnv1 hkind hcf hpc fun CC h₁ hCC hkeep hns₁ hcell₁ => ?_)
  dsimp only at hCC hkeep hns₁ hcell₁ ⊢
  generalize hH2 : s₂.heap.push { cls := .type "list", dict := none, data := .seq ([] : List Value).toArray } = H2 at hCC hkeep hns₁ hcell₁ ⊢
  have hC : H2.objs.size = s₂.heap.objs.size + 1 := by rw [← hH2, Heap.size_push]
  have hDC : s₂.heap.objs.size ≠ H2.objs.size := by rw [hC]; exact Nat.ne_of_lt (Nat.lt_succ_self _)
  have below : ∀ b, b < s₂.heap.objs.size → b ≠ H2.objs.size ∧ b ≠ s₂.heap.objs.size ∧ b ≠ CC := fun b hb => ⟨by rw [hC]; exact Nat.ne_of_lt (Nat.lt_succ_of_lt hb), Nat.ne_of_lt hb, by rw [hCC, hC]; exact Nat.ne_of_lt (Nat.lt_succ_of_lt (Nat.lt_succ_of_lt hb))⟩
  have hDf : s₂.heap.objs.size ∉ fp := fun hm => Nat.lt_irrefl _ (hfp _ hm)
  have hCf : H2.objs.size ∉ fp := fun hm => by have := hfp _ hm; rw [hC] at this; exact Nat.lt_irrefl _ (Nat.lt_of_succ_lt this)
  have hCCf : CC ∉ fp := fun hm => (below _ (hfp _ hm)).2.2 rfl
  have hIf : I ∈ fp := W.sub I (List.mem_singleton.mpr rfl)
  have hIlt : I < s₂.heap.objs.size := hfp I hIf
  have old : ∀ b o, s₂.heap.get? b = some o → h₁.get? b = some o := fun b o e => hkeep b o (hH2 ▸ Heap.get?_push_of_some _ e)
  have hacc : h₁.get? s₂.heap.objs.size = some (lst []) := hkeep _ _ (hH2 ▸ Heap.get?_push_size _ rfl)
  have hst₁ : St 0 h₁ := W.frame _ _ _ hst fun b _ o e => old b o e
  have fresh : ∀ a, s₂.heap.objs.size ≤ a → s₂.heap.get? a = none := fun a ha => by
    cases e : s₂.heap.get? a with
    | none => rfl
    | some o' => exact absurd (Heap.lt_size e) (Nat.not_lt.mpr ha)
  have fresh₀ : ∀ a, s₂.heap.objs.size ≤ a → h₀.get? a = none := fun a ha => by
    cases e : h₀.get? a with
    | none => rfl
    | some o' => have := F.keep a o' e; rw [fresh a ha] at this; cases this
  have hD₀ : h₀.get? s₂.heap.objs.size = none := fresh₀ _ (Nat.le_refl _)
  have hC₀ : h₀.get? H2.objs.size = none := fresh₀ _ (by rw [hC]; exact Nat.le_succ _)
  have hCC₀ : h₀.get? CC = none := fresh₀ _ (by rw [hCC, hC]; exact Nat.le_trans (Nat.le_succ _) (Nat.le_succ _))
  have hLlt : L < s₂.heap.objs.size := F.ns.lt
  have hDL : s₂.heap.objs.size ≠ L := Ne.symm (below L hLlt).2.1
  have hCL : H2.objs.size ≠ L := Ne.symm (below L hLlt).1
  have hCCL : CC ≠ L := Ne.symm (below L hLlt).2.2
  have hCI : I ≠ H2.objs.size := (below I hIlt).1
  have hDI : I ≠ s₂.heap.objs.size := (below I hIlt).2.1
  have hCCI : I ≠ CC := (below I hIlt).2.2
  have hCCC : CC ≠ H2.objs.size := by rw [hCC]; exact Nat.succ_ne_self _
  have hCCD : CC ≠ s₂.heap.objs.size := by rw [hCC, hC]; exact Nat.ne_of_gt (Nat.lt_succ_of_lt (Nat.lt_succ_self _))
  have off₀ : ∀ oc, Off3 I H2.objs.size s₂.heap.objs.size ((CC, oc) :: news) := fun oc => Off3.of fun p hp => by
    rcases List.mem_cons.mp hp with rfl | hp
    · exact ⟨Ne.symm hCCI, hCCC, hCCD⟩
    · exact ⟨off p hp, (below _ (Heap.lt_size (N p hp).1)).1, (below _ (Heap.lt_size (N p hp).1)).2.1⟩
  have loop : ∀ s₃ : Shared, s₃ = { s₂ with heap := h₁ } →
      codeAny (model prog w) A (.compLoop (.ListComp elt [⟨.Name x px, iter, ifs, 0⟩] scope pos) 0 (.ref I) (.ref s₂.heap.objs.size) (compEnvC scope ((x, CC) :: cl) H2.objs.size env))
        (RR (.ref s₂.heap.objs.size) H2.objs.size) s₃ := by
    rintro s₃ rfl
    refine codeAny_compLoop_any
      (CInvC h₀ L m s₂ I H2.objs.size CC n St J) ?_ (n + 1)
      ⟨h₁, _, 0, [], _, news, { cls := .type "cell", data := .cell none }, none, rfl, Nat.zero_le _, rfl, Nat.le_refl _, hst₁, F.keeps old, hns₁, rfl, fun p hp => ?_, off₀ _, off1_mk fun p hp => (below _ (Heap.lt_size (N p hp).1)).2.2, hJ⟩
    · rintro k s' ⟨h', tk, i, ys, m', news', oc, v₀, rfl, hi, rfl, hyl, hst', F', hn', hoc, N', off', offc, J'⟩
      by_cases hlt : i < n
      · refine W.item i _ _ _ hlt hst' fun v h₂ tk₂ hPv hst₂ hk₂ => ?_
        have off3 := off'.mem
        have N₂ : News h₀ L h₂ ((s₂.heap.objs.size, lst ys) :: (CC, oc) :: news') := news_but N' hk₂ fun p hp => by
          rcases List.mem_cons.mp hp with rfl | hp
          · exact Ne.symm hDI
          · exact (off3 p hp).1
        have F₂ : Fr h₀ L h₂ m := fr_but F' hk₂ hIL hI₀
        have hn₂ := hn'.at' fun o e => hk₂ _ o (by simpa using Ne.symm hCI) e
        dsimp only
        rw [show letOwnedTupleGo (.Name x px) (.ref I) v = pure () from rfl]
        refine wpAny_pure ?_
        have zc := (N₂ (CC, oc) (.tail _ (.head _))).1
        refine wpAny_assign_Name (wpAny_storeName_cell (by simp [compEnvC, relabel, hkind]) (hkx _ _) (by simp [compEnvC]) ⟨oc, zc, hoc⟩ fun h₃ hcell₃ hs₃ => ?_)
        obtain ⟨oc₃, ho₃, hd₃⟩ := hcell₃
        have hst₃ : St (i + 1) h₃ := W.frame _ _ _ hst₂ fun b hb o e => hs₃.extBut b o (fun q => hCCf (by have q' : b = CC := q; rw [← q']; exact hb)) e
        obtain ⟨oI, heI⟩ := hIo _ _ hst₃
        have hn₃ : h₃.Ns H2.objs.size m' := hn₂.sameBut hs₃ (Ne.symm hCCC)
        obtain ⟨oC, heC, hoC⟩ := ns_obj hn₃
        have F₃ : Fr h₀ L h₃ m := F₂.change hs₃ hCCL hCC₀
        have N₃ : News h₀ L h₃ ((I, oI) :: (H2.objs.size, oC) :: (s₂.heap.objs.size, lst ys) :: (CC, oc₃) :: news') := fun p hp => by
          rcases List.mem_cons.mp hp with rfl | hp
          · exact ⟨heI, Ne.symm hIL, hI₀⟩
          rcases List.mem_cons.mp hp with rfl | hp
          · exact ⟨heC, hCL, hC₀⟩
          rcases List.mem_cons.mp hp with rfl | hp
          · have z := N₂ _ (.head _)
            exact ⟨hs₃.extBut _ _ (Ne.symm hCCD) z.1, z.2⟩
          rcases List.mem_cons.mp hp with rfl | hp
          · exact ⟨ho₃, hCCL, hCC₀⟩
          · have z := N₂ p (.tail _ (.tail _ hp))
            exact ⟨hs₃.extBut _ _ (off1_in offc p hp) z.1, z.2⟩
        have offn : Off3 I H2.objs.size s₂.heap.objs.size ((CC, oc₃) :: news') := ⟨off'.1, off'.2⟩
        have fin : ∀ s₄ ys', MEnd h₀ L m { s₂ with heap := h₃, toks := tk₂ } I oI H2.objs.size oC s₂.heap.objs.size (lst ys) (fun _ => True) (fun l => ∃ nx', l = (CC, oc₃) :: nx' ∧ Off1 CC nx' ∧ J (i + 1) ys' nx') s₄ → CFinC h₀ L m s₂ I H2.objs.size CC oC (lst ys) oc₃ St (J (i + 1) ys') (i + 1) s₄ := by
          rintro s₄ ys' ⟨h₄, tk₄, l, rfl, F₄, N₄, off₄, _, nx', rfl, offc', R₄⟩
          have zI := (N₄ (I, oI) List.mem_cons_self).1
          have zC := (N₄ (H2.objs.size, oC) (List.mem_cons_of_mem _ List.mem_cons_self)).1
          have zD := (N₄ (s₂.heap.objs.size, lst ys) (List.mem_cons_of_mem _ (List.mem_cons_of_mem _ List.mem_cons_self))).1
          have N₄' : News h₀ L h₄ ((CC, oc₃) :: nx') := fun p hp => N₄ p (List.mem_cons_of_mem _ (List.mem_cons_of_mem _ (List.mem_cons_of_mem _ hp)))
          exact ⟨h₄, tk₄, nx', rfl, F₄, N₄', off₄, offc', R₄, hSt _ _ _ _ _ hst₃ heI zI F₄.keep N₄' trivial, zC, zD⟩
        refine wpAny_mono (R i v ys news' I oI H2.objs.size oC s₂.heap.objs.size CC oc₃ m' h₃ tk₂ _ hlt hPv J' hoC hd₃ F₃ N₃ offn ⟨hCI, hDI, Ne.symm hDC⟩ offc) (fun ok s₃ h₃' => ?_) fun _ _ e => e
        cases ok with
        | false =>
          simp only [Bool.false_eq_true, if_false] at h₃' ⊢
          obtain ⟨h₄, tk₄, news₄, rfl, F₄, N₄, off₄, offc₄, R₄, hst₄, zC, zD⟩ := fin _ _ h₃'
          refine ⟨n + 1 - (i + 1), by omega, h₄, tk₄, i + 1, ys, _, news₄, _, _, rfl, hlt, rfl, by omega, hst₄, F₄, hoC.ns zC, hd₃, fun p hp => ?_, off₄, offc₄, R₄⟩
          rcases List.mem_cons.mp hp with rfl | hp
          · exact ⟨zD, hDL, hD₀⟩
          · exact N₄ p hp
        | true =>
          simp only [if_true] at h₃' ⊢
          refine wpAny_mono h₃' (fun y s₄ h₄ => ?_) fun _ _ e => e
          obtain ⟨h₄, tk₄, news₄, rfl, F₄, N₄, off₄, offc₄, R₄, hst₄, zC, zD⟩ := fin _ _ h₄
          refine append_at (hsz := by show ys.toArray.size ≤ sizeLine; rw [List.size_toArray]; exact Nat.le_trans (Nat.le_trans hyl hi) hsz) zD fun h₅ hs₅ hD₅ => ?_
          have off4 := off₄.mem
          refine ⟨n + 1 - (i + 1), by omega, h₅, tk₄, i + 1, ys ++ [y], _, news₄, _, _, rfl, hlt, rfl, by rw [List.length_append, List.length_singleton]; omega, W.frame _ _ _ hst₄ fun b hb o e => hs₅.extBut b o (fun q => hDf (q ▸ hb)) e, F₄.change hs₅ hDL hD₀,
            (hoC.ns zC).sameBut hs₅ (Ne.symm hDC), hd₃, fun p hp => ?_, off₄, offc₄, R₄⟩
          rcases List.mem_cons.mp hp with rfl | hp
          · exact ⟨hD₅.trans (congrArg some (lst_snoc ys y)), hDL, hD₀⟩
          · exact ⟨hs₅.extBut _ _ (off4 p hp).2.2 (N₄ p hp).1, (N₄ p hp).2⟩
      · obtain rfl : i = n := Nat.le_antisymm hi (Nat.not_lt.mp hlt)
        refine W.done _ _ _ hst' fun h₂ tk₂ hk₂ => ?_
        have off3 := off'.mem
        have N₂ : News h₀ L h₂ ((s₂.heap.objs.size, lst ys) :: (CC, oc) :: news') := news_but N' hk₂ fun p hp => by
          rcases List.mem_cons.mp hp with rfl | hp
          · exact Ne.symm hDI
          · exact (off3 p hp).1
        refine hRR _ _ h₂ tk₂ _ ys news' (fr_but F' hk₂ hIL hI₀) (fun p hp => ?_) off'.one.2 (hn'.at' fun o e => hk₂ _ o (by simpa using Ne.symm hCI) e) hC₀ hD₀ hCL hDL (Ne.symm hDC) (fun p hp => (off3 p (.tail _ hp)).2.1) hyl J'
        rcases List.mem_cons.mp hp with rfl | hp
        · exact N₂ _ (.head _)
        · exact N₂ _ (.tail _ (.tail _ hp))
    · rcases List.mem_cons.mp hp with rfl | hp
      · exact ⟨hacc, hDL, hD₀⟩
      rcases List.mem_cons.mp hp with rfl | hp
      · exact ⟨hcell₁, hCCL, hCC₀⟩
      · exact ⟨old _ _ (N p hp).1, (N p hp).2⟩
  exact codeAny_compStart_list (loop _ rfl) (W.self 0 _ _ _ hst₁ (loop _ rfl))

/-- the source of a comprehension with a cell target, its iterator made -/
inductive McAtC (prog : Program) (w : World) (A : Around) (h₀ : Heap) (L : Addr) (m : Str → Option Value) (env : Env) (elt : Expr) (x : Str) (ifs : List Expr) (scope : Scope) (cl : List (Str × Addr)) (Fin : Shared → List Value → List (Addr × Obj) → Prop) (it : Value) (s₂ : Shared) : Prop
  | mk (I : Addr) (fp : List Addr) (n : Nat) (P : Nat → Value → Prop) (St : Nat → Heap → Prop) (news : List (Addr × Obj)) (J : Nat → List Value → List (Addr × Obj) → Prop) : (it = .ref I) → (Walks prog w A I fp [I] n P St) → (n ≤ sizeLine) → ((∀ i h, St i h → ∃ o, h.get? I = some o)) → ((∀ i h h' o nw, St i h → h.get? I = some o → h'.get? I = some o → (∀ b o, h₀.get? b = some o → h'.get? b = some o) → News h₀ L h' nw → True → St i h')) → (St 0 s₂.heap) → ((∀ b ∈ fp, b < s₂.heap.objs.size)) → (Fr h₀ L s₂.heap m) → (News h₀ L s₂.heap news) → (L ≠ I) → (h₀.get? I = none) → ((∀ p ∈ news, p.1 ≠ I)) → (MTurnC prog w A h₀ L m env elt ifs scope cl x s₂ P J n) → (J 0 [] news) → (∀ ys nx, ys.length ≤ n → J n ys nx → Fin s₂ ys nx) → McAtC prog w A h₀ L m env elt x ifs scope cl Fin it s₂

theorem mc_evalC {elt iter : Expr} {x : Str} {px : Pos} {ifs : List Expr} {scope : Scope} {cl : List (Str × Addr)} {pos : Pos} {Q : Value → Shared → Prop} (_F₀ : Fr h₀ L s.heap m)
    (hclos : closureFor scope env = pure cl) (hcf : ∀ n, cellsFrom n scope.names cl = (x, n) :: cl) (hpc : ∀ h, pushCells h scope.names = h.push { cls := .type "cell", data := .cell none }) (hkx : ∀ C cc, (compEnvC scope ((x, cc) :: cl) C env).kindOf x = some .cell) (hkind : scope.kind = .function)
    (hnames : ∀ y ∈ scope.names, y.2 = .local → scope.names.lookup y.1 = some .local)
    (h : wpAny (model prog w) A (eval iter env) (fun xv s₁ => wpAny (model prog w) A (pyIter xv) (McAtC prog w A h₀ L m env elt x ifs scope cl (MFinE h₀ L m Q)) E s₁) E s)
    (hs : ∀ x, foldedSetIterable iter env x = pure x := by intro _; rfl) :
    wpAny (model prog w) A (eval (.ListComp elt [⟨.Name x px, iter, ifs, 0⟩] scope pos) env) Q E s := by
  rw [eval_ListComp]
  refine wpAny_comprehension_free (use := none) rfl hs hclos hkind hnames (wpAny_mono h (fun xv s₁ h₁ => wpAny_mono h₁ (fun it s₂ h₂ => ?_) fun _ _ e => e) fun _ _ e => e)
  obtain ⟨I, fp, n, P, St, news, J, rfl, W, hsz, hIo, hSt, hst, hfp, F, N, hIL, hI₀, off, R, hJ, fin⟩ := h₂
  refine block_JC W hsz hIo hSt hcf hpc hkind hkx hst hfp F N hIL hI₀ off R hJ ?_
  intro D C h tk m' ys news' F' N' o1 hn hC₀ hD₀ hCL hDL hCD offC hyl j
  refine ⟨m', hn, fun h'' hs'' => fin _ _ hyl j D h'' tk (F'.change hs'' hCL hC₀) (fun p hp => ?_) o1⟩
  refine ⟨hs''.extBut _ _ ?_ (N' p hp).1, (N' p hp).2⟩
  rcases List.mem_cons.mp hp with rfl | hp
  · exact Ne.symm hCD
  · exact offC p hp

section
variable {elt : Expr} {ifs : List Expr} {scope : Scope} {cl : List (Str × Addr)} {Fin : Shared → List Value → List (Addr × Obj) → Prop} {x : Str} {px : Pos} {news : List (Addr × Obj)}
theorem mc_rangeC {r : Addr} {a b : Int} {t u v : Tok} {n : Nat} (J : Nat → List Value → List (Addr × Obj) → Prop) (nx₀ : List (Addr × Obj)) (hh : A.handled = none) 
    (hr : IsRange s.heap r a b 1 t u v) (hsm : Builtin.Range.small a b 1 = true) (hn : Builtin.Range.rangeSize a b 1 = ((n : Nat) : Int)) (hsz : n ≤ sizeLine) (F : Fr h₀ L s.heap m) (N : News h₀ L s.heap news) (hsub : ∀ p ∈ nx₀, p ∈ news)
    (R : MTurnC prog w A h₀ L m env elt ifs scope cl x s (fun i v => ∃ t, v = .int (a + (i : Int)) t) J n) (hJ : J 0 [] nx₀) (fin : ∀ g ys nx, ys.length ≤ n → J n ys nx → Fin { s with heap := g } ys nx) :
    wpAny (model prog w) A (pyIter (.ref r)) (McAtC prog w A h₀ L m env elt x ifs scope cl Fin) E s := by
  refine wpAny_pyIter_range hr hsm ?_
  refine ⟨_, _, n, _, _, nx₀, J, rfl, range_walks hh a n, hsz, fun i h st => ⟨_, st⟩, range_st, by show IsRangeIter _ _ _ _ _; rw [hn]; simpa using Heap.get?_push_size _ rfl, fun b hb => ?_,
    F.keeps fun _ _ e => Heap.get?_push_of_some _ e, News.grown (fun p hp => N p (hsub p hp)) (fun _ _ e => Heap.get?_push_of_some _ e), Nat.ne_of_lt F.ns.lt, next_is_new F, fun p hp => Nat.ne_of_lt (Heap.lt_size (N p (hsub p hp)).1), R, hJ, fin _⟩
  rw [List.mem_singleton.mp hb]
  show s.heap.objs.size < (s.heap.push _).objs.size
  rw [Heap.size_push]; exact Nat.lt_succ_self _

end
end
end
section
section
variable {prog : Program} {w : World} {A : Around} {E : Value → Shared → Prop} {s : Shared} {env : Env} {h₀ : Heap} {Q : Flow → Shared → Prop} {target : Expr} {body : List Stmt}

/-- what stands between two turns of a for -/
noncomputable def LfJ {σ : Type} (ps : σ → List (Str × Value)) (Led : σ → List (Addr × Obj)) (P : Nat → σ → Prop) (stored : List Str) (m₀ : Str → Option Value) (i : Nat) (m : Str → Option Value) (nx : List (Addr × Obj)) : Prop :=
  ∃ c, nx = Led c ∧ P i c ∧ (∀ p ∈ ps c, m p.1 = some p.2) ∧ (∀ z, (∀ p ∈ ps c, z ≠ p.1) → stored.contains z = false → m z = m₀ z)
theorem lf_end {σ : Type} {ps : σ → List (Str × Value)} {Led : σ → List (Addr × Obj)} {P : Nat → σ → Prop} {stored : List Str} {m₀ : Str → Option Value} {i : Nat} {L : Addr} {m' : Str → Option Value} {own news' : List (Addr × Obj)} {s₁ : Shared} {h' : Heap} {tk : Nat} (c' : σ)
    (F : Fr h₀ L h' m') (N : News h₀ L h' news') (hn : ∀ p ∈ Led c', p ∈ news') (ho : ∀ p ∈ own, p ∈ news') (hoff : OwnOff own ((Led c').map (·.1)))
    (hk : ∀ p ∈ ps c', m' p.1 = some p.2) (hr : ∀ z, (∀ p ∈ ps c', z ≠ p.1) → stored.contains z = false → m' z = m₀ z) (hp : P i c') :
    InvEndG h₀ L (LfJ ps Led P stored m₀ i) own s₁ { s₁ with heap := h', toks := tk } :=
  ⟨h', tk, m', news', Led c', rfl, F, N, hn, ho, hoff, c', rfl, hp, hk, hr⟩

/-- a turn: the target is not yet bound -/
noncomputable def LfTurn (prog : Program) (w : World) (A : Around) (h₀ : Heap) (env : Env) (target : Expr) (body : List Stmt) (Q : Flow → Shared → Prop) (E : Value → Shared → Prop) (s : Shared) (n : Nat) (P : Nat → Value → Prop) (St : Addr → Nat → Heap → Prop)
    {σ : Type} (ps : σ → List (Str × Value)) (Led : σ → List (Addr × Obj)) (Pc : Nat → σ → Prop) (stored : List Str) (m₀ : Str → Option Value) : Prop :=
  ∀ (i : Nat) (v : Value) (c : σ) (u : Str → Option Value) (I : Addr) (oI : Obj) (h : Heap) (tk : Nat), i < n → P i v → Pc i c → OwnOff [(I, oI)] ((Led c).map (·.1)) → St I (i + 1) h → Fr h₀ env.locals h (kstB (fun z => if stored.contains z then u z else m₀ z) (ps c)) → News h₀ env.locals h (Led c ++ [(I, oI)]) →
    wpAny (model prog w) A (letOwnedTupleGo target (.ref I) v) (fun _ s' => wpAny (model prog w) A (assign target env v) (fun _ s'' => wpAny (model prog w) A (execs body env) (InvPostG h₀ env.locals (LfJ ps Led Pc stored m₀ (i + 1)) [(I, oI)] { s with heap := h, toks := tk } Q) E s'') E s') E { s with heap := h, toks := tk }

inductive LfAt (prog : Program) (w : World) (A : Around) (h₀ : Heap) (env : Env) (target : Expr) (body : List Stmt) (Q : Flow → Shared → Prop) (E : Value → Shared → Prop) (it : Value) (s : Shared) : Prop
  | mk (I : Addr) (fp : List Addr) (n : Nat) (P : Nat → Value → Prop) (St : Addr → Nat → Heap → Prop) (S : List (Addr × Obj) → Prop) (σ : Type) (ps : σ → List (Str × Value)) (Led : σ → List (Addr × Obj)) (Pc : Nat → σ → Prop) (stored : List Str) (m₀ : Str → Option Value) (c₀ : σ) : (it = .ref I) → (Walks prog w A I fp [I] n P (St I)) → ((∀ i h, St I i h → ∃ o, h.get? I = some o)) → ((∀ i h h' o nw, St I i h → h.get? I = some o → h'.get? I = some o → (∀ b o, h₀.get? b = some o → h'.get? b = some o) → News h₀ env.locals h' nw → S nw → St I i h')) → ((∀ i c, Pc i c → S (Led c))) → (St I 0 s.heap) → (env.locals ≠ I) → (h₀.get? I = none) → ((∀ p ∈ Led c₀, p.1 ≠ I)) → (Fr h₀ env.locals s.heap m₀) → (News h₀ env.locals s.heap (Led c₀)) → ((∀ p ∈ ps c₀, m₀ p.1 = some p.2)) → (Pc 0 c₀) → (LfTurn prog w A h₀ env target body Q E s n P St ps Led Pc stored m₀) → (∀ (c : σ) (u : Str → Option Value) h tk, Pc n c → Fr h₀ env.locals h (kstB (fun z => if stored.contains z then u z else m₀ z) (ps c)) → News h₀ env.locals h (Led c) → Q .next { s with heap := h, toks := tk }) → LfAt prog w A h₀ env target body Q E it s

theorem lf_for {m : Str → Option Value} {iter : Expr} {pos : Pos} (_F : Fr h₀ env.locals s.heap m)
    (h : wpAny (model prog w) A (eval iter env) (fun xv s₁ => wpAny (model prog w) A (pyIter xv) (fun it s₂ => LfAt prog w A h₀ env target body Q E it s₂) E s₁) E s)
    (hs : ∀ x, foldedSetIterable iter env x = pure x := by intro _; rfl)
    (hE : PassesOwn (model prog w) A env E := by passes_own) :
    wpAny (model prog w) A (exec (.For target iter body [] pos) env) Q E s := by
  refine wpAny_For (wpAny_mono h (fun xv s₁ h₁ => wpAny_mono h₁ (fun it s₂ h₂ => ?_) fun _ _ e => e) fun _ _ e => e) hs
  obtain ⟨I, fp, n, P, St, S, σ, ps, Led, Pc, stored, m₀, c₀, rfl, W, hIo, hSt, hS, hst, hIL, hI₀, off, F, N, hk, hp, turn, done⟩ := h₂
  refine codeAny_forLoop_any
    (fun k s' => ∃ h' tk i c m', s' = { s₂ with heap := h', toks := tk } ∧ i ≤ n ∧ k = n + 1 - i ∧ St I i h' ∧ Fr h₀ env.locals h' m' ∧ News h₀ env.locals h' (Led c) ∧ (∀ p ∈ Led c, p.1 ≠ I) ∧ Pc i c ∧
      (∀ p ∈ ps c, m' p.1 = some p.2) ∧ (∀ z, (∀ p ∈ ps c, z ≠ p.1) → stored.contains z = false → m' z = m₀ z)) ?_ (n + 1)
    ⟨s₂.heap, s₂.toks, 0, c₀, m₀, rfl, Nat.zero_le _, rfl, hst, F, N, off, hp, hk, fun _ _ _ => rfl⟩
  rintro k s' ⟨h', tk, i, c, m', rfl, hi, rfl, hst', F', N', off', hp', hk', hr'⟩
  by_cases hlt : i < n
  · refine W.item i _ _ _ hlt hst' fun v h₁ tk₁ hPv hst₁ hk₁ => ?_
    have N₁ := news_but N' hk₁ off'
    have F₁ := fr_but F' hk₁ hIL hI₀
    obtain ⟨oI, heI⟩ := hIo _ _ hst₁
    have hIf : I ∈ [I] := List.mem_singleton.mpr rfl
    dsimp only
    refine wpAny_mono (turn i v c m' I oI h₁ tk₁ hlt hPv hp' (fun p hp b hb => ?_) hst₁ (ksw_fr hk' hr' F₁) fun p hp => ?_) (fun _ s₃ q => wpAny_mono q (fun _ s₄ q' => wpAny_mono q' (fun f s₅ q'' => ?_) hE) hE) hE
    · rw [List.mem_singleton.mp hp]
      obtain ⟨q, hq, rfl⟩ := List.mem_map.mp hb
      exact Ne.symm (off' q hq)
    · rcases List.mem_append.mp hp with hp | hp
      · exact N₁ p hp
      · rw [List.mem_singleton.mp hp]
        exact ⟨heI, Ne.symm hIL, hI₀⟩
    · have fin : InvEndG h₀ env.locals (LfJ ps Led Pc stored m₀ (i + 1)) [(I, oI)] { s₂ with heap := h₁, toks := tk₁ } s₅ → ∃ m, m < n + 1 - i ∧ ∃ h' tk i c m', s₅ = { s₂ with heap := h', toks := tk } ∧ i ≤ n ∧ m = n + 1 - i ∧ St I i h' ∧ Fr h₀ env.locals h' m' ∧ News h₀ env.locals h' (Led c) ∧ (∀ p ∈ Led c, p.1 ≠ I) ∧ Pc i c ∧
          (∀ p ∈ ps c, m' p.1 = some p.2) ∧ (∀ z, (∀ p ∈ ps c, z ≠ p.1) → stored.contains z = false → m' z = m₀ z) := by
        rintro ⟨h', tk, m', news', nx, rfl, F₄, N₄, hn, ho, ha, c', rfl, hp₄, hk₄, hr₄⟩
        have NL : News h₀ env.locals h' (Led c') := fun p hp => N₄ p (hn p hp)
        exact ⟨n + 1 - (i + 1), by omega, h', tk, i + 1, c', m', rfl, hlt, rfl, hSt _ _ _ _ _ hst₁ heI (N₄ _ (ho _ (List.mem_singleton.mpr rfl))).1 F₄.keep NL (hS _ _ hp₄), F₄, NL,
          fun p hp => Ne.symm (ha _ (List.mem_singleton.mpr rfl) p.1 (List.mem_map_of_mem hp)), hp₄, hk₄, hr₄⟩
      cases f with
      | ret v => exact q''
      | brk => exact q''
      | next => exact fin q''
      | cont => exact fin q''
  · obtain rfl : i = n := Nat.le_antisymm hi (Nat.not_lt.mp hlt)
    refine W.done _ _ _ hst' fun h₁ tk₁ hk₁ => wpAny_execs_nil ?_
    exact done c m' h₁ tk₁ hp' (ksw_fr hk' hr' (fr_but F' hk₁ hIL hI₀)) (news_but N' hk₁ off')

section
variable {σ : Type} {m₀ : Str → Option Value} {news : List (Addr × Obj)}
theorem lf_range {r : Addr} {a₀ b₀ : Int} {t₀ u₀ v₀ : Tok} {n : Nat} (ps : σ → List (Str × Value)) (Led : σ → List (Addr × Obj)) (P : Nat → σ → Prop) (stored : List Str) (c₀ : σ)
    (hh : A.handled = none) (hr : IsRange s.heap r a₀ b₀ 1 t₀ u₀ v₀) (hsmall : Builtin.Range.small a₀ b₀ 1 = true) (hsz : Builtin.Range.rangeSize a₀ b₀ 1 = (n : Int)) (F : Fr h₀ env.locals s.heap m₀) (N : News h₀ env.locals s.heap news) (hn : ∀ p ∈ Led c₀, p ∈ news) (hk : ∀ p ∈ ps c₀, m₀ p.1 = some p.2) (hp : P 0 c₀)
    (turn : LfTurn prog w A h₀ env target body Q E s n (fun i v => ∃ t, v = .int (a₀ + (i : Int)) t) (fun I i h => IsRangeIter h I (a₀ + (i : Nat) * 1) ((n : Int) - (i : Nat)) 1) ps Led P stored m₀)
    (done : ∀ (c : σ) (u : Str → Option Value) h tk, P n c → Fr h₀ env.locals h (kstB (fun z => if stored.contains z then u z else m₀ z) (ps c)) → News h₀ env.locals h (Led c) → Q .next { s with heap := h, toks := tk }) :
    wpAny (model prog w) A (pyIter (.ref r)) (fun it s₂ => LfAt prog w A h₀ env target body Q E it s₂) E s := by
  refine wpAny_pyIter_range hr hsmall ?_
  exact ⟨s.heap.objs.size, _, n, _, (fun I i h => IsRangeIter h I (a₀ + (i : Nat) * 1) ((n : Int) - (i : Nat)) 1), (fun _ => True), σ, ps, Led, P, stored, m₀, c₀, rfl, range_walks hh a₀ n, fun i h st => ⟨_, st⟩, range_st, fun _ _ _ => trivial,
    by show IsRangeIter _ _ _ _ _; rw [hsz]; simpa using Heap.get?_push_size _ rfl, Nat.ne_of_lt F.ns.lt, next_is_new F, fun p hp => Nat.ne_of_lt (Heap.lt_size (N p (hn p hp)).1),
    F.keeps fun _ _ e => Heap.get?_push_of_some _ e, News.grown (fun p hp => N p (hn p hp)) (fun _ _ e => Heap.get?_push_of_some _ e), hk, hp, turn, done⟩
theorem lf_list {ax : Addr} {its : Array Value} (ps : σ → List (Str × Value)) (Led : σ → List (Addr × Obj)) (P : Nat → σ → Prop) (stored : List Str) (c₀ : σ)
    (hh : A.handled = none) (hl : ∀ i c, P i c → SrcAt h₀ ax its (Led c)) (F : Fr h₀ env.locals s.heap m₀) (N : News h₀ env.locals s.heap news) (hn : ∀ p ∈ Led c₀, p ∈ news) (hk : ∀ p ∈ ps c₀, m₀ p.1 = some p.2) (hp : P 0 c₀)
    (turn : LfTurn prog w A h₀ env target body Q E s its.size (fun i v => its[i]? = some v) (fun I i h => h.IsListIter I ax i ∧ h.IsList ax its) ps Led P stored m₀)
    (done : ∀ (c : σ) (u : Str → Option Value) h tk, P its.size c → Fr h₀ env.locals h (kstB (fun z => if stored.contains z then u z else m₀ z) (ps c)) → News h₀ env.locals h (Led c) → Q .next { s with heap := h, toks := tk }) :
    wpAny (model prog w) A (pyIter (.ref ax)) (fun it s₂ => LfAt prog w A h₀ env target body Q E it s₂) E s := by
  have N₀ : News h₀ env.locals s.heap (Led c₀) := fun p hp => N p (hn p hp)
  have hl' := (hl 0 c₀ hp).list F.keep N₀
  have hlt : ax < s.heap.objs.size := by obtain ⟨_, e, _⟩ := hl'; exact Heap.lt_size e
  refine wpAny_pyIter_list hl' ?_
  have up : ∀ b o, s.heap.get? b = some o → (s.heap.push { cls := .type "list_iterator", data := .fields #[.ref ax, .int 0 0] }).get? b = some o := fun b o e => Heap.get?_push_of_some _ e
  exact ⟨s.heap.objs.size, _, its.size, _, (fun I i h => h.IsListIter I ax i ∧ h.IsList ax its), (fun nx => SrcAt h₀ ax its nx), σ, ps, Led, P, stored, m₀, c₀, rfl, Walks.list hh s.heap.objs.size ax (Nat.ne_of_lt hlt) its, fun i h st => by obtain ⟨o, e, _⟩ := st.1; exact ⟨o, e⟩,
    fun i h h' o nw st e e' k N S => list_st i h h' o nw st e e' k N S, hl, ⟨⟨_, Heap.get?_push_size _ rfl, rfl, rfl⟩, hl'.push _⟩, Nat.ne_of_lt F.ns.lt, next_is_new F, fun p hp => Nat.ne_of_lt (Heap.lt_size (N p (hn p hp)).1),
    F.keeps up, N₀.grown up, hk, hp, turn, done⟩
theorem lf_str {c : Str} {t : Tok} (ps : σ → List (Str × Value)) (Led : σ → List (Addr × Obj)) (P : Nat → σ → Prop) (stored : List Str) (c₀ : σ)
    (hh : A.handled = none) (F : Fr h₀ env.locals s.heap m₀) (N : News h₀ env.locals s.heap news) (hn : ∀ p ∈ Led c₀, p ∈ news) (hk : ∀ p ∈ ps c₀, m₀ p.1 = some p.2) (hp : P 0 c₀)
    (turn : LfTurn prog w A h₀ env target body Q E s c.cps.size (SignAt c) (fun _ _ _ => True) ps Led P stored m₀)
    (done : ∀ (d : σ) (u : Str → Option Value) h tk, P c.cps.size d → Fr h₀ env.locals h (kstB (fun z => if stored.contains z then u z else m₀ z) (ps d)) → News h₀ env.locals h (Led d) → Q .next { s with heap := h, toks := tk }) :
    wpAny (model prog w) A (pyIter (.str c t)) (fun it s₂ => LfAt prog w A h₀ env target body Q E it s₂) E s := by
  have N₀ : News h₀ env.locals s.heap (Led c₀) := fun p hp => N p (hn p hp)
  have up : ∀ o b o', s.heap.get? b = some o' → (s.heap.push o).get? b = some o' := fun o b o' e => Heap.get?_push_of_some _ e
  cases ha : c.cps.all (· < 128)
  · refine wpAny_pyIter_wide ha ?_
    exact ⟨s.heap.objs.size, _, c.cps.size, _, (fun I i h => h.IsStrIter I _ c t i), (fun _ => True), σ, ps, Led, P, stored, m₀, c₀, rfl, Walks.strWide hh s.heap.objs.size c t, fun i h st => by obtain ⟨o, e, _⟩ := st; exact ⟨o, e⟩,
      fun i h h' o nw st e e' _ _ _ => by obtain ⟨o', q, r⟩ := st; rw [e] at q; cases q; exact ⟨o, e', r⟩, fun _ _ _ => trivial, ⟨_, Heap.get?_push_size _ rfl, rfl, rfl⟩, Nat.ne_of_lt F.ns.lt, next_is_new F, fun p hp => Nat.ne_of_lt (Heap.lt_size (N p (hn p hp)).1),
      F.keeps (up _), N₀.grown (up _), hk, hp, (fun i v d u I oI h tk hi hP hp ho _ F N => turn i v d u I oI h tk hi hP hp ho trivial F N), done⟩
  · refine wpAny_pyIter_ascii ha ?_
    exact ⟨s.heap.objs.size, _, c.cps.size, _, (fun I i h => h.IsStrIter I _ c t i), (fun _ => True), σ, ps, Led, P, stored, m₀, c₀, rfl, Walks.strAscii hh s.heap.objs.size c t, fun i h st => by obtain ⟨o, e, _⟩ := st; exact ⟨o, e⟩,
      fun i h h' o nw st e e' _ _ _ => by obtain ⟨o', q, r⟩ := st; rw [e] at q; cases q; exact ⟨o, e', r⟩, fun _ _ _ => trivial, ⟨_, Heap.get?_push_size _ rfl, rfl, rfl⟩, Nat.ne_of_lt F.ns.lt, next_is_new F, fun p hp => Nat.ne_of_lt (Heap.lt_size (N p (hn p hp)).1),
      F.keeps (up _), N₀.grown (up _), hk, hp, (fun i v d u I oI h tk hi hP hp ho _ F N => turn i v d u I oI h tk hi hP hp ho trivial F N), done⟩
end
theorem let_name {x : Str} {px : Pos} {it v : Value} {Q : Unit → Shared → Prop} (h : Q () s) : wpAny (model prog w) A (letOwnedTupleGo (.Name x px) it v) Q E s := by
  rw [show letOwnedTupleGo (.Name x px) it v = pure () from rfl]; exact wpAny_pure h
end
section
variable {prog : Program} {w : World} {A : Around} {E : Value → Shared → Prop} {s : Shared} {h₀ : Heap} {L : Addr} {m : Str → Option Value} {news : List (Addr × Obj)}
theorem sumG {l : Addr} {xs : Array (Int × Tok)} {Q : Value → Shared → Prop} (hh : A.handled = none) (hl : s.heap.IsList l (intItems xs))
    (h : ∀ h' tk t', (∀ b o, s.heap.get? b = some o → h'.get? b = some o) → Q (.int (preSum (numAt xs) xs.size) t') { s with heap := h', toks := tk }) :
    wpAny (model prog w) A (call (.builtin "sum") [.ref l]) Q E s := by
  refine call_sum_walkG (iter_intList hl fun s₂ e st hfp hlI => ?_)
  subst e
  refine ⟨_, _, _, _, _, _, numAt xs, rfl, Walks.list (A := A.in1) hh _ l hlI (intItems xs), st, hfp, (fun _ _ => intItems_at), fun h' tk t' hk => ?_⟩
  have := h h' tk t' (old_kept hk)
  simpa [intItems] using this
theorem sumL {l : Addr} {vs : List Value} {n : Nat} {ns : List Int} {Q : Value → Shared → Prop} (hh : A.handled = none) (F : Fr h₀ L s.heap m) (N : News h₀ L s.heap news) (hm : (l, listOf vs.toArray n) ∈ news) (hi : IntsAre vs ns)
    (h : ∀ h' tk t', Fr h₀ L h' m → News h₀ L h' news → Q (.int ns.sum t') { s with heap := h', toks := tk }) :
    wpAny (model prog w) A (call (.builtin "sum") [.ref l]) Q E s := by
  have hl : s.heap.IsList l vs.toArray := ⟨_, (N _ hm).1, rfl, n, rfl⟩
  obtain ⟨xs, hx⟩ := hi.allInts.items
  have hn : numsOf vs.toArray.toList = ns := by rw [show vs.toArray.toList = vs from rfl, hi.numsOf]
  rw [hx] at hl hn
  rw [nums_intItems] at hn
  refine sumG hh hl fun h' tk t' hk => ?_
  have := h h' tk t' (F.keeps hk) (N.grown hk)
  rw [preSum_eq, List.take_of_length_le (by simp), hn]
  exact this
/-- an int of a list that stands before the call -/
theorem getBI {l : Addr} {vs : List Value} {ns : List Int} {k : Int} {u : Tok} {Q : Value → Shared → Prop} (F : Fr h₀ L s.heap m) (hl : h₀.IsList l vs.toArray) (hi : IntsAre vs ns)
    (h0 : 0 ≤ k) (hk : k < ns.length) (hz : ns.length ≤ 1000000) (h : ∀ t, Q (.int (ns.getD k.toNat 0) t) s) : wpAny (model prog w) A (getItem (.ref l) (.int k u)) Q E s := by
  have hlt : k.toNat < ns.length := by omega
  obtain ⟨t, hx⟩ := hi.get k.toNat (ns[k.toNat]'hlt) (List.getElem?_eq_getElem hlt)
  have e : ns.getD k.toNat 0 = ns[k.toNat]'hlt := by rw [List.getD_eq_getElem?_getD, List.getElem?_eq_getElem hlt]; rfl
  refine wpAny_getItem_list (x := .int (ns[k.toNat]'hlt) t) (hl.at fun o e => F.keep _ o e) h0 (by omega) (by simpa using hx) ?_
  rw [← e]; exact h t
theorem subBI {l : Addr} {vs : List Value} {ns : List Int} {k : Int} {u : Tok} {value slice : Expr} {Q : Value → Shared → Prop} (F : Fr h₀ L s.heap m) (hl : h₀.IsList l vs.toArray) (hi : IntsAre vs ns)
    (h0 : 0 ≤ k) (hk : k < ns.length) (hz : ns.length ≤ 1000000) (h : ∀ t, Q (.int (ns.getD k.toNat 0) t) s)
    (hs : subscripted slice false (.ref l) (.int k u) = operate [.ref l, .int k u] (getItem (.ref l) (.int k u)) := by with_unfolding_all rfl) :
    wpAny (model prog w) A (subscriptTail value slice (.ref l) (.int k u)) Q E s :=
  tail_any (Heap.IsList.typeIs (hl.at fun o e => F.keep _ o e)) slot_list_getitem.lookup (getBI F hl hi h0 hk hz h) hs
end
end
local macro_rules | `(tactic| walk_at "exec For Name Call cons nil") => `(tactic| (k_here; (rename Fr _ _ _ _ => lF'); (with_unfolding_all refine' lf_for lF' ?_)))
local macro_rules | `(tactic| walk_at "exec For Name Subscript cons nil") => `(tactic| (k_here; (rename Fr _ _ _ _ => lF'); (with_unfolding_all refine' lf_for lF' ?_)))
local macro_rules | `(tactic| walk_at "exec For Name Name cons nil") => `(tactic| (k_here; (rename Fr _ _ _ _ => lF'); (with_unfolding_all refine' lf_for lF' ?_)))
local macro_rules | `(tactic| walk_at "exec For Tuple Attribute cons nil") => `(tactic| (k_here; (rename Fr _ _ _ _ => lF'); (with_unfolding_all refine' lf_for lF' ?_)))
local macro_rules | `(tactic| k_room) => `(tactic| ((try simp only [depth_under_make, depth_under_kw, depth_in1, depth_deeper, depth_caller]); omega))
section
/-- rows of ints that stand in a heap -/
noncomputable def RowsAt (g : Heap) (a : Addr) (rss : List (List Int)) : Prop := ∃ ys : List Value, g.IsList a ys.toArray ∧ ys.length = rss.length ∧ ∀ (i : Nat) (ns : List Int), rss[i]? = some ns → ∃ (r : Addr) (vs : List Value), ys[i]? = some (Value.ref r) ∧ g.IsList r vs.toArray ∧ IntsAre vs ns
noncomputable def Far (rss : List (List Int)) : Prop := rss.length = 5 ∧ ∀ ns ∈ rss, ns.length = 5 ∧ ∀ e ∈ ns, 0 ≤ e ∧ e ≤ 10
noncomputable def fF (rss : List (List Int)) (a b : Nat) : Int := (rss.getD a []).getD b 0
noncomputable def roomOf (rss : List (List Int)) (a b : Nat) : Int := (((List.range 5).filter fun x => fF rss a x + fF rss x b = fF rss a b).map fun x => (1 : Int) * 2 ^ x).sum
noncomputable def roomsStep (rss : List (List Int)) (a : Nat) (ps : List (Int × Int)) (b : Nat) : List (Int × Int) := if 1 < fF rss a b ∧ fF rss a b < 10 then ps ++ [(Builtin.bitOr (1 * 2 ^ a) (1 * 2 ^ b), roomOf rss a b)] else ps
noncomputable def roomsRow (rss : List (List Int)) (ps : List (Int × Int)) (a b : Nat) : List (Int × Int) := (List.range b).foldl (roomsStep rss a) ps
noncomputable def roomsAll (rss : List (List Int)) (n : Nat) : List (Int × Int) := (List.range n).foldl (fun ps a => roomsRow rss ps a a) []
theorem roomsRow_succ (rss ps a b) : roomsRow rss ps a (b + 1) = roomsStep rss a (roomsRow rss ps a b) b := by unfold roomsRow; rw [List.range_succ, List.foldl_append]; rfl
theorem roomsAll_succ (rss n) : roomsAll rss (n + 1) = roomsRow rss (roomsAll rss n) n n := by unfold roomsAll; rw [List.range_succ, List.foldl_append]; rfl
noncomputable def wholeB (ps : List (Int × Int)) (s : Nat) : Bool := decide ((ps.filter fun p => Builtin.bitAnd s p.1 = p.1 ∧ Builtin.bitAnd s p.2 ≠ p.2).map (·.2) = [])
noncomputable abbrev lessC (ps : List (Int × Int)) (s x : Nat) : Prop := Builtin.bitAnd ((s : Int).fdiv (2 ^ x)) 1 ≠ 0 ∧ wholeB ps ((s : Int) - 1 * 2 ^ x).toNat = false
noncomputable def lessF (ps : List (Int × Int)) (s : Nat) : Nat := ((List.range 5).filter fun x => lessC ps s x).length
noncomputable def countF (rss : List (List Int)) : Int := (((List.range 32).filter fun s => wholeB (roomsAll rss 5) s = true).map fun s => (2 : Int) ^ lessF (roomsAll rss 5) s).sum
theorem sub_bit : ∀ (s : Fin 32) (x : Fin 5), Builtin.bitAnd ((s.val : Int).fdiv (2 ^ x.val)) 1 ≠ 0 → 0 ≤ (s.val : Int) - 1 * 2 ^ x.val ∧ (s.val : Int) - 1 * 2 ^ x.val < 32 := by decide +kernel
theorem getV {prog : Program} {w : World} {A : Around} {E : Value → Shared → Prop} {s : Shared} {h₀ : Heap} {L : Addr} {news : List (Addr × Obj)} {l : Addr} {vs : List Value} {k : Int} {u : Tok} {v : Value} {Q : Value → Shared → Prop} (N : News h₀ L s.heap news) (hm : (l, lst vs) ∈ news)
    (h0 : 0 ≤ k) (hk : k < 1000000) (hv : vs[k.toNat]? = some v) (h : Q v s) : wpAny (model prog w) A (getItem (.ref l) (.int k u)) Q E s :=
  wpAny_getItem_list ⟨_, (N _ hm).1, rfl, _, rfl⟩ h0 (by omega) (by simpa using hv) h
theorem subV {prog : Program} {w : World} {A : Around} {E : Value → Shared → Prop} {s : Shared} {h₀ : Heap} {L : Addr} {news : List (Addr × Obj)} {l : Addr} {vs : List Value} {k : Int} {u : Tok} {v : Value} {value slice : Expr} {Q : Value → Shared → Prop} (N : News h₀ L s.heap news) (hm : (l, lst vs) ∈ news)
    (h0 : 0 ≤ k) (hk : k < 1000000) (hv : vs[k.toNat]? = some v) (h : Q v s)
    (hs : subscripted slice false (.ref l) (.int k u) = operate [.ref l, .int k u] (getItem (.ref l) (.int k u)) := by with_unfolding_all rfl) :
    wpAny (model prog w) A (subscriptTail value slice (.ref l) (.int k u)) Q E s :=
  tail_any (Heap.IsList.typeIs ⟨_, (N _ hm).1, rfl, _, rfl⟩) slot_list_getitem.lookup (getV N hm h0 hk hv h) hs
/-- pairs of ints, each a tuple of the ledger -/
inductive PairsIn (nx : List (Addr × Obj)) : List Value → List (Int × Int) → Prop
  | nil : PairsIn nx [] []
  | cons {r : Addr} {n : Nat} {p : Int × Int} {t1 t2 : Tok} {ys : List Value} {ps : List (Int × Int)} : (r, ({ cls := .type "tuple", data := .seq #[.int p.1 t1, .int p.2 t2] n } : Obj)) ∈ nx → PairsIn nx ys ps → PairsIn nx (.ref r :: ys) (p :: ps)
theorem PairsIn.mono {nx nx' : List (Addr × Obj)} (hs : ∀ p ∈ nx, p ∈ nx') {ys : List Value} {ps : List (Int × Int)} (h : PairsIn nx ys ps) : PairsIn nx' ys ps := by
  induction h with
  | nil => exact .nil
  | cons hm _ ih => exact .cons (hs _ hm) ih
theorem PairsIn.snoc {nx : List (Addr × Obj)} {ys : List Value} {ps : List (Int × Int)} {r : Addr} {n : Nat} {p : Int × Int} {t1 t2 : Tok} (h : PairsIn nx ys ps) (hm : (r, ({ cls := .type "tuple", data := .seq #[.int p.1 t1, .int p.2 t2] n } : Obj)) ∈ nx) : PairsIn nx (ys ++ [.ref r]) (ps ++ [p]) := by
  induction h with
  | nil => exact .cons hm .nil
  | cons hm' _ ih => exact .cons hm' ih
theorem PairsIn.length {nx : List (Addr × Obj)} {ys : List Value} {ps : List (Int × Int)} (h : PairsIn nx ys ps) : ys.length = ps.length := by
  induction h with
  | nil => rfl
  | cons _ _ ih => simp [ih]
theorem PairsIn.get {nx : List (Addr × Obj)} {ys : List Value} {ps : List (Int × Int)} (h : PairsIn nx ys ps) : ∀ (i : Nat) (v : Value), ys[i]? = some v → ∃ (r : Addr) (t1 t2 : Tok) (n : Nat) (p : Int × Int), ps[i]? = some p ∧ v = .ref r ∧ (r, ({ cls := .type "tuple", data := .seq #[.int p.1 t1, .int p.2 t2] n } : Obj)) ∈ nx := by
  induction h with
  | nil => intro i v e; simp at e
  | cons hm _ ih =>
    intro i v e
    cases i with
    | zero => simp at e; subst e; exact ⟨_, _, _, _, _, rfl, rfl, hm⟩
    | succ i => simpa using ih i v (by simpa using e)
theorem flt_yes {α : Type} (p : Nat → Prop) [DecidablePred p] (f : Nat → α) (n : Nat) (h : p n) : ((List.range (n + 1)).filter fun x => p x).map f = ((List.range n).filter fun x => p x).map f ++ [f n] := by
  rw [List.range_succ, List.filter_append, List.map_append]; simp [h]
theorem flt_no {α : Type} (p : Nat → Prop) [DecidablePred p] (f : Nat → α) (n : Nat) (h : ¬ p n) : ((List.range (n + 1)).filter fun x => p x).map f = ((List.range n).filter fun x => p x).map f := by
  rw [List.range_succ, List.filter_append, List.map_append]; simp [h]
theorem roomsRow_len (rss : List (List Int)) (ps : List (Int × Int)) (a : Nat) : ∀ b, (roomsRow rss ps a b).length ≤ ps.length + b
  | 0 => Nat.le_refl _
  | b + 1 => by
    have := roomsRow_len rss ps a b
    rw [roomsRow_succ, roomsStep]
    split
    · rw [List.length_append, List.length_singleton]; omega
    · omega
theorem roomsAll_len (rss : List (List Int)) : ∀ n, n ≤ 5 → (roomsAll rss n).length ≤ 5 * n
  | 0, _ => Nat.le_refl _
  | n + 1, h => by
    have h1 := roomsAll_len rss n (by omega)
    have h2 := roomsRow_len rss (roomsAll rss n) n n
    rw [roomsAll_succ]; omega
theorem allLt_mem {d : Addr} {l : List (Addr × Obj)} (h : AllLt d l) : ∀ p ∈ l, p.1 < d := by
  induction l with
  | nil => intro p hp; cases hp
  | cons q r ih =>
    intro p hp
    rcases List.mem_cons.mp hp with rfl | hp
    · exact h.1
    · exact ih h.2 p hp
theorem take_yes {α β : Type} (p : α → Prop) [DecidablePred p] (f : α → β) (l : List α) (n : Nat) (a : α) (e : l[n]? = some a) (h : p a) : ((l.take (n + 1)).filter fun x => p x).map f = ((l.take n).filter fun x => p x).map f ++ [f a] := by
  rw [List.take_add_one, e, List.filter_append, List.map_append]; simp [h]
theorem take_no {α β : Type} (p : α → Prop) [DecidablePred p] (f : α → β) (l : List α) (n : Nat) (a : α) (e : l[n]? = some a) (h : ¬ p a) : ((l.take (n + 1)).filter fun x => p x).map f = ((l.take n).filter fun x => p x).map f := by
  rw [List.take_add_one, e, List.filter_append, List.map_append]; simp [h]
local macro_rules | `(tactic| walk_at "subscriptTail Name Name ref int") => `(tactic| (k_here; first
  | (refine' subB ?k1 ?k2 ?k3 ?k4 ?k5 ?_ ?k6; (case k1 => k_asm); (case k2 => assumption); (case k5 => assumption); (case k3 => omega); (case k4 => omega); (case k6 => with_unfolding_all rfl); k_whole)
  | (refine' subBI ?k1 ?k2 ?k3 ?k4 ?k5 ?k6 ?_ ?k7; (case k1 => k_asm); (case k2 => assumption); (case k3 => assumption); (case k4 => omega); (case k5 => omega); (case k6 => omega); (case k7 => with_unfolding_all rfl); k_whole; intro _)))
local macro_rules | `(tactic| walk_at "subscriptTail Subscript Name ref int") => `(tactic| (k_here; first
  | (refine' subB ?k1 ?k2 ?k3 ?k4 ?k5 ?_ ?k6; (case k1 => k_asm); (case k2 => assumption); (case k5 => assumption); (case k3 => omega); (case k4 => omega); (case k6 => with_unfolding_all rfl); k_whole)
  | (refine' subBI ?k1 ?k2 ?k3 ?k4 ?k5 ?k6 ?_ ?k7; (case k1 => k_asm); (case k2 => assumption); (case k3 => assumption); (case k4 => omega); (case k5 => omega); (case k6 => omega); (case k7 => with_unfolding_all rfl); k_whole; intro _)))
local macro_rules | `(tactic| walk_at "call builtin:sum") => `(tactic| (k_here; refine' sumL ?k1 ?k2 ?k3 ?k4 ?k5 ?_; (case k1 => rfl); (case k2 => k_asm); (case k3 => k_asm); (case k4 => k_mem); (case k5 => assumption); k_whole; intro h' tk' t' F' N'))
local macro_rules | `(tactic| walk_at "call builtin:list.append") => `(tactic| (k_here; (with_reducible show wpAny _ _ (call (Value.builtin _) [Value.ref _, _]) _ _ _); refine' append_K ?k1 ?k2 ?k3 ?_ ?z; (case k1 => k_asm); (case k2 => k_asm); (case k3 => k_upd); (case z => assumption); k_whole; intro h' F' N'; (try k_sweep)))
local macro_rules | `(tactic| walk_at "compareOp Eq ref ref") => `(tactic| refine Stop.out ?_)
local macro_rules | `(tactic| walk_at "subscriptTail Name Name ref int") => `(tactic| (k_here; (refine' subV ?k1 ?k2 ?k3 ?k4 ?k5 ?_ ?k6; (case k1 => k_asm); (case k2 => kst_facts); (case k5 => assumption); (case k3 => omega); (case k4 => omega); (case k6 => with_unfolding_all rfl); k_whole)))
local macro_rules | `(tactic| walk_at "subscriptTail Name BinOp ref int") => `(tactic| refine Stop.out ?_)
theorem lenV {prog : Program} {w : World} {A : Around} {E : Value → Shared → Prop} {s : Shared} {h₀ : Heap} {L : Addr} {news : List (Addr × Obj)} {l : Addr} {vs : List Value} {Q : Value → Shared → Prop} (N : News h₀ L s.heap news) (hm : (l, lst vs) ∈ news) (hz : vs.length ≤ 1000000)
    (h : ∀ t tk, Q (.int vs.length t) { s with toks := tk }) : wpAny (model prog w) A (call (.builtin "len") [.ref l]) Q E s :=
  len_list (items := vs.toArray) ⟨_, (N _ hm).1, rfl, _, rfl⟩ (by rw [List.size_toArray]; omega) (by rw [List.size_toArray]; exact h _ _)
local macro_rules | `(tactic| walk_at "call builtin:len cons nil") => `(tactic| (k_here; refine' lenV ?k1 ?k2 ?k3 ?_; (case k1 => k_asm); (case k2 => kst_facts); (case k3 => omega); k_whole; intro _ _))
theorem flt_len_yes (p : Nat → Prop) [DecidablePred p] (n : Nat) (h : p n) : ((List.range (n + 1)).filter fun x => p x).length = ((List.range n).filter fun x => p x).length + 1 := by
  rw [List.range_succ, List.filter_append, List.length_append]; simp [h]
theorem flt_len_no (p : Nat → Prop) [DecidablePred p] (n : Nat) (h : ¬ p n) : ((List.range (n + 1)).filter fun x => p x).length = ((List.range n).filter fun x => p x).length := by
  rw [List.range_succ, List.filter_append, List.length_append]; simp [h]
structure CtS where
  ys : List Value
  n : Nat
  ps : List (Int × Int)
  tp : List (Addr × Obj)
  oa : Obj
  ob : Obj
theorem count_ctr {w : World} {mean : ExcName → Option Value} {mg mb : Str → Option Value} (a : Addr) (rss : List (List Int)) (hF : Far rss) :
    Ctr w mean mg mb 24 317 [.ref a] [] [] (fun g => RowsAt g a rss) (fun _ _ v => ∃ t, v = .int (countF rss) t) := by
  refine ctr_of ?_
  intro dp un gd fr base s Q E B X T hd hu hp ret
  obtain ⟨fs, hl, hlen, hrows⟩ := hp
  have hf5 : fs.length = 5 := by rw [hlen]; exact hF.1
  have rowf : ∀ i, i < 5 → ∃ (r : Addr) (vs : List Value), fs[i]? = some (Value.ref r) ∧ s.heap.IsList r vs.toArray ∧ IntsAre vs (rss.getD i []) ∧ (rss.getD i []).length = 5 := by
    intro i hi
    have hlt : i < rss.length := by rw [hF.1]; exact hi
    have e : rss[i]? = some rss[i] := List.getElem?_eq_getElem hlt
    obtain ⟨r, vs, h1, h2, h3⟩ := hrows i _ e
    have e2 : rss.getD i [] = rss[i] := by rw [List.getD_eq_getElem?_getD, e]; rfl
    rw [e2]
    exact ⟨r, vs, h1, h2, h3, (hF.2 _ (List.getElem_mem hlt)).1⟩
  k_dflt cell_enter
  k_steps
  rename Fr _ _ _ _ => F
  rename News _ _ _ _ => N
  rename_i ow ob oa _ ofar dw db da _ df _ _ _ D _ hD _ orr _ _ dr _ _ _ _ _ _ hr _
  replace dw : ow.data = .cell none := dw
  replace db : ob.data = .cell none := db
  replace da : oa.data = .cell none := da
  replace df : ofar.data = .cell (some (.ref a)) := df
  unfold Stop
  refine' lf_range (σ := CtS) (fun _ => []) (fun c => (D, listOf c.ys.toArray c.n) :: (L + 1 + 1 + 1 + 1 + 1, ow) :: (L + 1 + 1 + 1 + 1, c.ob) :: (L + 1 + 1 + 1, c.oa) :: (L + 1 + 1, orr) :: (L + 1, ofar) :: c.tp)
    (fun i c => PairsIn c.tp c.ys c.ps ∧ c.ps = roomsAll rss i ∧ (∃ v, c.oa.data = .cell v) ∧ (∃ v, c.ob.data = .cell v) ∧ OwnOff c.tp [D, L + 1 + 1 + 1 + 1 + 1, L + 1 + 1 + 1 + 1, L + 1 + 1 + 1, L + 1 + 1, L + 1]) ["room"] (CtS.mk [] _ [] [] oa ob) rfl hr ?hsm (n := 5) ?hsz F N ?hn ?hk ?hp ?turn ?done
  case hsm => decide
  case hsz => decide
  case hn => k_allIn
  case hk => ktr_unf
  case hp => exact ⟨.nil, rfl, ⟨_, da⟩, ⟨_, db⟩, fun _ h => nomatch h⟩
  case turn =>
    clear F N
    intro i v c u I oI h tk hi hv hP hoff hst F N
    obtain ⟨t, rfl⟩ := hv
    obtain ⟨p1, p2, ⟨va, p3⟩, ⟨vb, p4⟩, p5⟩ := hP
    refine let_name ?_
    change News s.heap _ h ((D, listOf c.ys.toArray c.n) :: (L + 1 + 1 + 1 + 1 + 1, ow) :: (L + 1 + 1 + 1 + 1, c.ob) :: (L + 1 + 1 + 1, c.oa) :: (L + 1 + 1, orr) :: (L + 1, ofar) :: (c.tp ++ [(I, oI)])) at N
    have ho : OwnOff (c.tp ++ [(I, oI)]) [D, L + 1 + 1 + 1 + 1 + 1, L + 1 + 1 + 1 + 1, L + 1 + 1 + 1, L + 1 + 1, L + 1] := by
      intro p hp b hb
      rcases List.mem_append.mp hp with hp | hp
      · exact p5 p hp b hb
      · exact hoff p hp b (show b ∈ [D, L + 1 + 1 + 1 + 1 + 1, L + 1 + 1 + 1 + 1, L + 1 + 1 + 1, L + 1 + 1, L + 1] ++ c.tp.map (·.1) from List.mem_append.mpr (.inl hb))
    have hIt : OwnOff c.tp [I] := fun p hp b hb => by
      rw [List.mem_singleton.mp hb]
      exact Ne.symm (hoff (I, oI) (List.mem_singleton.mpr rfl) p.1 (show p.1 ∈ [D, L + 1 + 1 + 1 + 1 + 1, L + 1 + 1 + 1 + 1, L + 1 + 1 + 1, L + 1 + 1, L + 1] ++ c.tp.map (·.1) from List.mem_append.mpr (.inr (List.mem_map_of_mem hp))))
    have hIa : OwnOff [(I, oI)] [D, L + 1 + 1 + 1 + 1 + 1, L + 1 + 1 + 1 + 1, L + 1 + 1 + 1, L + 1 + 1, L + 1] := fun p hp b hb => ho p (List.mem_append.mpr (.inr hp)) b hb
    obtain ⟨r, rvs, er, hlr, hir, hlen5⟩ := rowf i hi
    k_steps
    rename_i _ oa' _ _ da' _ _ _ _ _ _ hr2 F2 N2 _
    unfold Stop
    refine' lf_range (σ := CtS) (fun _ => []) (fun d => (D, listOf d.ys.toArray d.n) :: (L + 1 + 1 + 1 + 1 + 1, ow) :: (L + 1 + 1 + 1 + 1, d.ob) :: (L + 1 + 1 + 1, oa') :: (L + 1 + 1, orr) :: (L + 1, ofar) :: (d.tp ++ [(I, oI)]))
      (fun j d => PairsIn d.tp d.ys d.ps ∧ d.ps = roomsRow rss c.ps i j ∧ (∃ v, d.ob.data = .cell v) ∧ OwnOff d.tp [D, L + 1 + 1 + 1 + 1 + 1, L + 1 + 1 + 1 + 1, L + 1 + 1 + 1, L + 1 + 1, L + 1] ∧ OwnOff d.tp [I]) ["room"] c rfl hr2 ?hsm2 (n := i) ?hsz2 F2 N2 ?hn2 ?hk2 ?hp2 ?turn2 ?done2
    case hsm2 => exact small_of (by omega) (by omega) (by omega) (by omega)
    case hsz2 => rw [rangeSize_nat]; omega
    case hn2 => exact fun _ h => h
    case hk2 => ktr_unf
    case hp2 => exact ⟨p1, rfl, ⟨vb, p4⟩, p5, hIt⟩
    case turn2 =>
      clear F N F2 N2
      intro j v d u I2 oI2 h tk hj hv hP hoff2 hst2 F N
      obtain ⟨t2, rfl⟩ := hv
      obtain ⟨q1, q2, ⟨vb', q3⟩, q4, q5⟩ := hP
      refine let_name ?_
      change News s.heap _ h ((D, listOf d.ys.toArray d.n) :: (L + 1 + 1 + 1 + 1 + 1, ow) :: (L + 1 + 1 + 1 + 1, d.ob) :: (L + 1 + 1 + 1, oa') :: (L + 1 + 1, orr) :: (L + 1, ofar) :: (d.tp ++ [(I, oI)] ++ [(I2, oI2)])) at N
      have ho2 : OwnOff (d.tp ++ [(I, oI)] ++ [(I2, oI2)]) [D, L + 1 + 1 + 1 + 1 + 1, L + 1 + 1 + 1 + 1, L + 1 + 1 + 1, L + 1 + 1, L + 1] := by
        intro p hp b hb
        rcases List.mem_append.mp hp with hp | hp
        · rcases List.mem_append.mp hp with hp | hp
          · exact q4 p hp b hb
          · exact hIa p hp b hb
        · exact hoff2 p hp b (show b ∈ [D, L + 1 + 1 + 1 + 1 + 1, L + 1 + 1 + 1 + 1, L + 1 + 1 + 1, L + 1 + 1, L + 1] ++ (d.tp ++ [(I, oI)]).map (·.1) from List.mem_append.mpr (.inl hb))
      have hz : d.ys.toArray.size ≤ sizeLine := by
        have h1 := roomsAll_len rss i (by omega)
        have h2 := roomsRow_len rss c.ps i j
        rw [← p2] at h1
        rw [List.size_toArray, q1.length, q2]
        exact Nat.le_trans (by omega : _ ≤ 50) (by decide)
      have er' : fs[((0 : Int) + (i : Int)).toNat]? = some (Value.ref r) := by rw [show ((0 : Int) + (i : Int)).toNat = i by omega]; exact er
      k_steps
      · rename_i _ ob' F N db' _ _ _ t4 g1 g2 _
        unfold Stop
        refine' mc_eval F ?c1 ?c2 ?c3 ?c4 ?c5 ?c6
        case c1 => rfl
        case c2 => decide
        case c3 => rfl
        case c4 => decide
        case c6 => intro _; rfl
        case c5 =>
          k_steps
          rename Fr _ _ _ _ => F
          rename News _ _ _ _ => N
          unfold Stop
          refine' mc_range (fun n ys nx => nx = ((D, listOf d.ys.toArray d.n) :: (L + 1 + 1 + 1 + 1 + 1, ow) :: (L + 1 + 1 + 1 + 1, ob') :: (L + 1 + 1 + 1, oa') :: (L + 1 + 1, orr) :: (L + 1, ofar) :: (d.tp ++ [(I, oI)] ++ [(I2, oI2)])) ∧ IntsAre ys (((List.range n).filter fun x => fF rss i x + fF rss x j = fF rss i j).map fun x => (1 : Int) * 2 ^ x)) ((D, listOf d.ys.toArray d.n) :: (L + 1 + 1 + 1 + 1 + 1, ow) :: (L + 1 + 1 + 1 + 1, ob') :: (L + 1 + 1 + 1, oa') :: (L + 1 + 1, orr) :: (L + 1, ofar) :: (d.tp ++ [(I, oI)] ++ [(I2, oI2)])) rfl rfl rfl (by assumption) ?d1 (n := 5) ?d2 ?d3 F N ?d4 ?d5 ?d6 ?d7
          case d1 => decide
          case d2 => decide
          case d3 => decide
          case d4 => exact fun _ h => h
          case d6 => exact ⟨rfl, .nil⟩
          case d5 =>
            clear F N
            intro x v ys nx I3 oI3 C oC D3 m₂ h tk E' hx5 hv hJ hC hb F N off ne _
            obtain ⟨t3, rfl⟩ := hv
            obtain ⟨rfl, hys⟩ := hJ
            unfold BdN at hb
            obtain ⟨rx, xvs, ex, hlx, hix, hlenx⟩ := rowf x hx5
            have ex' : fs[((0 : Int) + (x : Int)).toNat]? = some (Value.ref rx) := by rw [show ((0 : Int) + (x : Int)).toNat = x by omega]; exact ex
            refine wpAny_tests_one ?_
            try k_fold
            k_steps
            all_goals
              have e1 : ((0 : Int) + (x : Int)).toNat = x := by omega
              have e2 : ((0 : Int) + (j : Int)).toNat = j := by omega
            · refine mend_same (h := h) F N off trivial ⟨rfl, ?_⟩
              simp only [e1, e2] at *
              rw [flt_yes _ _ _ (by assumption)]
              exact ksk_snoc hys
            · refine mend_same (h := h) F N off trivial ⟨rfl, ?_⟩
              simp only [e1, e2] at *
              rw [flt_no _ _ _ (by assumption)]
              exact hys
          case d7 =>
            intro g ys nx hl9 hJ
            obtain ⟨rfl, hys⟩ := hJ
            unfold MFinE
            intro D2 h tk F N o1
            have hdd : @Ne Nat D2 D := fun e => o1.1 e.symm
            k_steps
            rename_i D' _ hlt' _ F9 N9
            unfold Stop
            have e1 : ((0 : Int) + (i : Int)).toNat = i := by omega
            have e2 : ((0 : Int) + (j : Int)).toNat = j := by omega
            have ep : d.ys.toArray.push (Value.ref D') = (d.ys ++ [Value.ref D']).toArray := by simp
            simp only [e1, e2, ep] at N9 g1 g2
            refine' lf_end (CtS.mk (d.ys ++ [.ref D']) _ (d.ps ++ [(Builtin.bitOr (1 * 2 ^ i) (1 * 2 ^ j), roomOf rss i j)]) ((D', _) :: d.tp) oa' ob') F9 N9 ?hn3 ?ho3 ?hoff3 ?hk3 ?hr3 ?hp3
            case hn3 =>
              intro p hp
              rcases List.mem_cons.mp hp with rfl | hp
              · k_memK
              rcases List.mem_cons.mp hp with rfl | hp
              · k_memK
              rcases List.mem_cons.mp hp with rfl | hp
              · k_memK
              rcases List.mem_cons.mp hp with rfl | hp
              · k_memK
              rcases List.mem_cons.mp hp with rfl | hp
              · k_memK
              rcases List.mem_cons.mp hp with rfl | hp
              · k_memK
              rcases List.mem_cons.mp hp with rfl | hp
              · exact List.Mem.head _
              · exact List.Mem.tail _ (List.Mem.tail _ (List.Mem.tail _ (List.Mem.tail _ (List.Mem.tail _ (List.Mem.tail _ (List.Mem.tail _ (List.Mem.tail _ (List.mem_append.mpr (.inl hp)))))))))
            case ho3 => exact fun p hp => List.Mem.tail _ (List.Mem.tail _ (List.Mem.tail _ (List.Mem.tail _ (List.Mem.tail _ (List.Mem.tail _ (List.Mem.tail _ (List.Mem.tail _ (List.mem_append.mpr (.inr hp)))))))))
            case hk3 => ktr_unf
            case hoff3 =>
              intro p hp b hb
              rw [List.mem_singleton.mp hp]
              rcases List.mem_append.mp (show b ∈ [D, L + 1 + 1 + 1 + 1 + 1, L + 1 + 1 + 1 + 1, L + 1 + 1 + 1, L + 1 + 1, L + 1] ++ (D' :: (d.tp ++ [(I, oI)]).map (·.1)) from hb) with hb | hb
              · exact hoff2 _ (List.mem_singleton.mpr rfl) b (show b ∈ [D, L + 1 + 1 + 1 + 1 + 1, L + 1 + 1 + 1 + 1, L + 1 + 1 + 1, L + 1 + 1, L + 1] ++ (d.tp ++ [(I, oI)]).map (·.1) from List.mem_append.mpr (.inl hb))
              · rcases List.mem_cons.mp hb with rfl | hb
                · exact Nat.ne_of_lt (allLt_mem hlt'.2.2.2.2.2.2.2 (I2, oI2) (List.mem_append.mpr (.inr (List.mem_singleton.mpr rfl))))
                · exact hoff2 _ (List.mem_singleton.mpr rfl) b (show b ∈ [D, L + 1 + 1 + 1 + 1 + 1, L + 1 + 1 + 1 + 1, L + 1 + 1 + 1, L + 1 + 1, L + 1] ++ (d.tp ++ [(I, oI)]).map (·.1) from List.mem_append.mpr (.inr hb))
            case hr3 => ksw_less
            case hp3 =>
              refine ⟨(q1.mono fun p hp => List.Mem.tail _ hp).snoc (List.Mem.head _), ?_, ⟨_, db'⟩, fun p hp b hb => ?_, fun p hp b hb => ?_⟩
              · rw [roomsRow_succ, ← q2, roomsStep, if_pos ⟨g1, g2⟩]
              · rcases List.mem_cons.mp hp with rfl | hp
                · simp only [List.mem_cons, List.not_mem_nil, or_false] at hb
                  obtain ⟨_, h1, h2, h3, h4, h5, h6, _⟩ := hlt'
                  rcases hb with rfl | rfl | rfl | rfl | rfl | rfl
                  · exact Nat.ne_of_gt h1
                  · exact Nat.ne_of_gt h2
                  · exact Nat.ne_of_gt h3
                  · exact Nat.ne_of_gt h4
                  · exact Nat.ne_of_gt h5
                  · exact Nat.ne_of_gt h6
                · exact q4 p hp b hb
              · rcases List.mem_cons.mp hp with rfl | hp
                · rw [List.mem_singleton.mp hb]
                  exact Nat.ne_of_gt (allLt_mem hlt'.2.2.2.2.2.2.2 (I, oI) (List.mem_append.mpr (.inl (List.mem_append.mpr (.inr (List.mem_singleton.mpr rfl))))))
                · exact q5 p hp b hb
      · rename_i _ ob' F N db' _ t4 g1 g2
        unfold Stop
        have e2 : ((0 : Int) + (j : Int)).toNat = j := by omega
        simp only [e2] at g1 g2
        refine' lf_end (CtS.mk d.ys d.n d.ps d.tp oa' ob') F N ?hn3 ?ho3 ?hoff3 ?hk3 ?hr3 ?hp3
        case hn3 => exact fun p hp => List.mem_append.mpr (.inl hp : p ∈ (_ :: _ :: _ :: _ :: _ :: _ :: (d.tp ++ [(I, oI)])) ∨ p ∈ [(I2, oI2)])
        case ho3 => exact fun p hp => List.Mem.tail _ (List.Mem.tail _ (List.Mem.tail _ (List.Mem.tail _ (List.Mem.tail _ (List.Mem.tail _ (List.mem_append.mpr (.inr hp)))))))
        case hk3 => ktr_unf
        case hoff3 => exact hoff2
        case hr3 => ksw_less
        case hp3 => exact ⟨q1, by rw [roomsRow_succ, ← q2, roomsStep, if_neg (fun h => g2 h.2)], ⟨_, db'⟩, q4, q5⟩
      · rename_i _ ob' F N db' _ t4 g1
        unfold Stop
        have e2 : ((0 : Int) + (j : Int)).toNat = j := by omega
        simp only [e2] at g1
        refine' lf_end (CtS.mk d.ys d.n d.ps d.tp oa' ob') F N ?hn3 ?ho3 ?hoff3 ?hk3 ?hr3 ?hp3
        case hn3 => exact fun p hp => List.mem_append.mpr (.inl hp : p ∈ (_ :: _ :: _ :: _ :: _ :: _ :: (d.tp ++ [(I, oI)])) ∨ p ∈ [(I2, oI2)])
        case ho3 => exact fun p hp => List.Mem.tail _ (List.Mem.tail _ (List.Mem.tail _ (List.Mem.tail _ (List.Mem.tail _ (List.Mem.tail _ (List.mem_append.mpr (.inr hp)))))))
        case hk3 => ktr_unf
        case hoff3 => exact hoff2
        case hr3 => ksw_less
        case hp3 => exact ⟨q1, by rw [roomsRow_succ, ← q2, roomsStep, if_neg (fun h => g1 h.1)], ⟨_, db'⟩, q4, q5⟩
    case done2 =>
      clear F N F2 N2
      intro d u h tk hP F N
      obtain ⟨q1, q2, ⟨vb', q3⟩, q4, q5⟩ := hP
      try k_fold
      k_steps
      unfold Stop
      refine' lf_end (CtS.mk d.ys d.n d.ps d.tp oa' d.ob) F N ?hn4 ?ho4 ?hoff4 ?hk4 ?hr4 ?hp4
      case hn4 => exact fun p hp => List.mem_append.mpr (.inl hp : p ∈ (_ :: _ :: _ :: _ :: _ :: _ :: d.tp) ∨ p ∈ [(I, oI)])
      case ho4 => exact fun p hp => List.Mem.tail _ (List.Mem.tail _ (List.Mem.tail _ (List.Mem.tail _ (List.Mem.tail _ (List.Mem.tail _ (List.mem_append.mpr (.inr hp)))))))
      case hk4 => ktr_unf
      case hoff4 =>
        intro p hp b hb
        rcases List.mem_append.mp (show b ∈ [D, L + 1 + 1 + 1 + 1 + 1, L + 1 + 1 + 1 + 1, L + 1 + 1 + 1, L + 1 + 1, L + 1] ++ d.tp.map (·.1) from hb) with hb | hb
        · exact hIa p hp b hb
        · obtain ⟨q, hq, rfl⟩ := List.mem_map.mp hb
          rw [List.mem_singleton.mp hp]
          exact Ne.symm (q5 q hq I (List.mem_singleton.mpr rfl))
      case hr4 => ksw_less
      case hp4 => exact ⟨q1, by rw [roomsAll_succ, ← p2]; exact q2, ⟨_, da'⟩, ⟨_, q3⟩, q4⟩
  case done =>
    clear F N
    intro c u h tk hP F N
    obtain ⟨p1, p2, ⟨va, p3⟩, ⟨vb, p4⟩, p5⟩ := hP
    try k_fold
    k_steps
    rename Fr _ _ _ _ => F
    rename News _ _ _ _ => N
    unfold Stop
    refine wpAny_Assign_Name ?_ (by with_unfolding_all rfl)
    refine' mc_evalC F ?c2 ?c3 ?c4 ?c5 ?c6 ?c7 ?c8 ?c9
    case c2 => rfl
    case c3 => intro n; rfl
    case c4 => intro h; rfl
    case c5 => intro C cc; rfl
    case c6 => rfl
    case c7 => decide
    case c9 => intro _; rfl
    case c8 =>
      k_steps
      rename Fr _ _ _ _ => F
      rename News _ _ _ _ => N
      unfold Stop
      refine' mc_rangeC (fun n ys nx => nx = ((D, listOf c.ys.toArray c.n) :: (L + 1 + 1 + 1 + 1 + 1, ow) :: (L + 1 + 1 + 1 + 1, c.ob) :: (L + 1 + 1 + 1, c.oa) :: (L + 1 + 1, orr) :: (L + 1, ofar) :: c.tp) ∧ ys = (List.range n).map fun s => Value.bool (wholeB c.ps s)) ((D, listOf c.ys.toArray c.n) :: (L + 1 + 1 + 1 + 1 + 1, ow) :: (L + 1 + 1 + 1 + 1, c.ob) :: (L + 1 + 1 + 1, c.oa) :: (L + 1 + 1, orr) :: (L + 1, ofar) :: c.tp) rfl (by assumption) ?d1 (n := 32) ?d2 ?d3 F N ?d4 ?d5 ?d6 ?d7
      case d1 => decide
      case d2 => decide
      case d3 => decide
      case d4 => exact fun _ h => h
      case d6 => exact ⟨rfl, rfl⟩
      case d5 =>
        clear F N
        intro x v ys nx I oI C oC D3 cc oc m₂ h tk E' hx hv hJ hC hoc F N off ne off1
        obtain ⟨t3, rfl⟩ := hv
        obtain ⟨rfl, hys⟩ := hJ
        refine wpAny_tests_nil ?_
        dsimp only
        rw [if_pos rfl]
        try k_fold
        k_steps
        unfold Stop
        refine' mc_eval F ?g1 ?g2 ?g3 ?g4 ?g5 ?g6
        case g1 => rfl
        case g2 => decide
        case g3 => rfl
        case g4 => decide
        case g6 => intro _; rfl
        case g5 =>
          k_steps
          unfold Stop
          have hz5 : c.ys.toArray.size ≤ sizeLine := by
            have h1 := roomsAll_len rss 5 (by omega)
            rw [← p2] at h1
            rw [List.size_toArray, p1.length]
            exact Nat.le_trans (by omega : _ ≤ 50) (by decide)
          refine' mc_list (Bd := BdP (Str.ofString "pair") (Str.ofString "room")) (its := c.ys.toArray) (fun nx => nx = ((I, oI) :: (C, oC) :: (D3, lst ys) :: (cc, oc) :: (D, listOf c.ys.toArray c.n) :: (L + 1 + 1 + 1 + 1 + 1, ow) :: (L + 1 + 1 + 1 + 1, c.ob) :: (L + 1 + 1 + 1, c.oa) :: (L + 1 + 1, orr) :: (L + 1, ofar) :: c.tp)) (fun n zs nx => nx = ((I, oI) :: (C, oC) :: (D3, lst ys) :: (cc, oc) :: (D, listOf c.ys.toArray c.n) :: (L + 1 + 1 + 1 + 1 + 1, ow) :: (L + 1 + 1 + 1 + 1, c.ob) :: (L + 1 + 1 + 1, c.oa) :: (L + 1 + 1, orr) :: (L + 1, ofar) :: c.tp) ∧ IntsAre zs (((c.ps.take n).filter fun p => Builtin.bitAnd x p.1 = p.1 ∧ Builtin.bitAnd x p.2 ≠ p.2).map (·.2))) ((I, oI) :: (C, oC) :: (D3, lst ys) :: (cc, oc) :: (D, listOf c.ys.toArray c.n) :: (L + 1 + 1 + 1 + 1 + 1, ow) :: (L + 1 + 1 + 1 + 1, c.ob) :: (L + 1 + 1 + 1, c.oa) :: (L + 1 + 1, orr) :: (L + 1, ofar) :: c.tp) rfl ?e1 hz5 F N ?e3 rfl ?e4 ?e5 ⟨rfl, .nil⟩ ?e6
          case e1 => exact .inr ⟨_, List.Mem.tail _ (List.Mem.tail _ (List.Mem.tail _ (List.Mem.tail _ (List.Mem.head _)))), rfl, _, rfl⟩
          case e3 => exact fun _ h => h
          case e4 =>
            intro I9
            refine mbind_pair rfl rfl rfl rfl (by decide) ?_
            rintro i v nx hv ⟨_, rfl⟩
            obtain ⟨r, t1, t2, n, p, _, rfl, hm⟩ := p1.get i v (by simpa using hv)
            exact ⟨r, _, _, n, rfl, by kst_facts⟩
          case e5 =>
            clear F N
            intro i v zs nx I4 oI4 C4 oC4 D4 m₃ h tk E4 hi4 hv4 hJ4 hC4 hb4 F N off4 ne4 hS4
            obtain ⟨rfl, hzs⟩ := hJ4
            obtain ⟨r, t1, t2, n, p, hp, rfl, hm⟩ := p1.get i v (by simpa using hv4)
            obtain ⟨r', ot, v1, v2, nt, er, hm1, rfl, b1, b2⟩ := hb4
            cases er
            have o1 := (N _ (List.Mem.tail _ (List.Mem.tail _ (List.Mem.tail _ hm1)))).1
            have o2 := (N (r, { cls := .type "tuple", data := .seq #[.int p.1 t1, .int p.2 t2] n }) (by kst_facts)).1
            rw [o2] at o1
            simp only [Option.some.injEq, Obj.mk.injEq, Data.seq.injEq, Array.mk.injEq, List.cons.injEq, true_and, and_true] at o1
            obtain ⟨⟨rfl, rfl⟩, rfl⟩ := o1
            refine wpAny_tests_one ?_
            try k_fold
            k_steps
            all_goals
              have hp' : c.ps[i]? = some p := hp
              have ex : (0 : Int) + (x : Int) = (x : Int) := by omega
              simp only [ex] at *
            · refine mend_same (h := h) F N off4 ⟨.inr ⟨_, List.Mem.tail _ (List.Mem.tail _ (List.Mem.tail _ (List.Mem.tail _ (List.Mem.head _)))), rfl, _, rfl⟩, rfl⟩ ⟨rfl, ?_⟩
              rw [take_yes _ _ _ _ _ hp' ⟨by assumption, by assumption⟩]
              exact ksk_snoc hzs
            · refine mend_same (h := h) F N off4 ⟨.inr ⟨_, List.Mem.tail _ (List.Mem.tail _ (List.Mem.tail _ (List.Mem.tail _ (List.Mem.head _)))), rfl, _, rfl⟩, rfl⟩ ⟨rfl, ?_⟩
              rw [take_no _ _ _ _ _ hp' (fun q => absurd (by assumption) q.2)]
              exact hzs
            · refine mend_same (h := h) F N off4 ⟨.inr ⟨_, List.Mem.tail _ (List.Mem.tail _ (List.Mem.tail _ (List.Mem.tail _ (List.Mem.head _)))), rfl, _, rfl⟩, rfl⟩ ⟨rfl, ?_⟩
              rw [take_no _ _ _ _ _ hp' (fun q => absurd q.1 (by assumption))]
              exact hzs
          case e6 =>
            intro g zs nx hz hJ
            obtain ⟨rfl, hzs⟩ := hJ
            rw [List.take_of_length_le (by rw [List.size_toArray, p1.length]; exact Nat.le_refl _)] at hzs
            unfold MFinE
            intro D5 h tk F N o5
            k_steps
            rename Fr _ _ _ _ => F9
            rename News _ _ _ _ => N9
            unfold Stop
            refine eq_intsK (vs := zs) (us := []) ⟨_, (N9 _ (List.Mem.tail _ (List.Mem.head _))).1, rfl, _, rfl⟩ hzs ⟨_, (N9 _ (List.Mem.head _)).1, rfl, _, rfl⟩ .nil ?u ?_
            case u => show un + 3 + 64 < cLine; omega
            refine MEnd.intro _ F9 N9 (fun p hp => List.Mem.tail _ (List.Mem.tail _ hp)) off trivial ⟨_, rfl, off1, rfl, ?_⟩
            rw [hys, List.range_succ, List.map_append]
            rfl
      case d7 =>
        intro g ys nx hl9 hJ
        obtain ⟨rfl, hys⟩ := hJ
        unfold MFinE
        intro D2 h tk F N o1
        have hd1 : @Ne Nat D2 (L + 1 + 1 + 1 + 1 + 1) := fun e => o1.2.1 e.symm
        k_steps
        rename Fr _ _ _ _ => F
        rename News _ _ _ _ => N
        rename_i z1 z2 z3 z4 z5
        unfold Stop
        refine' mc_evalC F ?q2 ?q3 ?q4 ?q5 ?q6 ?q7 ?q8 ?q9
        case q2 => rfl
        case q3 => intro n; rfl
        case q4 => intro h; rfl
        case q5 => intro C cc; rfl
        case q6 => rfl
        case q7 => decide
        case q9 => intro _; rfl
        case q8 =>
          k_steps
          rename Fr _ _ _ _ => F
          rename News _ _ _ _ => N
          unfold Stop
          have hyv : ∀ i : Nat, i < 32 → ys[i]? = some (Value.bool (wholeB c.ps i)) := fun i hi => by rw [hys]; simp [hi]
          refine' mc_rangeC (fun n zs nx => nx = ((D2, lst ys) :: (D, listOf c.ys.toArray c.n) :: (L + 1 + 1 + 1 + 1 + 1, z3) :: (L + 1 + 1 + 1 + 1, c.ob) :: (L + 1 + 1 + 1, c.oa) :: (L + 1 + 1, orr) :: (L + 1, ofar) :: c.tp) ∧ IntsAre zs (((List.range n).filter fun s => wholeB c.ps s = true).map fun s => (2 : Int) ^ lessF c.ps s)) ((D2, lst ys) :: (D, listOf c.ys.toArray c.n) :: (L + 1 + 1 + 1 + 1 + 1, z3) :: (L + 1 + 1 + 1 + 1, c.ob) :: (L + 1 + 1 + 1, c.oa) :: (L + 1 + 1, orr) :: (L + 1, ofar) :: c.tp) rfl (by assumption) ?r1 (n := 32) ?r2 ?r3 F N ?r4 ?r5 ⟨rfl, .nil⟩ ?r7
          case r1 => decide
          case r2 => decide
          case r3 => decide
          case r4 => exact fun _ h => h
          case r5 =>
            clear F N
            intro x v zs nx I6 oI6 C6 oC6 D6 cc6 oc6 m₆ h tk E' hx hv hJ hC6 hoc6 F N off6 ne6 off16
            obtain ⟨t3, rfl⟩ := hv
            obtain ⟨rfl, hzs⟩ := hJ
            have ex0 : ((0 : Int) + (x : Int)).toNat = x := by omega
            have hyx : ys[((0 : Int) + (x : Int)).toNat]? = some (Value.bool (wholeB c.ps x)) := by rw [ex0]; exact hyv x hx
            refine wpAny_tests_one ?_
            try k_fold
            k_steps
            · rename wholeB c.ps x = true => hw
              unfold Stop
              refine' mc_eval F ?m1 ?m2 ?m3 ?m4 ?m5 ?m6
              case m1 => rfl
              case m2 => decide
              case m3 => rfl
              case m4 => decide
              case m6 => intro _; rfl
              case m5 =>
                k_steps
                rename Fr _ _ _ _ => F
                rename News _ _ _ _ => N
                unfold Stop
                refine' mc_range (fun n us nx => nx = ((I6, oI6) :: (C6, oC6) :: (D6, lst zs) :: (cc6, oc6) :: ((D2, lst ys) :: (D, listOf c.ys.toArray c.n) :: (L + 1 + 1 + 1 + 1 + 1, z3) :: (L + 1 + 1 + 1 + 1, c.ob) :: (L + 1 + 1 + 1, c.oa) :: (L + 1 + 1, orr) :: (L + 1, ofar) :: c.tp)) ∧ us.length = ((List.range n).filter fun y => lessC c.ps x y).length) ((I6, oI6) :: (C6, oC6) :: (D6, lst zs) :: (cc6, oc6) :: ((D2, lst ys) :: (D, listOf c.ys.toArray c.n) :: (L + 1 + 1 + 1 + 1 + 1, z3) :: (L + 1 + 1 + 1 + 1, c.ob) :: (L + 1 + 1 + 1, c.oa) :: (L + 1 + 1, orr) :: (L + 1, ofar) :: c.tp)) rfl rfl rfl (by assumption) ?n1 (n := 5) ?n2 ?n3 F N ?n4 ?n5 ⟨rfl, rfl⟩ ?n7
                case n1 => decide
                case n2 => decide
                case n3 => decide
                case n4 => exact fun _ h => h
                case n5 =>
                  clear F N
                  intro y v us nx I8 oI8 C8 oC8 D8 m₈ h tk E' hy hv hJ hC8 hb F N off8 ne8 _
                  obtain ⟨t8, rfl⟩ := hv
                  obtain ⟨rfl, hus⟩ := hJ
                  unfold BdN at hb
                  refine wpAny_tests_one ?_
                  try k_fold
                  k_steps
                  · have hbit : Builtin.bitAnd (((0 : Int) + (x : Int)).fdiv (2 ^ ((0 : Int) + (y : Int)).toNat)) 1 ≠ 0 := by assumption
                    have ex : (0 : Int) + (x : Int) = (x : Int) := Int.zero_add _
                    have ey : ((0 : Int) + (y : Int)).toNat = y := by omega
                    rw [ex, ey] at hbit
                    unfold Stop
                    rw [ex, ey]
                    obtain ⟨k0, k1⟩ := sub_bit ⟨x, hx⟩ ⟨y, hy⟩ hbit
                    dsimp only at k0 k1
                    refine subV N (by kst_facts) k0 (by omega) (hyv _ (by omega)) ?_
                    k_steps
                    · refine MEnd.intro _ F N (fun _ h => h) off8 trivial ⟨rfl, ?_⟩
                      rename wholeB c.ps _ = true => hw8
                      rw [hus, flt_len_no _ _ (fun q => by have := q.2; rw [hw8] at this; cases this)]
                    · refine MEnd.intro _ F N (fun _ h => h) off8 trivial ⟨rfl, ?_⟩
                      rw [List.length_append, hus, flt_len_yes _ _ ⟨hbit, by assumption⟩]
                      rfl
                  · have hbit : Builtin.bitAnd (((0 : Int) + (x : Int)).fdiv (2 ^ ((0 : Int) + (y : Int)).toNat)) 1 = 0 := by assumption
                    have ex : (0 : Int) + (x : Int) = (x : Int) := Int.zero_add _
                    have ey : ((0 : Int) + (y : Int)).toNat = y := by omega
                    rw [ex, ey] at hbit
                    refine MEnd.intro _ F N (fun _ h => h) off8 trivial ⟨rfl, ?_⟩
                    rw [hus, flt_len_no _ _ (fun q => q.1 hbit)]
                case n7 =>
                  intro g us nx hl8 hJ
                  obtain ⟨rfl, hus⟩ := hJ
                  unfold MFinE
                  intro D9 h tk F N o9
                  k_steps
                  refine MEnd.intro _ F N (fun p hp => List.Mem.tail _ hp) off6 trivial ⟨_, rfl, off16, rfl, ?_⟩
                  rw [flt_yes _ _ _ hw]
                  have e9 : ((us.length : Int)).toNat = lessF c.ps x := by rw [hus]; rfl
                  rw [← e9]
                  exact ksk_snoc hzs
            · rename wholeB c.ps x = false => hw
              refine mend_same (h := h) F N off6 trivial ⟨_, rfl, off16, rfl, ?_⟩
              rw [flt_no _ _ _ (by rw [hw]; decide)]
              exact hzs
          case r7 =>
            intro g zs nx hl9 hJ
            obtain ⟨rfl, hzs⟩ := hJ
            unfold MFinE
            intro D7 h tk F N o7
            k_steps
            refine ret _ _ _ (Fr.keep (by assumption)) ⟨_, by rw [countF, ← p2]⟩
end
section
section
open PySem.Builtin PySem.Builtin.Re
noncomputable def codeN : Array Nat := #[14, 10, 4, 1, 1, 22, 0, 31, 16, 127, 0, 13, 7, 22, 0, 31, 16, 127, 0, 1]
noncomputable def codeV : Array Nat := #[14, 14, 4, 1, 1, 9, 4294966783, 0, 0, 2147483648, 0, 0, 0, 0, 0, 13, 11, 9, 4294966783, 0, 0, 2147483648, 0, 0, 0, 0, 0, 1]
/-- no sign of a plain text is in the set -/
noncomputable def Shy (code : Array Nat) : Prop := ∀ c : Nat, 32 ≤ c → c < 127 → ∀ seen : Sre.Seen, ∃ seen', Sre.inSet code c code.size 5 true seen = .ok (false, seen')
theorem shyN : Shy codeN := by
  intro c h1 h2 seen
  have s1 : Sre.inSet codeN c codeN.size 5 true seen = if (decide (0 ≤ c) && decide (c ≤ 31)) = true then .ok (true, seen.add 22) else Sre.inSet codeN c 19 8 true (seen.add 22) := rfl
  have s2 : Sre.inSet codeN c 19 8 true (seen.add 22) = if (c == 127) = true then .ok (true, (seen.add 22).add 16) else Sre.inSet codeN c 18 10 true ((seen.add 22).add 16) := rfl
  rw [s1, if_neg (by simp; omega), s2, if_neg (by simp; omega)]
  exact ⟨_, rfl⟩
theorem shyV : Shy codeV := by
  have key : ∀ c : Fin 95, ((codeV.getD (5 + (1 + (c.val + 32) / 32)) 0).testBit ((c.val + 32) % 32)) = false := by decide +kernel
  intro c h1 h2 seen
  have k := key ⟨c - 32, by omega⟩
  simp only [show c - 32 + 32 = c by omega] at k
  have s1 : Sre.inSet codeV c codeV.size 5 true seen = if (decide (c < 256) && (codeV.getD (5 + (1 + c / 32)) 0).testBit (c % 32)) = true then .ok (true, seen.add 9) else Sre.inSet codeV c 27 14 true (seen.add 9) := rfl
  rw [s1, k, Bool.and_false, if_neg Bool.false_ne_true]
  exact ⟨_, rfl⟩
theorem admitted_none {m : Sre.M} (hs : Shy m.code) : ∀ (fuel s : Nat) (sn : Sre.Seen), (∀ i, s ≤ i → i < m.lim → 32 ≤ m.text.getD i 0 ∧ m.text.getD i 0 < 127) → ∃ sn', m.admitted fuel s sn = .ok (none, sn')
  | 0, s, sn, _ => ⟨sn, rfl⟩
  | fuel + 1, s, sn, h => by
    unfold Sre.M.admitted
    by_cases hl : s ≥ m.lim
    · exact ⟨sn, by rw [if_pos hl]⟩
    · obtain ⟨a, b⟩ := h s (Nat.le_refl _) (by omega)
      obtain ⟨sn', e⟩ := hs _ a b sn
      rw [if_neg hl, e]
      exact admitted_none hs fuel (s + 1) sn' fun i h1 h2 => h i (by omega) h2
noncomputable def Plain (v : Str) : Prop := ∀ c ∈ v.cps.toList, 32 ≤ c ∧ c < 127
theorem plain_at {v : Str} (h : Plain v) (i : Nat) (hi : i < v.cps.size) : 32 ≤ v.cps.getD i 0 ∧ v.cps.getD i 0 < 127 := by
  have e : v.cps.getD i 0 = v.cps[i] := by simp [Array.getD, hi]
  rw [e]
  exact h _ (by simp)
theorem admitted_is {m : Sre.M} {fuel s : Nat} {sn : Sre.Seen} {r : Except String (Option Nat × Sre.Seen)} (e : m.admitted fuel s sn = r) (hs : Shy m.code) (h : ∀ i, s ≤ i → i < m.lim → 32 ≤ m.text.getD i 0 ∧ m.text.getD i 0 < 127) : ∃ sn', r = .ok (none, sn') := by
  obtain ⟨sn', q⟩ := admitted_none hs fuel s sn h
  exact ⟨sn', e.symm.trans q⟩
/-- the search says no in at most two turns -/
theorem search_says {code : Array Nat} {v : Str} (hc : code = codeN ∨ code = codeV) (hv : Plain v) : ∃ m : Sre.M, Sre.forSearch code v.cps 0 0 v.cps.size false = m.say false ∧ m.outcome = none ∧ m.frames = [] := by
  have hs : Shy code := by
    rcases hc with rfl | rfl
    · exact shyN
    · exact shyV
  have h1 : (Sre.header code).1 = 1 := by rcases hc with rfl | rfl <;> rfl
  unfold Sre.forSearch
  dsimp only
  rw [h1]
  by_cases hz : v.cps.size = 0
  · rw [if_pos (by simp [hz])]
    exact ⟨_, rfl, rfl, rfl⟩
  · rw [if_neg (by rw [Bool.or_eq_true]; rintro (q | q) <;> (have := of_decide_eq_true q; omega))]
    unfold Sre.M.attemptFrom
    rw [if_neg (by rcases hc with rfl | rfl <;> exact fun q => Bool.noConfusion (q : false = true))]
    split
    · rename_i e
      obtain ⟨_, q⟩ := admitted_is e hs fun i _ hi => plain_at hv i hi
      cases q
    · exact ⟨_, rfl, rfl, rfl⟩
    · rename_i e
      obtain ⟨_, q⟩ := admitted_is e hs fun i _ hi => plain_at hv i hi
      cases q
theorem names_loop {M : Model} {A : Around} {E : Value → Shared → Prop} {s : Shared} {f : Nat → Bool} {g : Nat → String} {Q : PUnit → Shared → Prop} (h : Q ⟨⟩ s) : ∀ l : List Nat, wpAny M A (forIn l PUnit.unit fun i r => if f i = true then do rule (g i); pure (ForInStep.yield PUnit.unit) else pure (ForInStep.yield PUnit.unit)) Q E s
  | [] => by rw [List.forIn_nil]; exact wpAny_pure h
  | a :: l => by
    rw [List.forIn_cons]
    refine wpAny_bind ?_
    cases f a
    · exact wpAny_pure (names_loop h l)
    · exact wpAny_bind (wpAny_rule (wpAny_pure (names_loop h l)))
theorem runs_out {M : Model} {A : Around} {E : Value → Shared → Prop} {s : Shared} {m : Sre.M} {Q : Option Sre.M → Shared → Prop} (ho : m.outcome = none) (hf : m.frames = []) (h : Q none s) : wpAny M A (reRunToEnd (m.say false)) Q E s := by
  have e : (m.say false).runFor reTurnSteps = { m.say false with outcome := some .failed } := by
    obtain ⟨code, text, lim, start, ls, wt, ma, pc, pos, handed, om, marks, lm, li, loops, inner, frames, weight, answer, seen, outcome⟩ := m
    subst ho hf
    rfl
  unfold reRunToEnd
  refine wpAny_bind ?_
  show wpAny M A (reDrive (18446744073709551615 + 1) (m.say false)) _ E s
  unfold reDrive
  dsimp only
  rw [e]
  refine wpAny_pure ?_
  refine wpAny_bind ?_
  exact names_loop (wpAny_pure h) _
theorem slot_re_search : Slot "re.Pattern" (Str.ofString "search") "re.Pattern.search" :=
  .of (owner := "re.Pattern") (n := "search") (by rw [typeLookup_type, builtinLookup_eq_fast]; kernel_rfl) (by decide +kernel) (by decide +kernel) (by decide +kernel)
    (by first | exact .inl (by decide +kernel) | exact .inr (by decide +kernel)) (by rw [isSubtype_type]; kernel_rfl)
theorem plain_re : PlainAttrs "re.Pattern" :=
  ⟨⟨"object.__getattribute__", by rw [typeLookup_type, builtinLookup_eq_fast]; kernel_rfl, by decide +kernel⟩, by rw [typeLookup_type, builtinLookup_eq_fast]; kernel_rfl⟩
theorem type_re_search : typeOf (.builtin "re.Pattern.search") = pure (.type "method_descriptor") := by show builtinType _ = _; rw [builtinType_eq_fast]; kernel_rfl
theorem entry_re_search : entryFor table "re.Pattern.search" = some Builtin.«re.Pattern.search» := entryFor_of_tree (by kernel_rfl)
theorem args_re_search (a b : Value) : argsOk "re.Pattern.search" ⟨[a, b], []⟩ := by
  unfold argsOk; rw [signature?_of (id := "re.Pattern.search") (n := ['h', 'c', 'r', 'a', 'e', 's']) (o := ['n', 'r', 'e', 't', 't', 'a', 'P', '.', 'e', 'r']) (rows := Manifest.sig_re_Pattern) (by kernel_rfl) (by kernel_rfl)]; kernel_rfl
theorem named_search (v : Value) : reNamed "re.Pattern.search" "search" ["string", "pos", "endpos"] 1 [v] [] = pure [some v, none, none] := by kernel_rfl
theorem re_search {prog : Program} {w : World} {A : Around} {E : Value → Shared → Prop} {s : Shared} {r tp : Addr} {o ot : Obj} {vs cs : Array Value} {n : Nat} {v : Str} {t : Tok} {Q : Value → Shared → Prop} (ho : s.heap.get? r = some o) (hc : o.cls = .type "re.Pattern") (hd : o.data = .fields vs) (h5 : vs.getD 5 .none = .ref tp) (h6 : vs.getD 6 .none = .int 0 0)
    (h2 : vs.getD 2 .none = .int 0 0) (ht : s.heap.get? tp = some ot) (htd : ot.data = .seq cs n) (hcode : (cs.map reRawOf).map (·.toNat) = codeN ∨ (cs.map reRawOf).map (·.toNat) = codeV) (hv : Plain v) (hsz : (v.cps.size : Int) < 2 ^ 63 - 1) (h : Q .none s) :
    wpAny (model prog w) A (call (.builtin "re.Pattern.search") [.ref r, .str v t]) Q E s := by
  refine wpAny_call_entry slot_re_search ⟨o, ho, hc⟩ entry_re_search ?_ (args_re_search _ _)
  unfold Builtin.«re.Pattern.search»
  refine wpAny_bind ?_
  unfold reTarget
  dsimp only
  rw [named_search]
  refine wpAny_bind (wpAny_pure ?_)
  dsimp only
  refine wpAny_bind (wpAny_pure (wpAny_bind (wpAny_pure (wpAny_bind ?_))))
  unfold fieldsOf
  dsimp only
  refine wpAny_bind (wpAny_load ho ?_)
  rw [hd]
  refine wpAny_pure (wpAny_bind ?_)
  show wpAny _ _ (pure (v.cps, 0)) _ _ s
  refine wpAny_pure ?_
  dsimp only
  rw [h6]
  change wpAny _ _ (if false = true then _ else (if false = true then _ else _)) _ _ _
  rw [if_neg Bool.false_ne_true, if_neg Bool.false_ne_true]
  unfold reNoCollectionInside
  rw [if_neg (by decide)]
  refine wpAny_bind (wpAny_pure (wpAny_bind ?_))
  rw [h5]
  unfold reRawItems seqItems?
  refine wpAny_bind (wpAny_bind (wpAny_load ht ?_))
  rw [htd]
  refine wpAny_pure (wpAny_pure (wpAny_pure ?_))
  have e1 : min (0 : Int).toNat v.cps.size = 0 := Nat.zero_min _
  have e2 : min (2 ^ 63 - 1 : Int).toNat v.cps.size = v.cps.size := Nat.min_eq_right (by omega)
  dsimp only [Option.getD_some]
  rw [e1, e2]
  obtain ⟨m, em, ho, hf⟩ := search_says hcode hv
  rw [h2, show reRawNat (.int 0 0) = 0 from rfl, em]
  unfold reAnswer
  exact wpAny_bind (runs_out ho hf (wpAny_pure ⟨_, rfl, h⟩))
end
end
section
local macro_rules | `(tactic| walk_at "getMethod ref") => `(tactic| refine Stop.out ?_)
theorem conv_ctr {w : World} {mean : ExcName → Option Value} {mg mb : Str → Option Value} (self : Value) (v : Str) (t : Tok) (nb : Bool) (hv : Plain v) (hz : (v.cps.size : Int) < 2 ^ 63 - 1) :
    Ctr w mean mg mb 4 152 [self, .str v t] [(Str.ofString "name", .bool nb)] [] (fun _ => True) (fun _ _ r => r = .str v t) := by
  refine ctr_of ?_
  intro dp un gd fr base s Q E B X T hd hu _ ret
  k_dflt cell_enter
  k_steps
  all_goals
    rename Fr _ _ _ _ => F
    have X' := X.keeps F.keep
    unfold Stop
  · refine getMethod_builtin (T := "re.Pattern") ⟨_, X' 117 _ rfl, rfl⟩ plain_re slot_re_search type_re_search (fun a e => by cases e; exact ⟨_, X' 117 _ rfl, rfl⟩) ?_
    k_steps
    refine re_search (tp := 116) (X' 117 _ rfl) rfl rfl rfl rfl rfl (X' 116 _ rfl) rfl (.inl (by decide +kernel)) hv hz ?_
    k_steps
    exact ret _ _ _ (Fr.keep (by assumption)) rfl
  · refine getMethod_builtin (T := "re.Pattern") ⟨_, X' 122 _ rfl, rfl⟩ plain_re slot_re_search type_re_search (fun a e => by cases e; exact ⟨_, X' 122 _ rfl, rfl⟩) ?_
    k_steps
    refine re_search (tp := 121) (X' 122 _ rfl) rfl rfl rfl rfl rfl (X' 121 _ rfl) rfl (.inr (by decide +kernel)) hv hz ?_
    k_steps
    exact ret _ _ _ (Fr.keep (by assumption)) rfl
end
section
/-- plain and short -/
noncomputable def Ok (v : Str) : Prop := Plain v ∧ v.cps.size ≤ 200
theorem Ok.len {v : Str} (h : Ok v) : v.length ≤ 200 := h.2
theorem lo1_plain {c : Nat} (h : 32 ≤ c ∧ c < 127) : 32 ≤ lo1 c ∧ lo1 c < 127 := by
  have : ∀ c : Fin 127, 32 ≤ c.val → 32 ≤ lo1 c.val ∧ lo1 c.val < 127 := by decide +kernel
  exact this ⟨c, h.2⟩ h.1
theorem lower_eq {v : Str} (h : Ok v) : Txt.lower v = ⟨v.cps.map lo1⟩ := lower_ascii fun c hc => by have := (h.1 c hc).2; omega
theorem Ok.lower {v : Str} (h : Ok v) : Ok (Txt.lower v) := by
  rw [lower_eq h]
  refine ⟨fun c hc => ?_, by simpa using h.2⟩
  have hc' : c ∈ (v.cps.map lo1).toList := hc
  rw [Array.toList_map] at hc'
  obtain ⟨a, ha, rfl⟩ := List.mem_map.mp hc'
  exact lo1_plain (h.1 a ha)
theorem Ok.fits {v : Str} (h : Ok v) : (v.cps.size : Int) < 2 ^ 63 - 1 := by have := h.2; omega
end
section
/-- the parts of a Headers -/
noncomputable abbrev hdLed (w : World) (P d l : Addr) (tk : Tok) (vs : List Value) (n : Nat) : List (Addr × Obj) :=
  [(P, instObj 253 d), (d, dictOf [⟨PyData.keyHash w.params (Str.ofString "_headers"), .str (Str.ofString "_headers") tk, .ref l⟩] 1), (l, listOf vs.toArray n)]
noncomputable abbrev tupP (p : Str × Str) (t1 t2 : Tok) (n : Nat) : Obj := { cls := .type "tuple", data := .seq #[.str p.1 t1, .str p.2 t2] n }
/-- lines of a Headers: pairs of texts -/
noncomputable def LinesAt (g : Heap) (vs : List Value) (its : List (Str × Str)) : Prop := vs.length = its.length ∧ ∀ (i : Nat) (p : Str × Str), its[i]? = some p → ∃ (r : Addr) (t1 t2 : Tok) (n : Nat), vs[i]? = some (.ref r) ∧ g.get? r = some (tupP p t1 t2 n)
theorem LinesAt.under {g h : Heap} {A : List Addr} {vs : List Value} {its : List (Str × Str)} (x : LinesAt g vs its) (k : Kept g h) (hA : ∀ b o, g.get? b = some o → b ∉ A) : LinesAt (hideAll h A) vs its :=
  ⟨x.1, fun i p e => by
    obtain ⟨r, t1, t2, n, e1, e2⟩ := x.2 i p e
    exact ⟨r, t1, t2, n, e1, hideAll_get A (k _ _ e2) (hA r _ e2)⟩⟩
theorem hd_above {w : World} {P d l q : Addr} {tk : Tok} {vs : List Value} {n : Nat} (h : P < q ∧ d < q ∧ l < q) : q ∉ (hdLed w P d l tk vs n).map (·.1) := fun hc => by
  have hc' : q ∈ [P, d, l] := hc
  rcases List.mem_cons.mp hc' with e | hc'
  · exact absurd e (Nat.ne_of_gt h.1)
  rcases List.mem_cons.mp hc' with e | hc'
  · exact absurd e (Nat.ne_of_gt h.2.1)
  · exact absurd (List.mem_singleton.mp hc') (Nat.ne_of_gt h.2.2)
noncomputable def OkL (its : List (Str × Str)) : Prop := its.length ≤ 50 ∧ ∀ p ∈ its, Ok p.1 ∧ Ok p.2
section
variable {prog : Program} {w : World} {A : Around} {E : Value → Shared → Prop} {s : Shared} {h₀ : Heap} {env : Env} {m : Str → Option Value}
theorem lf_pair {x y : Str} {px py tp : Pos} {x1 : Nat} {I ax r : Addr} {i : Nat} {p : Str × Str} {t1 t2 : Tok} {n : Nat} {Q : Unit → Shared → Prop} (hh : A.handled = none) (hst : s.heap.IsListIter I ax i) (ht : s.heap.get? r = some (tupP p t1 t2 n))
    (hx : env.kindOf x = some .local) (hy : env.kindOf y = some .local) (hk : env.scope.kind = .function) (F : Fr h₀ env.locals s.heap m)
    (h : ∀ h' tk, Fr h₀ env.locals h' (fun z => if z = y then some (.str p.2 t2) else if z = x then some (.str p.1 t1) else m z) → (∀ b o, b ≠ env.locals → s.heap.get? b = some o → h'.get? b = some o) → Q () { s with heap := h', toks := tk }) :
    wpAny (model prog w) A (letOwnedTupleGo (.Tuple [.Name x px, .Name y py] x1 tp) (.ref I) (.ref r)) (fun _ s' => wpAny (model prog w) A (assign (.Tuple [.Name x px, .Name y py] x1 tp) env (.ref r)) Q E s') E s := by
  refine wpAny_letOwnedTupleGo_listiter hst ?_
  refine assign_Tuple_tuple hh ⟨_, ht, rfl, n, rfl⟩ rfl rfl fun h₅ he => ?_
  have he' : ∀ b o, s.heap.get? b = some o → h₅.get? b = some o := fun b o e => he b o (Nat.ne_of_lt (Heap.lt_size e)) e
  have hp : (env.scope.kind == .class || (env.scope.kind == .module && env.locals != env.globals)) = false := by rw [hk]; rfl
  refine assignInOrder_cons (wpAny_assign_Name (wpAny_storeName_local hx (F.ns.at' fun o e => he' _ o e) (fun h₆ hn₆ hs₆ => ?_) hp))
  refine assignInOrder_cons (wpAny_assign_Name (wpAny_storeName_local hy hn₆ (fun h₃ hn₃ hs₃ => ?_) hp))
  refine assignInOrder_nil ?_
  have up : ∀ b o, b ≠ env.locals → s.heap.get? b = some o → h₃.get? b = some o := fun b o hb e => hs₃.extBut b o hb (hs₆.extBut b o hb (he' b o e))
  have hL : ∀ b o, h₀.get? b = some o → b ≠ env.locals := fun b o e q => absurd (Heap.lt_size e) (Nat.not_lt.mpr (q ▸ F.above))
  exact h h₃ _ ⟨hn₃, fun b o e => up b o (hL b o e) (F.keep b o e), F.above⟩ up
end
end
section
section
variable {prog : Program} {w : World} {A : Around} {s : Shared} {K : Frag} {name qual : Str} {params : Arguments} {body : List Stmt} {scope : Scope} {dV kV doc pm cdv ct oc : Value} {an od : Option Addr} {osl : Array (Option Value)} {f : Addr} {args : List Value} {kw : List (Str × Value)} {binds : List (Str × Value)} {base : Heap} {fr : List Env}
  {Q E : Value → Shared → Prop}
/-- as enterM, of the call's code -/
theorem enterMk (hid : List (Addr × Obj)) (X : K.In (hideAll s.heap (hid.map (·.1)))) (hlim : (hideAll s.heap (hid.map (·.1))).NoLimit) (hh : ∀ p ∈ hid, s.heap.get? p.1 = some p.2)
    (ho : K.lookup f = some ⟨oc, od, .func (fnOf name qual params body scope dV kV doc pm an cdv ct), osl⟩) (hcd : codeIn K cdv qual = true) (hroom : A.depth < recursionLimit)
    (hbind : BindsTo s (fnOf name qual params body scope dV kV doc pm an cdv ct) ⟨args, kw⟩ binds) (hloc : ∀ y ∈ binds, scope.names.lookup y.1 = some .local)
    (h : ∀ L h₁, L = s.heap.objs.size → Fr (hideAll s.heap (hid.map (·.1))) L h₁ (fun y => binds.reverse.lookup y) → News (hideAll s.heap (hid.map (·.1))) L h₁ hid → (∀ p ∈ hid, p.1 < L) →
      wpAny (model prog w) (A.deeper (envOf qual scope L f cdv)) (execs body (envOf qual scope L f cdv))
        (fun fl s' => Q (match fl with | .ret v => v | _ => .none) s')
        (fun e s' => wpAny (model prog w) (A.deeper (envOf qual scope L f cdv)) (leaving (envOf qual scope L f cdv) e) (fun _ s'' => E e s'') (fun e' s'' => E e' s'') s')
        { s with heap := h₁, toks := s.toks + binds.length })
    (hco : scope.isCoroutine = false) (hgen : scope.isGenerator = false) (hk : scope.kind = .function)
    (hcell : ∀ x ∈ scope.names, x.2 ≠ .cell) : codeAny (model prog w) A (.call (.ref f) ⟨args, kw⟩) (fun r s' => match r with | .ok (.ret v) => Q v s' | .ok _ => False | .error e => E e s') s := by
  have up : Kept (hideAll s.heap (hid.map (·.1))) s.heap := fun b o e => of_hideAll _ e
  refine codeAny_call_def (fd := fnOf name qual params body scope dV kV doc pm an cdv ct) (body := body) (binds := binds) hroom (up _ _ (X _ _ ho)) rfl (hlim.keeps up) ((codeRec_of X hcd).keeps up) rfl hbind hcell hloc (fun h₁ hns hk₁ => ?_) hco hgen hk
  exact h _ h₁ rfl ⟨hns, fun b o e => hk₁ b o (up _ _ e), Nat.le_of_eq (hideAll_size _ _)⟩
    (fun p hp => ⟨hk₁ _ _ (hh p hp), Nat.ne_of_lt (Heap.lt_size (hh p hp)), hideAll_none _ (List.mem_map_of_mem hp)⟩) fun p hp => Heap.lt_size (hh p hp)
end
/-- a contract of the call's code -/
noncomputable def CtrK (w : World) (mean : ExcName → Option Value) (mg mb : Str → Option Value) (need : Nat) (f : Addr) (args : List Value) (kw : List (Str × Value)) (hid : List (Addr × Obj)) (pre : Heap → Prop) (post : Heap → Heap → Value → Prop) : Prop :=
  ∀ (dp un : Nat) (gd : Option (List Code)) (fr : List Env) (base : Heap) (s : Shared) (Q E : Value → Shared → Prop),
    Here w mean mg mb dp un gd fr base (hideAll s.heap (hid.map (·.1))) need → (∀ p ∈ hid, s.heap.get? p.1 = some p.2) → pre (hideAll s.heap (hid.map (·.1))) →
    (∀ v h' tk', Kept (hideAll s.heap (hid.map (·.1))) h' → post (hideAll s.heap (hid.map (·.1))) h' v → Q v { s with heap := h', toks := tk' }) →
    codeAny (model prog1 w) (Ar dp un gd fr) (.call (.ref f) ⟨args, kw⟩) (fun r s' => match r with | .ok (.ret v) => Q v s' | .ok _ => False | .error e => E e s') s
section
variable {w : World} {mean : ExcName → Option Value} {mg mb : Str → Option Value} {need : Nat} {f : Addr} {args : List Value} {kw : List (Str × Value)} {pre : Heap → Prop} {post : Heap → Heap → Value → Prop}
  {A₀ A : Around} {base h₀ : Heap} {outer : List Env} {env : Env} {L : Addr} {m : Str → Option Value} {news : List (Addr × Obj)} {s : Shared} {Q E : Value → Shared → Prop} {dp un : Nat} {gd : Option (List Code)}
theorem CtrK.ctr {hid : List (Addr × Obj)} (C : CtrK w mean mg mb need f args kw hid pre post) : Ctr w mean mg mb need f args kw hid pre post :=
  fun dp un gd fr base s Q E H hh hp ret => wpAny_call (C dp un gd fr base s Q E H hh hp ret)
theorem ctrK_mut {hid : List (Addr × Obj)} (C : CtrK w mean mg mb need f args kw hid pre post) (B : Below A₀ base outer h₀) (F : Fr h₀ L s.heap m) (X : (kHeap w.params).In h₀) (T : Top kView loose1 mean mg mb h₀)
    (N : News h₀ L s.heap hid)
    (hA : A = Ar dp un gd (env :: outer)) (hf : env.frame = some L) (hke : env.scope.kind = .function) (hp : pre (hideAll s.heap (hid.map (·.1)))) (hd : dp + need < recursionLimit) (hu : un + 8 * need < cLine)
    (h : ∀ v h' tk', Kept (hideAll s.heap (hid.map (·.1))) h' → Fr h₀ L h' m → post (hideAll s.heap (hid.map (·.1))) h' v → Q v { s with heap := h', toks := tk' }) :
    codeAny (model prog1 w) A (.call (.ref f) ⟨args, kw⟩) (fun r s' => match r with | .ok (.ret v) => Q v s' | .ok _ => False | .error e => E e s') s := by
  subst hA
  obtain ⟨FG, BG, st, _⟩ := groundX (A := Ar dp un gd (env :: outer)) (R := fun _ _ => True) B F N rfl hf hke
  exact C dp un gd (env :: outer) base s Q E ⟨BG, X.keeps st, T.keeps st, hd, hu⟩ (fun p hp => (N p hp).1) hp fun v h' tk' k p => h v h' tk' k (FG.keeps k) p
end
end
section
local macro_rules | `(tactic| walk_at "call ref") => `(tactic| refine Stop.out ?_)
local macro_rules | `(tactic| walk_at "call builtin:str.lower") => `(tactic| (k_here; refine' SCL.lower (Nat.le_trans (Ok.len ?ok) ?le) ?_; (case le => decide); (case ok => assumption); k_whole; intro _))
noncomputable def getF (its : List (Str × Str)) (nm : Str) : Option Str := (its.find? fun p => Txt.lower p.1 == Txt.lower nm).map (·.2)
theorem getF_none {nm : Str} : ∀ {its : List (Str × Str)}, (∀ (j : Nat) (p : Str × Str), j < its.length → its[j]? = some p → (Txt.lower p.1 == Txt.lower nm) = false) → getF its nm = none
  | [], _ => rfl
  | q :: r, h => by
    have h0 := h 0 q (by simp) rfl
    unfold getF
    rw [List.find?_cons, h0]
    exact getF_none (its := r) fun j p hj e => h (j + 1) p (by simpa using hj) (by simpa using e)
theorem getF_some {nm : Str} {p : Str × Str} : ∀ {its : List (Str × Str)} {i : Nat}, its[i]? = some p → (∀ (j : Nat) (q : Str × Str), j < i → its[j]? = some q → (Txt.lower q.1 == Txt.lower nm) = false) → (Txt.lower p.1 == Txt.lower nm) = true → getF its nm = some p.2
  | [], i, e, _, _ => by simp at e
  | q :: r, 0, e, _, hm => by
    simp at e; subst e
    unfold getF
    rw [List.find?_cons, hm]; rfl
  | q :: r, i + 1, e, h, hm => by
    have h0 := h 0 q (by omega) rfl
    unfold getF
    rw [List.find?_cons, h0]
    exact getF_some (its := r) (by simpa using e) (fun j q' hj e' => h (j + 1) q' (by omega) (by simpa using e')) hm
theorem get_ctrK {w : World} {mean : ExcName → Option Value} {mg mb : Str → Option Value} (P d l : Addr) (tk : Tok) (vs : List Value) (n : Nat) (its : List (Str × Str)) (nm : Str) (t : Tok) (dv : Value) (kw : List (Str × Value)) (hkw : kw = [(Str.ofString "default", dv)] ∨ (kw = [] ∧ dv = .none)) (hne : P ≠ d ∧ P ≠ l ∧ d ≠ l) (hnm : Ok nm) (hits : OkL its) :
    CtrK w mean mg mb 12 200 [.ref P, .str nm t] kw (hdLed w P d l tk vs n) (fun g => LinesAt g vs its) (fun _ h v => (∀ p ∈ hdLed w P d l tk vs n, h.get? p.1 = some p.2) ∧ ∀ r, getF its nm = r → (match r with | some x => ∃ t, v = .str x t | none => v = dv)) := by
  intro dp un gd fr base s Q E H hh hp ret
  obtain ⟨B, X, T, hd, hu⟩ := H
  have X' : (kHeap w.params).In s.heap := X.keeps fun b o e => of_hideAll _ e
  refine' enterMk (binds := [(Str.ofString "self", .ref P), (Str.ofString "name", .str nm t), (Str.ofString "default", dv)]) _ X (Top.nolimit T) hh ?k6 ?k7 ?k8 ?k9 ?kB ?_ ?c2 ?c3 ?c4 ?c5
  case k6 => k_is
  case k7 => k_is
  case k8 => ktr_room
  case k9 =>
    rcases hkw with rfl | ⟨rfl, rfl⟩
    · exact binds_K X' rfl (by k_is) rfl rfl rfl
    · exact binds_K X' rfl (by k_is) rfl rfl rfl
  case c5 => decide
  case kB => exact locs rfl
  case c2 => exact rfl
  case c3 => exact rfl
  case c4 => exact rfl
  k_whole
  intro L h₁ hL F N hlt
  (try dsimp only)
  (try k_fold)
  have hlw := hnm.lower
  k_steps
  unfold Stop
  refine' ctr_pure (conv_ctr (.ref P) (Txt.lower nm) _ true hlw.1 hlw.fits) B F X T rfl rfl rfl trivial ?e2 ?e3 ?e4
  case e2 => ktr_room
  case e3 => ktr_units
  case e4 =>
    rintro v h' tk' hk' F' rfl
    have N' := N.grown hk'
    clear F N
    k_steps
    rename Fr _ _ _ _ => F
    rename News _ _ _ _ => N
    unfold Stop
    refine' lf_list (σ := Unit) (its := vs.toArray) (fun _ => []) (fun _ => hdLed w P d l tk vs n) (fun i _ => ∀ j p, j < i → its[j]? = some p → (Txt.lower p.1 == Txt.lower nm) = false) ["k", "v"] () rfl ?hl F N ?hn ?hk ?hp ?turn ?done
    case hl => exact fun i c _ => .inr ⟨_, List.Mem.tail _ (List.Mem.tail _ (List.Mem.head _)), rfl, _, rfl⟩
    case hn => exact fun _ h => h
    case hk => ktr_unf
    case hp => intro j p h; exact absurd h (Nat.not_lt_zero _)
    case turn =>
      clear F N
      intro i v c u I oI h tk5 hi hv hP hoff hst F N
      have hi' : i < its.length := by rw [← hp.1]; simpa using hi
      obtain ⟨r, t1, t2, n', e1, e2⟩ := hp.2 i its[i] (List.getElem?_eq_getElem hi')
      have ev : v = .ref r := by
        have : vs[i]? = some v := by simpa using hv
        rw [e1] at this; exact (Option.some.inj this).symm
      subst ev
      have hok := hits.2 _ (List.getElem_mem hi')
      have hok1 := hok.1
      have hok2 := hok.2
      refine lf_pair rfl hst.1 (F.keep _ _ e2) rfl rfl rfl F fun h7 tk7 F7 up => ?_
      have N7 : News _ L h7 _ := fun p hp => ⟨up _ _ (N p hp).2.1 (N p hp).1, (N p hp).2⟩
      clear F N
      k_steps
      · unfold Stop
        refine ret _ _ _ F7.keep ⟨fun p hp => (N7 p (List.mem_append.mpr (.inl hp))).1, fun r' hr => ?_⟩
        rw [getF_some (List.getElem?_eq_getElem hi') hP (by assumption)] at hr
        subst hr
        exact ⟨_, rfl⟩
      · unfold Stop
        refine' lf_end () F7 N7 ?hn ?ho ?hoff ?hk ?hr ?hp
        case hn => exact fun p hp => List.mem_append.mpr (.inl hp)
        case ho => exact fun p hp => List.mem_append.mpr (.inr hp)
        case hoff => exact hoff
        case hk => ktr_unf
        case hr => ksw_less
        case hp =>
          intro j q hj e
          by_cases hji : j = i
          · subst hji
            rw [List.getElem?_eq_getElem hi'] at e
            cases e
            assumption
          · exact hP j q (by omega) e
    case done =>
      clear F N
      intro c u h tk5 hP F N
      try k_fold
      k_steps
      refine ret _ _ _ F.keep ⟨fun p hp => (N p hp).1, fun r hr => ?_⟩
      rw [getF_none fun j p hj e => hP j p (by rw [List.size_toArray, hp.1]; exact hj) e] at hr
      subst hr
      rfl
theorem get_ctr {w : World} {mean : ExcName → Option Value} {mg mb : Str → Option Value} (P d l : Addr) (tk : Tok) (vs : List Value) (n : Nat) (its : List (Str × Str)) (nm : Str) (t : Tok) (dv : Value) (kw : List (Str × Value)) (hkw : kw = [(Str.ofString "default", dv)] ∨ (kw = [] ∧ dv = .none)) (hne : P ≠ d ∧ P ≠ l ∧ d ≠ l) (hnm : Ok nm) (hits : OkL its) :
    Ctr w mean mg mb 12 200 [.ref P, .str nm t] kw (hdLed w P d l tk vs n) (fun g => LinesAt g vs its) (fun _ h v => (∀ p ∈ hdLed w P d l tk vs n, h.get? p.1 = some p.2) ∧ ∀ r, getF its nm = r → (match r with | some x => ∃ t, v = .str x t | none => v = dv)) :=
  (get_ctrK P d l tk vs n its nm t dv kw hkw hne hnm hits).ctr
end
section
local macro_rules | `(tactic| walk_at "call builtin:list.append") => `(tactic| (k_here; (with_reducible show wpAny _ _ (call (Value.builtin _) [Value.ref _, _]) _ _ _); refine' append_K ?k1 ?k2 ?k3 ?_ ?z; (case k1 => k_asm); (case k2 => k_asm); (case k3 => k_upd); (case z => assumption); k_whole; intro h' F' N'; (try k_sweep)))
local macro_rules | `(tactic| walk_at "call ref") => `(tactic| refine Stop.out ?_)
noncomputable def SetPost (w : World) (P d l : Addr) (tk : Tok) (vs : List Value) (n : Nat) (its : List (Str × Str)) (nm vl : Str) (g h : Heap) (v : Value) : Prop :=
  match getF its nm with
  | some x => (∀ p ∈ hdLed w P d l tk vs n, h.get? p.1 = some p.2) ∧ ∃ t, v = .str x t
  | none => ∃ r t1 t2 k n', g.get? r = none ∧ r ≠ P ∧ r ≠ d ∧ r ≠ l ∧ h.get? r = some (tupP (nm, vl) t1 t2 k) ∧ (∀ p ∈ hdLed w P d l tk (vs ++ [.ref r]) n', h.get? p.1 = some p.2) ∧ ∃ t, v = .str vl t
theorem setd_ctr {w : World} {mean : ExcName → Option Value} {mg mb : Str → Option Value} (P d l : Addr) (tk : Tok) (vs : List Value) (n : Nat) (its : List (Str × Str)) (nm vl : Str) (t t' : Tok) (hne : P ≠ d ∧ P ≠ l ∧ d ≠ l) (hnm : Ok nm) (hvl : Ok vl) (hits : OkL its) :
    Ctr w mean mg mb 16 243 [.ref P, .str nm t, .str vl t'] [] (hdLed w P d l tk vs n) (fun g => LinesAt g vs its) (SetPost w P d l tk vs n its nm vl) := by
  intro dp un gd fr base s Q E H hh hp ret
  obtain ⟨B, X, T, hd, hu⟩ := H
  refine' enterM _ X (Top.nolimit T) hh ?k6 ?k7 ?k8 ?k9 ?kB ?_ ?c2 ?c3 ?c4 ?c5
  case k6 => k_is
  case k7 => k_is
  case k8 => ktr_room
  case k9 => exact BindsTo.of_eq rfl
  case c5 => decide
  case kB => exact locs rfl
  case c2 => exact rfl
  case c3 => exact rfl
  case c4 => exact rfl
  k_whole
  intro L h₁ hL F N hlt
  (try dsimp only)
  (try k_fold)
  k_steps
  unfold Stop
  refine' ctr_mut (get_ctr P d l tk vs n its nm _ .none [] (.inr ⟨rfl, rfl⟩) hne hnm hits) B F X T N rfl rfl rfl ?e1 ?e2 ?e3 ?e4
  case e1 => exact hp.under F.keep fun b o e => hideAll_some e
  case e2 => ktr_room
  case e3 => ktr_units
  case e4 =>
    rintro v h' tk' hk' F' ⟨hsame, hv⟩
    have N' : News _ L h' (hdLed w P d l tk vs n) := fun p hp => ⟨hsame p hp, (N p hp).2⟩
    clear F N
    rcases hg : getF its nm with _ | x
    · have hv' : v = .none := hv _ hg
      subst hv'
      have hz : vs.toArray.size ≤ sizeLine := by
        rw [List.size_toArray, hp.1]
        exact Nat.le_trans hits.1 (by decide)
      k_steps
      rename Fr _ _ _ _ => F'
      rename News _ _ _ _ => N'
      unfold Stop
      refine' ctr_pure (conv_ctr (.ref P) nm _ true hnm.1 hnm.fits) B F' X T rfl rfl rfl trivial ?e5 ?e6 ?e7
      case e5 => ktr_room
      case e6 => ktr_units
      case e7 =>
        rintro v h2 tk2 hk2 F2 rfl
        have N2 := N'.grown hk2
        k_steps
        unfold Stop
        refine' ctr_pure (conv_ctr (.ref P) vl _ false hvl.1 hvl.fits) B F2 X T rfl rfl rfl trivial ?e8 ?e9 ?e10
        case e8 => ktr_room
        case e9 => ktr_units
        case e10 =>
          rintro v h3 tk3 hk3 F3 rfl
          have N3 := N2.grown hk3
          dsimp only [hdLed] at N3
          have m1 : @Ne Nat P d := hne.1
          have m2 : @Ne Nat P l := hne.2.1
          have m3 : @Ne Nat d l := hne.2.2
          clear F' N' F2 N2
          k_steps
          rename Fr _ _ _ _ => F9
          rename News _ _ _ _ => N9
          rename_i D9 _ lt9 _ _
          have ep : vs.toArray.push (Value.ref D9) = (vs ++ [Value.ref D9]).toArray := by simp
          rw [ep] at N9
          refine ret _ _ _ F9.keep ?_
          unfold SetPost
          rw [hg]
          refine ⟨D9, _, _, _, n + 1, (N9 _ (List.Mem.head _)).2.2, Nat.ne_of_gt lt9.1, Nat.ne_of_gt lt9.2.1, Nat.ne_of_gt lt9.2.2, (N9 _ (List.Mem.head _)).1, fun p hp => (N9 p (List.Mem.tail _ hp)).1, _, rfl⟩
    · obtain ⟨tx, rfl⟩ := hv _ hg
      k_steps
      rename Fr _ _ _ _ => F'
      rename News _ _ _ _ => N'
      refine ret _ _ _ F'.keep ?_
      unfold SetPost
      rw [hg]
      exact ⟨fun p hp => (N' p hp).1, _, rfl⟩
end
section
section
variable {prog : Program} {w : World} {A : Around} {E : Value → Shared → Prop} {s : Shared}
theorem merge_none {d D : Addr} {o : Obj} {ep : Nat} {Q : Unit → Shared → Prop} (hd : s.heap.get? d = some emptyDict) (hD : s.heap.get? D = some o) (hc : o.cls = .type "dict") (hes : o.data = .dict #[] ep) (hs : (D == sysModules) = false)
    (h : Q () s) : wpAny (model prog w) A (mergeMapping d (.ref D) true) Q E s := by
  have hT : s.TypeIs (.ref D) "dict" := ⟨o, hD, hc⟩
  unfold mergeMapping
  refine wpAny_bind (wpAny_isInstance hT isSubtype_dict_dict ?_)
  rw [if_pos rfl]
  refine wpAny_bind (wpAny_specialOf hT F.slot_dict_iter.lookup (wpAny_bind (wpAny_pure ?_)))
  simp only [beq_self_eq_true]
  rw [hs, if_neg Bool.false_ne_true]
  refine wpAny_bind (wpAny_dictEntries hd rfl ?_)
  rw [if_pos (show (#[] : Array DictEntry).isEmpty = true from rfl)]
  refine wpAny_bind (wpAny_dictEntries hD hes (wpAny_bind ?_))
  rw [← Array.forIn_toList, List.forIn_nil]
  refine wpAny_pure (wpAny_bind (wpAny_dictEntries hD hes (wpAny_bind (wpAny_dictEpoch hD hes (wpAny_bind ?_)))))
  exact wpAny_pure (wpAny_pure h)
theorem merge_one {d D : Addr} {o : Obj} {ep : Nat} {k : Str} {t : Tok} {v : Value} {Q : Unit → Shared → Prop} (hd : s.heap.get? d = some emptyDict) (hD : s.heap.get? D = some o) (hc : o.cls = .type "dict") (hes : o.data = .dict #[⟨PyData.keyHash w.params k, .str k t, v⟩] ep) (hs : (D == sysModules) = false) (hne : d ≠ D)
    (h : Q () { s with heap := s.heap.update d (Obj.mapDictKeys fun es => es.push ⟨PyData.keyHash w.params k, .str k t, v⟩) }) : wpAny (model prog w) A (mergeMapping d (.ref D) true) Q E s := by
  have hT : s.TypeIs (.ref D) "dict" := ⟨o, hD, hc⟩
  unfold mergeMapping
  refine wpAny_bind (wpAny_isInstance hT isSubtype_dict_dict ?_)
  rw [if_pos rfl]
  refine wpAny_bind (wpAny_specialOf hT F.slot_dict_iter.lookup (wpAny_bind (wpAny_pure ?_)))
  simp only [beq_self_eq_true]
  rw [hs, if_neg Bool.false_ne_true]
  refine wpAny_bind (wpAny_dictEntries hd rfl ?_)
  rw [if_pos (show (#[] : Array DictEntry).isEmpty = true from rfl)]
  refine wpAny_bind (wpAny_dictEntries hD hes (wpAny_bind ?_))
  rw [← Array.forIn_toList, List.forIn_cons]
  refine wpAny_bind (wpAny_pure ?_)
  dsimp only
  rw [List.forIn_nil]
  refine wpAny_pure ?_
  refine wpAny_bind (wpAny_dictEntries hD hes (wpAny_bind (wpAny_dictEpoch hD hes (wpAny_bind ?_))))
  show wpAny _ _ (forIn [0] _ _) _ _ _
  rw [List.forIn_cons]
  refine wpAny_bind (wpAny_bind (wpAny_dictEntries hD hes ?_))
  show wpAny _ _ (holding _ _ >>= _) _ _ _
  rw [if_pos trivial]
  have kx : (strKind prog w).is k (.str k t) = true := strKind_is prog w k t
  refine wpAny_bind (wpAny_holding (wpAny_bind (wpAny_dictFind_of (knd := strKind prog w) kx hd rfl (fun e he => by simp at he) ?_)))
  have f0 : ∀ p : DictEntry → Bool, (#[] : Array DictEntry).findIdx? p = none := fun p => by simp
  rw [f0, if_neg (by decide)]
  unfold dictPut
  refine wpAny_bind (wpAny_dictFind_of (knd := strKind prog w) kx hd rfl (fun e he => by simp at he) ?_)
  rw [f0]
  refine wpAny_updateDictKeys hd rfl ?_ (by decide) (by simp)
  have hD' : (s.heap.update d (Obj.mapDictKeys fun es => es.push ⟨PyData.keyHash w.params k, .str k t, v⟩)).get? D = some o := by
    rw [Heap.get?_update_ne _ _ _ _ (Ne.symm hne)]; exact hD
  refine wpAny_bind (wpAny_dictEpoch hD' hes ?_)
  rw [if_neg (by simp)]
  exact wpAny_pure (wpAny_pure (wpAny_pure h))
theorem spliced_one {M : Model} {t : Sem Value} {Q : List Value → Shared → Prop} (h : wpAny M A t (fun v s₁ => Q [v] s₁) E s) : wpAny M A (spliced [(false, t)]) Q E s := by
  unfold spliced
  refine wpAny_bind (wpAny_mono h (fun v s₁ h₁ => ?_) fun _ _ x => x)
  refine wpAny_bind (wpAny_pure ?_)
  refine wpAny_bind (wpAny_holding ?_)
  unfold spliced
  exact wpAny_pure (wpAny_pure h₁)
theorem dd_call {M : Model} {f : Value} {first : List Value} {pos : Pos} {Q : Value → Shared → Prop} {P : Heap → Prop} {args : List (Bool × Sem Value)} {kws : List (Option Str × Sem Value)} (hst : (args.any (·.1) || kws.any (·.1.isNone)) = true)
    (hk : ∀ h, P h → ∃ k, (k = Keeper.frame ∨ k = Keeper.machine ∨ k = Keeper.boundFrame) ∧ Looks M h (keeperOf f) k)
    (h : wpAny M A (evalArgs f true args kws) (fun a s₁ => P s₁.heap ∧ wpAny M A (call f (first ++ a.pos) a.kw) Q E s₁) E s) : wpAny M A (callWith pos f first args kws) Q E s := by
  unfold callWith
  refine wpAny_bind (wpAny_holding (wpAny_mono h (fun a s₁ h₁ => wpAny_bind (wpAny_standAt ?_)) fun _ _ x => x))
  obtain ⟨k, hk', L⟩ := hk _ h₁.1
  simp only [hst]
  refine wpAny_bind (L.here ?_)
  have tail : ∀ {t : Sem Value}, wpAny M A t Q E s₁ → wpAny M A (t >>= fun r => holding [r] point >>= fun _ => pure r) Q E s₁ :=
    fun ht => wpAny_bind (wpAny_mono ht (fun r s₂ hr => wpAny_bind (wpAny_holding (wpAny_point (wpAny_pure hr)))) fun _ _ x => x)
  have marked (mk : Value) : wpAny M A (callMarked mk f (first ++ a.pos) a.kw) Q E s₁ := by unfold callMarked; exact Calls.wpAny_keep h₁.2
  rcases hk' with rfl | rfl | rfl <;> dsimp only <;> first | exact tail (marked _) | exact tail (wpAny_operating h₁.2)
/-- the keywords of one mapping -/
theorem evalArgs_dd {f : Value} {t x : Sem Value} {Q : Args → Shared → Prop}
    (h : wpAny (model prog w) A t (fun v s₁ => wpAny (model prog w) A x (fun m s₃ => wpAny (model prog w) A (mergeMapping s₁.heap.objs.size m true) (fun _ s₄ => ∃ kw, (∀ R : List (Str × Value) → Shared → Prop, R kw s₄ → wpAny (model prog w) A (keywordsIn f s₁.heap.objs.size) R E s₄) ∧ Q ⟨[v], kw⟩ s₄) (fun _ _ => False) s₃) E { s₁ with heap := s₁.heap.push emptyDict }) E s) :
    wpAny (model prog w) A (evalArgs f true [(false, t)] [(none, x)]) Q E s := by
  unfold evalArgs
  dsimp only
  refine wpAny_bind (m := spliced [(false, t)]) (spliced_one (wpAny_mono h (fun v s₁ h₁ => ?_) fun _ _ x => x))
  refine wpAny_bind (wpAny_pure ?_)
  dsimp only
  refine wpAny_holding ?_
  rw [if_neg (by simp)]
  refine wpAny_bind ?_
  unfold mergedKeywords
  refine wpAny_bind (wpAny_alloc ?_)
  refine wpAny_bind (wpAny_holding ?_)
  dsimp only
  rw [List.forIn_cons]
  refine wpAny_bind (wpAny_bind ?_)
  dsimp only
  rw [if_pos (show ([] : List (Str × Sem Value)).isEmpty = true from rfl)]
  refine wpAny_bind (wpAny_pure ?_)
  refine wpAny_bind (wpAny_mono h₁ (fun m s₃ h₃ => ?_) fun _ _ x => x)
  refine wpAny_bind (wpAny_onRaise (wpAny_holding (wpAny_tryCatch (wpAny_onRaise (wpAny_mono h₃ (fun _ s₄ h₄ => ?_) fun _ _ x => x.elim)))))
  obtain ⟨kw, hkw, hq⟩ := h₄
  refine wpAny_pure ?_
  dsimp only
  rw [List.forIn_nil]
  refine wpAny_pure ?_
  rw [if_pos (show ([] : List (Str × Sem Value)).isEmpty = true from rfl)]
  refine wpAny_pure (wpAny_pure ?_)
  refine wpAny_bind (wpAny_pure ?_)
  exact wpAny_bind (wpAny_holding (hkw _ (wpAny_pure hq)))
theorem keywords_none {f : Value} {d : Addr} {o : Obj} {ep : Nat} {R : List (Str × Value) → Shared → Prop} (hd : s.heap.get? d = some o) (hes : o.data = .dict #[] ep) (h : R [] s) : wpAny (model prog w) A (keywordsIn f d) R E s := by
  unfold keywordsIn
  refine wpAny_bind (wpAny_dictEntries hd hes (wpAny_bind ?_))
  rw [← Array.forIn_toList, List.forIn_nil]
  exact wpAny_pure (wpAny_pure h)
theorem keywords_one {f : Value} {d : Addr} {o : Obj} {ep : Nat} {hs : Int} {k : Str} {t : Tok} {v : Value} {R : List (Str × Value) → Shared → Prop} (hd : s.heap.get? d = some o) (hes : o.data = .dict #[⟨hs, .str k t, v⟩] ep) (h : R [(k, v)] s) : wpAny (model prog w) A (keywordsIn f d) R E s := by
  unfold keywordsIn
  refine wpAny_bind (wpAny_dictEntries hd hes (wpAny_bind ?_))
  rw [← Array.forIn_toList, List.forIn_cons]
  refine wpAny_bind (wpAny_pure ?_)
  dsimp only
  rw [List.forIn_nil]
  exact wpAny_pure (wpAny_pure h)
end
end
section
section
variable {prog : Program} {w : World} {A : Around} {E : Value → Shared → Prop} {s : Shared} {h₀ : Heap} {L a D : Addr} {m : Str → Option Value} {news : List (Addr × Obj)} {o : Obj} {name : Str} {scope : Scope} {cd : Value}
theorem dict_small {kvs : List (Str × Value)} (ho : o.IsDictOf (PySem.strKind prog w) kvs) (hk1 : kvs = [] ∨ ∃ k v, kvs = [(k, v)]) :
    o.cls = .type "dict" ∧ ∃ ep, (kvs = [] ∧ o.data = .dict #[] ep) ∨ (∃ k v t, kvs = [(k, v)] ∧ o.data = .dict #[⟨PyData.keyHash w.params k, .str k t, v⟩] ep) := by
  obtain ⟨es, ep, hex, hdata, hkeys, hpairs, _⟩ := ho
  refine ⟨hex.1, ep, ?_⟩
  obtain ⟨l⟩ := es
  rcases hk1 with rfl | ⟨k, v, rfl⟩
  · cases hpairs
    exact .inl ⟨rfl, hdata⟩
  · right
    have hp : Pairs (PySem.strKind prog w) l [(k, v)] := hpairs
    cases hp with
    | cons hkey hv hr =>
      rename_i e es'
      cases hr
      obtain ⟨t, ht⟩ := Value.isStrOf_shape hkey
      obtain ⟨k', hk', hh⟩ := hkeys e (by simp)
      have hkk : k' = k := (PySem.strKind prog w).inj _ _ _ hk' hkey
      subst hkk
      obtain ⟨eh, ek, ev⟩ := e
      dsimp only at ht hv hh
      subst ht hv hh
      exact ⟨_, _, t, rfl, hdata⟩
theorem call_dd {f : Value} {first : List Value} {x y : Str} {vx : Value} {px py pos kp : Pos} {kvs : List (Str × Value)} {Q : Value → Shared → Prop} (F : Fr h₀ L s.heap m) (N : News h₀ L s.heap news) (hD : (D, o) ∈ news) (ho : o.IsDictOf (PySem.strKind prog w) kvs) (hk1 : kvs = [] ∨ ∃ k v, kvs = [(k, v)]) (hs : (D == sysModules) = false)
    (hx : m x = some vx) (hy : m y = some (.ref D)) (keep : ∀ h', Fr h₀ L h' m ∧ News h₀ L h' news → ∃ k, (k = Keeper.frame ∨ k = Keeper.machine ∨ k = Keeper.boundFrame) ∧ Looks (model prog w) h' (keeperOf f) k)
    (h : ∀ h' tk, Fr h₀ L h' m → News h₀ L h' news → wpAny (model prog w) A (call f (first ++ [vx]) kvs) Q E { s with heap := h', toks := tk })
    (hkd : scope.kind = .function := by rfl) (hlx : (envOf name scope L a cd).kindOf x = some .local := by rfl) (hly : (envOf name scope L a cd).kindOf y = some .local := by rfl) (hdx : (x == ("__debug__" : Str)) = false := by decide) (hdy : (y == ("__debug__" : Str)) = false := by decide) :
    wpAny (model prog w) A (callWith pos f first (backTo pos (starEach [.Name x px] (envOf name scope L a cd))) (backToKw pos (keywordEach [⟨none, .Name y py, kp⟩] (envOf name scope L a cd)))) Q E s := by
  refine dd_call (P := fun h' => Fr h₀ L h' m ∧ News h₀ L h' news) rfl keep ?_
  show wpAny _ _ (evalArgs f true [(false, eval (.Name x px) (envOf name scope L a cd))] [(none, do let v ← eval (.Name y py) (envOf name scope L a cd); standAt pos; pure v)]) _ _ _
  refine evalArgs_dd (ld F hx ?_ hkd hlx hdx)
  have F1 := F.push emptyDict
  have N1 := N.push F emptyDict
  refine wpAny_bind (ld F1 hy (wpAny_bind (wpAny_standAt (wpAny_pure ?_))) hkd hly hdy)
  obtain ⟨hc, ep, hcase⟩ := dict_small ho hk1
  have hd : (s.heap.push emptyDict).get? s.heap.objs.size = some emptyDict := (N1 _ (List.Mem.head _)).1
  have hDg : (s.heap.push emptyDict).get? D = some o := (N1 _ (List.Mem.tail _ hD)).1
  have hne : s.heap.objs.size ≠ D := Nat.ne_of_gt (Heap.lt_size (N _ hD).1)
  have N1' : News h₀ L (s.heap.push emptyDict) news := fun p hp => N1 p (List.Mem.tail _ hp)
  rcases hcase with ⟨rfl, hes⟩ | ⟨k, v, t, rfl, hes⟩
  · exact merge_none hd hDg hc hes hs ⟨[], fun R hR => keywords_none hd rfl hR, ⟨F1, N1'⟩, h _ _ F1 N1'⟩
  · refine merge_one hd hDg hc hes hs hne ?_
    have sb : Heap.SameBut s.heap.objs.size (s.heap.push emptyDict) ((s.heap.push emptyDict).update s.heap.objs.size (Obj.mapDictKeys fun es => es.push ⟨PyData.keyHash w.params k, .str k t, v⟩)) := Heap.SameBut.update ..
    have F2 := F1.change sb (Nat.ne_of_gt F.ns.lt) (next_is_new F)
    have N2 : News h₀ L ((s.heap.push emptyDict).update s.heap.objs.size (Obj.mapDictKeys fun es => es.push ⟨PyData.keyHash w.params k, .str k t, v⟩)) news := fun p hp => ⟨sb.extBut _ _ (Nat.ne_of_lt (Heap.lt_size (N p hp).1)) (N1' p hp).1, (N1' p hp).2⟩
    exact ⟨[(k, v)], fun R hR => keywords_one (Heap.get?_update_self _ hd rfl) rfl hR, ⟨F2, N2⟩, h _ _ F2 N2⟩
end
end
section
section
variable {prog : Program} {w : World} {A : Around} {E : Value → Shared → Prop}
theorem miss_keys {s : Shared} {a : Addr} {xs : Array Value} {k : Nat} {Q : Option Value → Shared → Prop} (hx : s.heap.get? a = some (listOf xs k)) (hA : A.handled = none)
    (h : ∀ h' tk, Kept s.heap h' → Q none { s with heap := h', toks := tk }) : wpAny (model prog w) A (getAttr? (.ref a) (Str.ofString "keys")) Q E s := by
  have hx0 : s.heap.get? a = some { cls := .type "list", dict := none, data := .seq xs k, slots := #[] } := hx
  obtain ⟨hp, g, d, tk, os⟩ := s
  have hT : ∀ tk', (⟨hp, g, d, tk', os⟩ : Shared).TypeIs (.ref a) "list" := fun _ => ⟨_, hx, rfl⟩
  have f1 := sub_AttributeError
  have f3 := F.slot_list_getattribute.lookup
  have f4 := F.slot_list_getattribute.bind (.ref a)
  have f5 := am_list_getattr_none
  unfold getAttr? getAttrBy? getAttrBy
  repeat (any_goals (first | assumption | exact hT _ | ((with_reducible show wpAny _ _ (call (Value.builtin "list.__getattribute__") _ _) _ _ _); refine call_meets F.slot_list_getattribute (hT _) am_entry_list_getattribute (F.args_list_getattribute_2 _ _) (meets_getattribute_miss_list a xs k #[] (Str.ofString "keys") _ (am_miss_of_fast (by decide +kernel)) (by decide +kernel) (by decide +kernel)) ⟨hx0, hA, fun h' tk' e hx' => ?_⟩) | wp_step))
  obtain ⟨t', u', he⟩ := hx'.there
  show wpAny _ _ (getattributeRaised _ _ _ _ _ _ _) _ _ _
  unfold getattributeRaised
  repeat (any_goals (first | assumption | wp_step))
  exact h _ _ hx'.keeps
theorem plain_upd_loop : plainId "dict.update.loop" = true := by decide +kernel
theorem entry_upd_loop : entryFor table "dict.update.loop" = some Builtin.«dict.update.loop» := entryFor_of_tree (by kernel_rfl)
/-- pairs of texts laid into a dict, one by one -/
noncomputable def storeAll (kvs : List (Str × Value)) (ps : List (Str × Value)) : List (Str × Value) := ps.foldl (fun kvs p => stored kvs p.1 p.2) kvs
/-- a value that is a pair of a text and a value -/
noncomputable def PairAt (h : Heap) (v : Value) (p : Str × Value) : Prop := ∃ (r : Addr) (t : Tok) (n : Nat), v = .ref r ∧ h.get? r = some { cls := .type "tuple", data := .seq #[.str p.1 t, p.2] n }
theorem upd_loop {I ax D : Addr} {items : Array Value} {ps : List (Str × Value)} (hh : A.handled = none) (hIx : ax ≠ I) (hDI : D ≠ I) (hDx : D ≠ ax) (hz : items.size ≤ sizeLine) (g : Heap)
    (hps : ∀ (i : Nat) (v : Value), items[i]? = some v → ∃ p, ps[i]? = some p ∧ PairAt g v p) (hlen : ps.length = items.size) {R : Result → Shared → Prop} :
    ∀ (k i : Nat) (s : Shared) (kvs : List (Str × Value)), items.size - i = k → i ≤ items.size → s.heap.IsListIter I ax i → s.heap.IsList ax items → (∀ b o, b ≠ I → b ≠ D → g.get? b = some o → s.heap.get? b = some o) → (∀ (i : Nat) (v : Value) (r : Addr), items[i]? = some v → v = .ref r → r ≠ I ∧ r ≠ D) → s.heap.DictOf (PySem.strKind prog w) D kvs → kvs.length ≤ i →
      (∀ h' tk, h'.DictOf (PySem.strKind prog w) D (storeAll kvs (ps.drop i)) → (∀ b o, b ≠ I → b ≠ D → s.heap.get? b = some o → h'.get? b = some o) → R (.ok (.ret .none)) { s with heap := h', toks := tk }) →
      codeAny (model prog w) A (.builtin "dict.update.loop" ⟨[.ref D, .ref I, rawInt i, .none], []⟩) R s := by
  have W := Walks.list (prog := prog) (w := w) (A := A.in1) (by simpa using hh) I ax hIx items
  intro k
  induction k with
  | zero =>
    intro i s kvs hk hi hI hl hkeep hoff hD hkl hR
    have hin : i = items.size := by omega
    subst hin
    refine codeAny_builtin entry_upd_loop ?_
    rw [Around.under_plainId plain_upd_loop _]
    show wpAny _ A.in1 (pyNext (.ref I) >>= _) _ _ s
    refine wpAny_bind (W.done s _ _ ⟨hI, hl⟩ fun h' tk hm => ?_)
    refine wpAny_bind (wpAny_pure (wpAny_pure (hR h' tk ?_ fun b o n1 n2 e => hm b o (by simpa using n1) e)))
    rw [List.drop_of_length_le (by omega)]
    obtain ⟨o, es, ep, ho, r⟩ := hD
    exact ⟨o, es, ep, hm D o (by simpa using hDI) ho, r⟩
  | succ k ih =>
    intro i s kvs hk hi hI hl hkeep hoff hD hkl hR
    have hlt : i < items.size := by omega
    refine codeAny_builtin entry_upd_loop ?_
    rw [Around.under_plainId plain_upd_loop _]
    show wpAny _ A.in1 (pyNext (.ref I) >>= _) _ _ s
    refine wpAny_bind (W.item i s _ _ hlt ⟨hI, hl⟩ fun v h' tk hP hst hm => ?_)
    obtain ⟨p, hp, r, t, n, rfl, hr⟩ := hps i v hP
    have hrr := hoff i _ r hP rfl
    have hr' : h'.get? r = some { cls := .type "tuple", data := .seq #[.str p.1 t, p.2] n } := hm r _ (by simpa using hrr.1) (hkeep r _ hrr.1 hrr.2 hr)
    have hD' : h'.DictOf (PySem.strKind prog w) D kvs := by
      obtain ⟨o, es, ep, ho, q⟩ := hD
      exact ⟨o, es, ep, hm D o (by simpa using hDI) ho, q⟩
    dsimp only
    refine wpAny_bind (wpAny_holding (wpAny_bind (wpAny_tryCatch ?_)))
    unfold Builtin.Dict.pairItems
    have hT : ({ s with heap := h', toks := tk } : Shared).TypeIs (.ref r) "tuple" := ⟨_, hr', rfl⟩
    refine wpAny_bind (wpAny_typeOf hT ?_)
    rw [if_pos (by decide)]
    show wpAny _ _ (seqItems? (.ref r) >>= _) _ _ _
    refine wpAny_bind ?_
    show wpAny _ _ (load r >>= _) _ _ _
    refine wpAny_bind (wpAny_load hr' (wpAny_pure (wpAny_pure ?_)))
    show wpAny _ _ (holding [.str p.1 t, p.2] (dictSet D (.str p.1 t) p.2)) _ _ _
    refine wpAny_holding (wpAny_dictSet_pairs (knd := PySem.strKind prog w) (k := p.1) (hsz := by omega) (strKind_is _ _ _ _) hD' fun h2 hd2 hs2 => ?_)
    refine wpAny_pure ⟨plainId_quiet plain_upd_loop _, ?_⟩
    have e1 : rawInt ((i : Int) + 1) = rawInt ((i + 1 : Nat) : Int) := rfl
    show codeAny _ A (.builtin "dict.update.loop" ⟨[.ref D, .ref I, rawInt ((i : Int) + 1), .none], []⟩) R _
    rw [e1]
    have hI2 := hst.1.at (h' := h2) fun o e => hs2.extBut I o (Ne.symm hDI) e
    have hl2 := hst.2.at (h' := h2) fun o e => hs2.extBut ax o (Ne.symm hDx) e
    refine ih (i + 1) _ (stored kvs p.1 p.2) (by omega) hlt hI2 hl2 (fun b o n1 n2 e => hs2.extBut b o n2 (hm b o (by simpa using n1) (hkeep b o n1 n2 e))) hoff hd2 (Nat.le_trans (stored_length_le ..) (by omega)) fun h3 tk3 hd3 hk3 => ?_
    refine hR h3 tk3 ?_ fun b o n1 n2 e => hk3 b o n1 n2 (hs2.extBut b o n2 (hm b o (by simpa using n1) e))
    have hlt' : i < ps.length := by omega
    rw [List.drop_eq_getElem_cons hlt']
    have : ps[i] = p := by rw [List.getElem?_eq_getElem hlt'] at hp; exact Option.some.inj hp
    rw [this]
    exact hd3
theorem dict_pairs {s : Shared} {l : Addr} {vs : List Value} {n : Nat} {ps : List (Str × Value)} {Q : Value → Shared → Prop} (hh : A.handled = none) (hl : s.heap.get? l = some (listOf vs.toArray n))
    (hps : ∀ (i : Nat) (v : Value), vs[i]? = some v → ∃ p, ps[i]? = some p ∧ PairAt s.heap v p) (hlen : ps.length = vs.length) (hz : vs.length ≤ sizeLine)
    (h : ∀ h' tk, h'.DictOf (PySem.strKind prog w) s.heap.objs.size (storeAll [] ps) → Kept s.heap h' → Q (.ref s.heap.objs.size) { s with heap := h', toks := tk }) :
    wpAny (model prog w) A (call (.type "dict") [.ref l]) Q E s := by
  refine callType_codes (Q₁ := fun obj s₁ => obj = .ref s.heap.objs.size ∧ s₁ = { s with heap := s.heap.push { cls := .type "dict", data := .dict #[] } }) F.kt_called_dict (F.kt_typeCall_dict_1 _) F.entry_dict_init (kt_code_dict_new _ ⟨rfl, rfl⟩) ?_
  rintro obj s₁ ⟨rfl, rfl⟩
  have hnew : (s.heap.push { cls := .type "dict", data := .dict #[] }).DictOf (PySem.strKind prog w) s.heap.objs.size [] := Heap.DictOf.new s.heap
  have up1 : Kept s.heap (s.heap.push { cls := .type "dict", data := .dict #[] }) := fun b o e => Heap.get?_push_of_some _ e
  have hl1 := up1 _ _ hl
  refine ⟨hnew.typeIs, F.args_dict_init_2 _ _, ?_⟩
  unfold Builtin.«dict.__init__»
  refine wpAny_bind ?_
  unfold Builtin.Dict.selfAndRest
  refine wpAny_bind (wpAny_notOrdered_dict hnew.typeIs ?_)
  show wpAny _ _ (pure (s.heap.objs.size, [Value.ref l])) _ _ _
  refine wpAny_pure ?_
  show wpAny _ _ (Builtin.Dict.updateFrom "dict.__init__" s.heap.objs.size (.ref l) [] .none) _ _ _
  unfold Builtin.Dict.updateFrom
  refine wpAny_bind (wpAny_typeOf (T := "list") ⟨_, hl1, rfl⟩ ?_)
  rw [if_pos (by decide)]
  refine wpAny_bind (miss_keys hl1 (by simpa using hh) fun h2 tk2 k2 => ?_)
  rw [if_pos (show (none : Option Value).isNone = true from rfl)]
  refine wpAny_bind (wpAny_rule ?_)
  have hl2 := k2 _ _ hl1
  have hD2 : h2.DictOf (PySem.strKind prog w) s.heap.objs.size [] := by
    obtain ⟨o, es, ep, ho, q⟩ := hnew
    exact ⟨o, es, ep, k2 _ _ ho, q⟩
  refine wpAny_bind (wpAny_pyIter_list (items := vs.toArray) ⟨_, hl2, rfl, n, rfl⟩ ?_)
  have hls : l < s.heap.objs.size := Heap.lt_size hl
  have hDs : s.heap.objs.size < h2.objs.size := by
    obtain ⟨o, es, ep, ho, q⟩ := hD2
    exact Heap.lt_size ho
  have up3 : Kept h2 (h2.push { cls := .type "list_iterator", data := .fields #[.ref l, .int 0 0] }) := fun b o e => Heap.get?_push_of_some _ e
  refine wpAny_pure ⟨plainId_quiet plain_upd_loop _, ?_⟩
  have e0 : rawInt 0 = rawInt ((0 : Nat) : Int) := rfl
  show codeAny _ A.in1 (.builtin "dict.update.loop" ⟨[.ref s.heap.objs.size, .ref h2.objs.size, rawInt 0, .none], []⟩) _ _
  rw [e0]
  refine upd_loop (items := vs.toArray) (ps := ps) (ax := l) (by simpa using hh) (Nat.ne_of_lt (Nat.lt_trans hls hDs)) (Nat.ne_of_lt hDs) (Nat.ne_of_gt hls) (by simpa using hz) s.heap (fun i v e => hps i v (by simpa using e)) (by simpa using hlen) _ 0 _ [] rfl (Nat.zero_le _)
    ⟨_, Heap.get?_push_size _ rfl, rfl, rfl⟩ ⟨_, up3 _ _ hl2, rfl, n, rfl⟩ (fun b o _ _ e => up3 _ _ (k2 _ _ (up1 _ _ e))) (fun i v r e1 e2 => ?_) (by obtain ⟨o, es, ep, ho, q⟩ := hD2; exact ⟨o, es, ep, up3 _ _ ho, q⟩) (Nat.zero_le _) fun h' tk hd hk => ⟨rfl, h h' tk ?_ ?_⟩
  · subst e2
    obtain ⟨p, _, r', t, n', e3, e4⟩ := hps i _ (by simpa using e1)
    cases e3
    have := Heap.lt_size e4
    exact ⟨Nat.ne_of_lt (Nat.lt_trans this hDs), Nat.ne_of_lt this⟩
  · rw [List.drop_zero] at hd; exact hd
  · intro b o e
    have := Heap.lt_size e
    exact hk b o (Nat.ne_of_lt (Nat.lt_trans this hDs)) (Nat.ne_of_lt this) (up3 _ _ (k2 _ _ (up1 _ _ e)))
end
end
section
local macro_rules | `(tactic| walk_at "call ref") => `(tactic| refine Stop.out ?_)
section
variable {prog : Program} {w : World} {A : Around} {h₀ : Heap} {L : Addr} {m : Str → Option Value} {env : Env}
/-- binding two names to the items of a tuple that stands before the call -/
noncomputable def BdB (x y : Str) (v : Value) (_ : List (Addr × Obj)) (m₂ : Str → Option Value) : Prop := ∃ (v₁ v₂ : Value), m₂ x = some v₁ ∧ m₂ y = some v₂
theorem mbind_pairB {x y : Str} {px py tp : Pos} {x1 : Nat} {scope : Scope} {cl : List (Str × Addr)} {I ax : Addr} {its : Array Value} {S : List (Addr × Obj) → Prop} (hh : A.handled = none) (hkind : scope.kind = .function) (hx : scope.names.lookup x = some .local) (hy : scope.names.lookup y = some .local) (hxy : x ≠ y)
    (hS : ∀ (i : Nat) (v : Value), its[i]? = some v → ∃ (t : Addr) (v₁ v₂ : Value) (nt : Nat), v = .ref t ∧ h₀.get? t = some { cls := .type "tuple", data := .seq #[v₁, v₂] nt }) :
    MBind prog w A h₀ L m env scope cl (.Tuple [.Name x px, .Name y py] x1 tp) I (fun i v => its[i]? = some v) S (fun i h => h.IsListIter I ax i ∧ h.IsList ax its) (BdB x y) := by
  intro i v nx C m' s' Q E' hP hSn hn F N hst k
  obtain ⟨t, v₁, v₂, nt, rfl, hmem⟩ := hS i v hP
  refine wpAny_letOwnedTupleGo_listiter hst.1 ?_
  have ht : IsTup s'.heap t #[v₁, v₂] := ⟨_, F.keep _ _ hmem, rfl, nt, rfl⟩
  refine assign_Tuple_tuple hh ht rfl rfl fun h₅ he => ?_
  have he' : ∀ b o, s'.heap.get? b = some o → h₅.get? b = some o := fun b o e => he b o (Nat.ne_of_lt (Heap.lt_size e)) e
  refine assignInOrder_cons (wpAny_assign_Name (wpAny_storeName_local (lookup_relabel_local hx) (hn.at' fun o e => he' _ o e) (fun h₆ hn₆ hs₆ => ?_) (by simp [compEnvC, relabel, hkind])))
  refine assignInOrder_cons (wpAny_assign_Name (wpAny_storeName_local (lookup_relabel_local hy) hn₆ (fun h₃ hn₃ hs₃ => ?_) (by simp [compEnvC, relabel, hkind])))
  refine assignInOrder_nil ?_
  exact k h₃ _ _ hn₃ ⟨v₁, v₂, by simp [hxy], by simp⟩ fun b o hb e => hs₃.extBut b o hb (hs₆.extBut b o hb (he' b o e))
end
theorem keys_ctr {w : World} {mean : ExcName → Option Value} {mg mb : Str → Option Value} (P d l : Addr) (tk : Tok) (vs : List Value) (n : Nat) (its : List (Str × Str)) (hne : P ≠ d ∧ P ≠ l ∧ d ≠ l) (hits : OkL its) :
    Ctr w mean mg mb 6 205 [.ref P] [] (hdLed w P d l tk vs n) (fun g => LinesAt g vs its) (fun g h v => (∀ p ∈ hdLed w P d l tk vs n, h.get? p.1 = some p.2) ∧ ∃ (r : Addr) (ys : List Value) (n' : Nat), v = .ref r ∧ (g.get? r = none ∧ r ≠ P ∧ r ≠ d ∧ r ≠ l) ∧ h.get? r = some (listOf ys.toArray n') ∧ ys.length = its.length) := by
  intro dp un gd fr base s Q E H hh hp ret
  obtain ⟨B, X, T, hd, hu⟩ := H
  refine' enterM _ X (Top.nolimit T) hh ?k6 ?k7 ?k8 ?k9 ?kB ?_ ?c2 ?c3 ?c4 ?c5
  case k6 => k_is
  case k7 => k_is
  case k8 => ktr_room
  case k9 => exact BindsTo.of_eq rfl
  case c5 => decide
  case kB => exact locs rfl
  case c2 => exact rfl
  case c3 => exact rfl
  case c4 => exact rfl
  k_whole
  intro L h₁ hL F N hlt
  (try dsimp only)
  (try k_fold)
  dsimp only [hdLed] at N
  k_steps
  unfold Stop
  rename Fr _ _ _ _ => F
  rename News _ _ _ _ => N
  refine' mc_eval (cl := []) F ?c1 ?c2 ?c3 ?c4 ?c5 ?c6
  case c1 => rfl
  case c2 => decide
  case c3 => rfl
  case c4 => decide
  case c6 => intro _; rfl
  case c5 =>
    k_steps
    unfold Stop
    rename Fr _ _ _ _ => F
    rename News _ _ _ _ => N
    refine' mc_list (its := vs.toArray) (Bd := BdB (Str.ofString "k") (Str.ofString "v")) (fun _ => True) (fun i ys nx => nx = hdLed w P d l tk vs n ∧ ys.length = i) (hdLed w P d l tk vs n) rfl ?d1 ?d2 F N ?d4 trivial ?d5 ?d6 ⟨rfl, rfl⟩ ?d7
    case d1 => exact .inr ⟨_, List.Mem.tail _ (List.Mem.tail _ (List.Mem.head _)), rfl, _, rfl⟩
    case d2 => rw [List.size_toArray, hp.1]; exact Nat.le_trans hits.1 (by decide)
    case d4 => exact fun _ h => h
    case d5 =>
      intro I
      refine mbind_pairB rfl rfl rfl rfl (by decide) fun i v e => ?_
      have e' : vs[i]? = some v := by simpa using e
      have hi : i < its.length := by rw [← hp.1]; exact (List.getElem?_eq_some_iff.mp e').1
      obtain ⟨r, t1, t2, n', e1, e2⟩ := hp.2 i its[i] (List.getElem?_eq_getElem hi)
      rw [e'] at e1
      exact ⟨r, _, _, n', Option.some.inj e1, e2⟩
    case d6 =>
      clear F N
      intro x v ys nx I oI C oC D3 m₂ h tk9 E' hx hv hJ hC hb F N off ne _
      obtain ⟨rfl, j2⟩ := hJ
      obtain ⟨v₁, v₂, hb, _⟩ := hb
      refine wpAny_tests_nil ?_
      dsimp only
      rw [if_pos rfl]
      k_steps
      exact mend_same (h := h) F N off ⟨.inr ⟨_, List.Mem.tail _ (List.Mem.tail _ (List.Mem.head _)), rfl, _, rfl⟩, trivial⟩ ⟨rfl, by simp [j2]⟩
    case d7 =>
      clear F N
      intro g ys nx hl9 hJ
      obtain ⟨rfl, j2⟩ := hJ
      unfold MFinE
      intro D2 h tk9 F N off1
      k_steps
      refine ret _ _ _ F.keep ⟨fun p hp => (N p (.tail _ hp)).1, D2, ys, _, rfl, ?_, (N _ (.head _)).1, by rw [j2, List.size_toArray, hp.1]⟩
      have o1 := off1_in off1
      exact ⟨(N _ (.head _)).2.2, Ne.symm (o1 _ (.head _)), Ne.symm (o1 _ (.tail _ (.head _))), Ne.symm (o1 _ (.tail _ (.tail _ (.head _))))⟩
end
section
theorem slicePick_all (vs : List Value) : slicePick vs.toArray none none none = vs.toArray := by
  have e : sliceBounds none none none vs.toArray.size = (((0 : Nat) : Int), ((vs.toArray.size : Nat) : Int), 1) := rfl
  rw [kmk_pick_nat _ e]
  simp
local macro_rules | `(tactic| walk_at "call ref") => `(tactic| refine Stop.out ?_)
theorem items_ctr {w : World} {mean : ExcName → Option Value} {mg mb : Str → Option Value} (P d l : Addr) (tk : Tok) (vs : List Value) (n : Nat) (hne : P ≠ d ∧ P ≠ l ∧ d ≠ l) (hz : vs.length ≤ 50) :
    Ctr w mean mg mb 6 217 [.ref P] [] (hdLed w P d l tk vs n) (fun g => True) (fun g h v => (∀ p ∈ hdLed w P d l tk vs n, h.get? p.1 = some p.2) ∧ ∃ (r : Addr) (n' : Nat), v = .ref r ∧ (g.get? r = none ∧ r ≠ P ∧ r ≠ d ∧ r ≠ l) ∧ h.get? r = some (listOf vs.toArray n')) := by
  intro dp un gd fr base s Q E H hh hp ret
  obtain ⟨B, X, T, hd, hu⟩ := H
  refine' enterM _ X (Top.nolimit T) hh ?k6 ?k7 ?k8 ?k9 ?kB ?_ ?c2 ?c3 ?c4 ?c5
  case k6 => k_is
  case k7 => k_is
  case k8 => ktr_room
  case k9 => exact BindsTo.of_eq rfl
  case c5 => decide
  case kB => exact locs rfl
  case c2 => exact rfl
  case c3 => exact rfl
  case c4 => exact rfl
  k_whole
  intro L h₁ hL F N hlt
  (try dsimp only)
  (try k_fold)
  dsimp only [hdLed] at N
  k_steps
  try dsimp only
  rename Fr _ L _ _ => F9
  rename News _ _ _ _ => N9
  rw [slicePick_all] at N9
  have hLs := F.ns.lt
  have q : ∀ p ∈ hdLed w P d l tk vs n, @Ne Nat (h₁.objs.size + 1) p.1 := fun p hp => Nat.ne_of_gt (Nat.lt_succ_of_lt (Nat.lt_trans (hlt p hp) hLs))
  refine ret _ _ _ F9.keep ⟨fun p hp => (N9 p (.tail _ hp)).1, _, _, rfl, ⟨(N9 _ (.head _)).2.2, q _ (.head _), q _ (.tail _ (.head _)), q _ (.tail _ (.tail _ (.head _)))⟩, (N9 _ (.head _)).1⟩
end
section
theorem owner_filter : Manifest.owners.lookup (String.ofList ['r', 'e', 't', 'l', 'i', 'f'].reverse) = some Manifest.sig_filter := by kernel_rfl
theorem slot_filter_next : Slot "filter" "__next__" "filter.__next__" :=
  .of (owner := "filter") (n := "__next__") (by rw [typeLookup_type, builtinLookup_eq_fast]; kernel_rfl) (by decide +kernel) (by decide +kernel) (by decide +kernel)
    (by first | exact .inl (by decide +kernel) | exact .inr (by decide +kernel)) (by rw [isSubtype_type]; kernel_rfl)
theorem slot_filter_iter : Slot "filter" "__iter__" "filter.__iter__" :=
  .of (owner := "filter") (n := "__iter__") (by rw [typeLookup_type, builtinLookup_eq_fast]; kernel_rfl) (by decide +kernel) (by decide +kernel) (by decide +kernel)
    (by first | exact .inl (by decide +kernel) | exact .inr (by decide +kernel)) (by rw [isSubtype_type]; kernel_rfl)
theorem slot_filter_init : Slot "filter" "__init__" "object.__init__" :=
  .of (owner := "object") (n := "__init__") (by rw [typeLookup_type, builtinLookup_eq_fast]; kernel_rfl) (by decide +kernel) (by decide +kernel) (by decide +kernel)
    (by first | exact .inl (by decide +kernel) | exact .inr (by decide +kernel)) (by rw [isSubtype_type]; kernel_rfl)
theorem entry_filter_next : entryFor table "filter.__next__" = some Builtin.«filter.__next__» := entryFor_of_tree (by kernel_rfl)
theorem entry_filter_new : entryFor table "filter.__new__" = some Builtin.«filter.__new__» := entryFor_of_tree (by kernel_rfl)
theorem entry_filter_iter : entryFor table "filter.__iter__" = some Builtin.«dict_keyiterator.__iter__» :=
  entryFor_alias (id' := "dict_keyiterator.__iter__") (by kernel_rfl) (by first | rfl | decide +kernel) (by decide +kernel) (by kernel_rfl)
theorem args_filter_iter (a : Value) : argsOk "filter.__iter__" ⟨[a], []⟩ := by
  unfold argsOk; rw [signature?_of (id := "filter.__iter__") (n := ['_', '_', 'r', 'e', 't', 'i', '_', '_']) (o := ['r', 'e', 't', 'l', 'i', 'f']) (by kernel_rfl) owner_filter]; kernel_rfl
theorem args_filter_next (a : Value) : argsOk "filter.__next__" ⟨[a], []⟩ := by
  unfold argsOk; rw [signature?_of (id := "filter.__next__") (n := ['_', '_', 't', 'x', 'e', 'n', '_', '_']) (o := ['r', 'e', 't', 'l', 'i', 'f']) (by kernel_rfl) owner_filter]; kernel_rfl
theorem mro_filter : mroOf (.type "filter") = pure [.type "filter", .type "object"] := by rw [mroOf_type]; kernel_rfl
theorem lookup_filter_new : typeLookup (.type "filter") "__new__" = pure (some (.builtin "filter.__new__")) := by rw [typeLookup_type, builtinLookup_eq_fast]; kernel_rfl
theorem called_filter : TypeCalled "filter" "filter.__new__" "object.__init__" :=
  ⟨by decide +kernel, by decide +kernel, ⟨_, _, mro_filter⟩, madeBy_type mro_filter lookup_filter_new (by decide +kernel), by decide +kernel, by rw [isSubtype_type]; kernel_rfl, slot_filter_init⟩
theorem typeCall_filter (a b : Value) : checkTypeCall "filter" ⟨[a, b], []⟩ = pure () := by kernel_rfl
theorem newCall_filter (a b : Value) : checkBuiltinCall "filter.__new__" ⟨[.type "filter", a, b], []⟩ = pure () := by kernel_rfl
theorem plain_filter_next : plainId "filter.__next__" = true := by decide +kernel
theorem plain_filter_new : plainId "filter.__new__" = true := by decide +kernel
theorem sub_filter : isSubtype (.type "filter") (.type "filter") = pure true := by rw [isSubtype_type]; kernel_rfl
theorem init_filter_3 (a b c : Value) : argsOk "object.__init__" ⟨[a, b, c], []⟩ := by unfold argsOk; first | kernel_rfl | (rw [signature?_of (id := "object.__init__") (n := ['_', '_', 't', 'i', 'n', 'i', '_', '_']) (o := ['t', 'c', 'e', 'j', 'b', 'o']) (by kernel_rfl) F.owner_object]; kernel_rfl)
noncomputable abbrev filObj (I : Addr) : Obj := { cls := .type "filter", data := .fields #[.none, .ref I] }
end
section
section
variable {prog : Program} {w : World} {A : Around} {E : Value → Shared → Prop} {s : Shared} {K : Type} [DecidableEq K] {knd : KeyKind prog w K}
theorem vnext_item {it d : Addr} {i ep : Nat} {kvs : List (K × Value)} {k : K} {v : Value} {Q : Value → Shared → Prop} (hit : s.heap.IsValIter it d i kvs.length ep) (hm : s.heap.DictAt knd d kvs ep) (hx : kvs[i]? = some (k, v))
    (hQ : ∀ h', h'.IsValIter it d (i + 1) kvs.length ep → Heap.SameBut it s.heap h' → Q v { s with heap := h' }) : wpAny (model prog w) A (call (.builtin "dict_valueiterator.__next__") [.ref it]) Q E s := by
  obtain ⟨o, ho, hc, hd⟩ := id hit
  obtain ⟨od, es, hod, hcd, hdd, hk, hp, hn⟩ := id hm
  have hlen : es.size = kvs.length := by rw [← hp.length]; simp
  have hi : i < kvs.length := (List.getElem?_eq_some_iff.mp hx).1
  have hie : i < es.size := by omega
  have hv : es[i].val = v := (hp.get? (e := es[i]) (by simp [hie]) hx).2
  refine wpAny_call_entry F.slot_dict_valueiterator_next hit.typeIs F.entry_dict_valueiterator_next ?_ (F.args_dict_valueiterator_next_1 _)
  have hit2 : (s.heap.update it (Obj.mapFields (·.setIfInBounds 1 (rawInt ((i : Int) + 1))))).IsValIter it d (i + 1) kvs.length ep :=
    ⟨_, Heap.get?_update_self _ ho (Obj.isFreed_of_fields (Obj.data_mapFields hd _)), (Obj.cls_mapFields ..).trans hc, by rw [Obj.data_mapFields hd]; simp [rawInt]⟩
  refine wpAny_bind (wpAny_pure (wpAny_bind (wpAny_bind (wpAny_bind (wpAny_typeNameOfWhole_valiter hit.typeIs (wpAny_pure (wpAny_bind (wpAny_fieldsOf ho hd ?_))))))))
  simp only [show Builtin.Dict_items.ownsTuple "dict_valueiterator" = false by decide, Bool.false_eq_true, if_false]
  show wpAny _ _ (if (Value.ref d == Value.none) = true then _ else _) _ _ s
  rw [if_neg (show ¬ ((Value.ref d == Value.none) = true) from Bool.false_ne_true)]
  refine wpAny_bind (wpAny_pure (wpAny_bind (wpAny_dictEntries hod hdd ?_)))
  rw [if_neg (by rw [hlen]; simp)]
  refine wpAny_bind (wpAny_pure (wpAny_bind (wpAny_dictEpoch hod hdd ?_)))
  rw [if_neg (by simp)]
  refine wpAny_pure ?_
  simp only [show ¬ ((i : Int) < 0) from by omega, if_false, Int.toNat_natCast, Array.getElem?_eq_getElem hie]
  refine wpAny_bind (wpAny_bind (wpAny_typeNameOfWhole_valiter hit.typeIs (wpAny_pure (wpAny_bind (wpAny_isOneOf_valiter hit.typeIs ?_)))))
  show wpAny _ _ (setField (.ref it) 1 (rawInt ((i : Int) + 1)) >>= _) _ _ s
  refine wpAny_bind (wpAny_setField ho hd (by simp) (wpAny_bind (wpAny_holding ?_)))
  refine wpAny_bind (wpAny_isOneOf_valiter (s := { s with heap := s.heap.update it (Obj.mapFields (·.setIfInBounds 1 (rawInt ((i : Int) + 1)))) }) hit2.typeIs ?_)
  refine wpAny_bind (wpAny_isOneOf_valiter (s := { s with heap := s.heap.update it (Obj.mapFields (·.setIfInBounds 1 (rawInt ((i : Int) + 1)))) }) hit2.typeIs ?_)
  show wpAny _ _ (pure es[i].val) _ _ _
  exact wpAny_pure (wpAny_pure ⟨_, rfl, hv ▸ hQ _ hit2 (Heap.SameBut.update ..)⟩)
theorem vnext_end {it d : Addr} {i ep : Nat} {kvs : List (K × Value)} {Q : Value → Shared → Prop} (hh : A.handled = none) (hit : s.heap.IsValIter it d i kvs.length ep) (hm : s.heap.DictAt knd d kvs ep) (hx : kvs.length ≤ i)
    (hE : ∀ h' e, Heap.ExtBut it s.heap h' → (∃ o, h'.get? e = some o ∧ o.cls = .type "StopIteration") → E (.ref e) { s with heap := h' }) : wpAny (model prog w) A (call (.builtin "dict_valueiterator.__next__") [.ref it]) Q E s := by
  obtain ⟨o, ho, hc, hd⟩ := id hit
  obtain ⟨od, es, hod, hcd, hdd, hk, hp, hn⟩ := id hm
  have hlen : es.size = kvs.length := by rw [← hp.length]; simp
  refine wpAny_call_entry F.slot_dict_valueiterator_next hit.typeIs F.entry_dict_valueiterator_next ?_ (F.args_dict_valueiterator_next_1 _)
  refine wpAny_bind (wpAny_pure (wpAny_bind (wpAny_bind (wpAny_bind (wpAny_typeNameOfWhole_valiter hit.typeIs (wpAny_pure (wpAny_bind (wpAny_fieldsOf ho hd ?_))))))))
  simp only [show Builtin.Dict_items.ownsTuple "dict_valueiterator" = false by decide, Bool.false_eq_true, if_false]
  show wpAny _ _ (if (Value.ref d == Value.none) = true then _ else _) _ _ s
  rw [if_neg (show ¬ ((Value.ref d == Value.none) = true) from Bool.false_ne_true)]
  refine wpAny_bind (wpAny_pure (wpAny_bind (wpAny_dictEntries hod hdd ?_)))
  rw [if_neg (by rw [hlen]; simp)]
  refine wpAny_bind (wpAny_pure (wpAny_bind (wpAny_dictEpoch hod hdd ?_)))
  rw [if_neg (by simp)]
  refine wpAny_pure ?_
  simp only [show ¬ ((i : Int) < 0) from by omega, if_false, Int.toNat_natCast, Array.getElem?_eq_none (show es.size ≤ i by omega)]
  refine wpAny_bind (wpAny_bind (wpAny_typeNameOfWhole_valiter hit.typeIs (wpAny_pure ?_)))
  show wpAny _ _ (setField (.ref it) 0 .none >>= _) _ _ s
  refine wpAny_bind (wpAny_setField ho hd (by simp) ?_)
  show wpAny _ _ (newExc (.type "StopIteration") [] >>= _) _ _ _
  refine wpAny_bind ?_
  simp only [newExc, newTuple]
  refine wpAny_bind (wpAny_newObj_type ?_ (by size_fits))
  refine wpAny_bind (m := firstArgMember _ _) (wpAny_of_eq (a := Value.none) (by first | rfl | (simp only [firstArgMember]; rfl)) (wpAny_newObj_type ?_ (by size_fits)))
  simp only [raiseNew]
  refine wpAny_bind (wpAny_handled ?_)
  rw [show A.in1.handled = none from hh]
  refine wpAny_bind (wpAny_pure (wpAny_throw ?_))
  exact hE _ _ (((Heap.SameBut.update ..).extBut.push _).push _) ⟨_, Heap.get?_push_size _ rfl, rfl⟩
end
end
section
noncomputable def IoN (v : Value) : Option Int → Prop
  | none => v = .none
  | some m => ∃ t, v = .int m t
section
variable {prog : Program} {w : World} {A : Around} {E : Value → Shared → Prop} {K : Type} [DecidableEq K] {knd : KeyKind prog w K}
theorem fil_loop {G I d : Addr} {ep : Nat} {kvs : List (K × Value)} {os : List (Option Int)} (hh : A.handled = none) (hFI : G ≠ I) (hdI : d ≠ I) (hl : os.length = kvs.length)
    (hv : ∀ (i : Nat) (k : K) (v : Value), kvs[i]? = some (k, v) → ∃ x, os[i]? = some x ∧ IoN v x) (h0 : ∀ m, some m ∈ os → m ≠ 0) {R : Result → Shared → Prop} :
    ∀ (n j : Nat) (s : Shared), kvs.length - j = n → s.heap.get? G = some (filObj I) → s.heap.IsValIter I d j kvs.length ep → s.heap.DictAt knd d kvs ep →
      (∀ m t j' h', j < j' → j' ≤ kvs.length → (os.drop j).filterMap id = m :: (os.drop j').filterMap id → h'.IsValIter I d j' kvs.length ep → Heap.SameBut I s.heap h' → R (.ok (.ret (.int m t))) { s with heap := h' }) →
      (∀ h' e, (os.drop j).filterMap id = [] → Heap.ExtBut I s.heap h' → (∃ o, h'.get? e = some o ∧ o.cls = .type "StopIteration") → R (.error (.ref e)) { s with heap := h' }) →
      codeAny (model prog w) A (.builtin "filter.__next__" ⟨[.ref G], []⟩) R s := by
  intro n
  induction n with
  | zero =>
    intro j s hn hF hit hm hitem hdone
    refine codeAny_builtin entry_filter_next ?_
    rw [Around.under_plainId plain_filter_next _]
    refine wpAny_bind (wpAny_pure (wpAny_bind (wpAny_field hF rfl (x := .none) rfl ?_)))
    show wpAny _ _ (field (.ref G) 1 >>= _) _ _ _
    refine wpAny_bind (wpAny_field hF rfl (x := .ref I) rfl ?_)
    refine wpAny_bind (wpAny_callSpecial?_slot (name := Str.ofString "__next__") hit.typeIs F.slot_dict_valueiterator_next (vnext_end (by simpa using hh) hit hm (by omega) fun h' e he hx => ?_))
    exact hdone h' e (by rw [List.drop_of_length_le (by omega)]; rfl) he hx
  | succ n ih =>
    intro j s hn hF hit hm hitem hdone
    have hj : j < kvs.length := by omega
    obtain ⟨⟨k, v⟩, hkv⟩ : ∃ p, kvs[j]? = some p := ⟨kvs[j], List.getElem?_eq_getElem hj⟩
    obtain ⟨x, hx, hio⟩ := hv j k v hkv
    refine codeAny_builtin entry_filter_next ?_
    rw [Around.under_plainId plain_filter_next _]
    refine wpAny_bind (wpAny_pure (wpAny_bind (wpAny_field hF rfl (x := .none) rfl ?_)))
    show wpAny _ _ (field (.ref G) 1 >>= _) _ _ _
    refine wpAny_bind (wpAny_field hF rfl (x := .ref I) rfl ?_)
    refine wpAny_bind (wpAny_callSpecial?_slot (name := Str.ofString "__next__") hit.typeIs F.slot_dict_valueiterator_next (vnext_item hit hm hkv fun h' hit' hs' => ?_))
    have hdrop : os.drop j = x :: os.drop (j + 1) := by
      have hj' : j < os.length := by omega
      rw [List.drop_eq_getElem_cons hj']
      rw [List.getElem?_eq_getElem hj'] at hx
      rw [Option.some.inj hx]
    refine wpAny_bind (wpAny_holding ?_)
    rw [if_pos (by decide)]
    refine wpAny_bind (wpAny_rule ?_)
    cases x with
    | none =>
      have e : v = .none := hio
      subst e
      show wpAny _ _ (pure false) _ _ _
      refine wpAny_pure ?_
      rw [if_neg Bool.false_ne_true]
      refine wpAny_pure ⟨plainId_quiet plain_filter_next _, ih (j + 1) _ (by omega) (hs'.extBut G _ hFI hF) hit' (hm.extBut hs'.extBut hdI) (fun m t j' h2 a b c e2 s2 => ?_) fun h2 e c s2 hx2 => ?_⟩
      · exact hitem m t j' h2 (by omega) b (by rw [hdrop]; exact c) e2 (hs'.trans s2)
      · exact hdone h2 e (by rw [hdrop]; exact c) (fun b o hb e => s2 b o hb (hs'.extBut b o hb e)) hx2
    | some m =>
      obtain ⟨t, rfl⟩ := hio
      refine P.truthy_int ?_
      have hm0 := h0 m (List.mem_of_getElem? hx)
      rw [if_pos (by simpa using hm0)]
      exact wpAny_pure (hitem m t (j + 1) h' (Nat.lt_succ_self _) hj (by rw [hdrop]; rfl) hit' hs')
end
end
section
section
variable {prog : Program} {w : World} {A : Around} {E : Value → Shared → Prop} {K : Type} [DecidableEq K] {knd : KeyKind prog w K}
theorem fil_walks {G I d : Addr} {ep : Nat} {kvs : List (K × Value)} {os : List (Option Int)} (hh : A.handled = none) (hGI : G ≠ I) (hdI : d ≠ I) (hl : os.length = kvs.length)
    (hv : ∀ (i : Nat) (k : K) (v : Value), kvs[i]? = some (k, v) → ∃ x, os[i]? = some x ∧ IoN v x) (h0 : ∀ m, some m ∈ os → m ≠ 0) :
    Walks prog w A G [G, I, d] [I] (os.filterMap id).length (fun i v => ∃ m t, (os.filterMap id)[i]? = some m ∧ v = .int m t)
      (fun i h => h.get? G = some (filObj I) ∧ h.DictAt knd d kvs ep ∧ ∃ j, j ≤ kvs.length ∧ h.IsValIter I d j kvs.length ep ∧ (os.drop j).filterMap id = (os.filterMap id).drop i) where
  sub := fun b hb => by rw [List.mem_singleton.mp hb]; exact .tail _ (.head _)
  frame := fun i h h' st hk => by
    obtain ⟨a, b, j, c, e, f⟩ := st
    exact ⟨hk G (.head _) _ a, b.at' fun o e => hk d (.tail _ (.tail _ (.head _))) o e, j, c, e.at fun o e => hk I (.tail _ (.head _)) o e, f⟩
  item := fun i s Q E hi st hQ => by
    obtain ⟨a, b, j, c, e, f⟩ := st
    have hT : s.TypeIs (.ref G) "filter" := ⟨_, a, rfl⟩
    have hne : (os.drop j).filterMap id ≠ [] := by
      rw [f]; intro q
      have := congrArg List.length q
      rw [List.length_drop] at this; simp at this; omega
    unfold pyNext
    refine wpAny_bind (wpAny_attempt (wpAny_callSpecial?_slot (name := Str.ofString "__next__") hT slot_filter_next
      (wpAny_call (codeAny_call_builtin_code (plainId_quiet plain_filter_next _) (slot_filter_next.check _ _ _ _ _ _ _ _ hT (args_filter_next _)
        (fil_loop hh hGI hdI hl hv h0 _ j s rfl a e b (fun m t j' h' c1 c2 c3 c4 c5 => ?_) fun h' x c1 c2 c3 => absurd c1 hne))))))
    refine wpAny_pure (hQ _ h' s.toks ⟨m, t, ?_, rfl⟩ ⟨c5.extBut G _ hGI a, b.extBut c5.extBut hdI, j', c2, c4, ?_⟩ fun b o hb e => c5.extBut b o (by simpa using hb) e)
    · rw [f] at c3
      have := congrArg (fun l => l[0]?) c3
      simpa using this
    · rw [f] at c3
      have := congrArg List.tail c3
      rw [List.tail_drop] at this
      exact this.symm
  done := fun s Q E st hQ => by
    obtain ⟨a, b, j, c, e, f⟩ := st
    have hT : s.TypeIs (.ref G) "filter" := ⟨_, a, rfl⟩
    have hnil : (os.drop j).filterMap id = [] := by rw [f, List.drop_length]
    unfold pyNext
    refine wpAny_bind (wpAny_attempt (wpAny_callSpecial?_slot (name := Str.ofString "__next__") hT slot_filter_next
      (wpAny_call (codeAny_call_builtin_code (plainId_quiet plain_filter_next _) (slot_filter_next.check _ _ _ _ _ _ _ _ hT (args_filter_next _)
        (fil_loop hh hGI hdI hl hv h0 _ j s rfl a e b (fun m t j' h' c1 c2 c3 c4 c5 => ?_) fun h' x c1 c2 c3 => ?_))))))
    · rw [hnil] at c3; cases c3
    · obtain ⟨o, ho, hc⟩ := c3
      refine wpAny_bind (wpAny_isInstance (T := "StopIteration") (b := true) ⟨o, ho, hc⟩ isSubtype_stop ?_)
      exact wpAny_pure (hQ h' s.toks fun b o hb e => c2 b o (by simpa using hb) e)
  self := fun i s Q E st hQ => by
    have hT : s.TypeIs (.ref G) "filter" := ⟨_, st.1, rfl⟩
    refine wpAny_pyIter_slot hT slot_filter_iter (wpAny_call_entry slot_filter_iter hT entry_filter_iter ?_ (args_filter_iter _))
    show wpAny _ _ (ret (.ref G)) _ _ s
    exact wpAny_pure ⟨_, rfl, "filter", _, hT, slot_filter_next.lookup, hQ⟩
theorem call_filter {s : Shared} {v d : Addr} {kvs : List (K × Value)} {ep : Nat} {Q : Value → Shared → Prop} (hv : s.heap.IsValuesView v d) (hm : s.heap.DictAt knd d kvs ep)
    (h : ∀ h' G I, s.heap.get? G = none → s.heap.get? I = none → G ≠ I → h'.get? G = some (filObj I) → h'.IsValIter I d 0 kvs.length ep → Kept s.heap h' → Q (.ref G) { s with heap := h' }) :
    wpAny (model prog w) A (call (.type "filter") [.none, .ref v]) Q E s := by
  refine callType_codes (Q₁ := fun obj s₁ => ∃ h' G I, obj = .ref G ∧ s₁ = { s with heap := h' } ∧ s.heap.get? G = none ∧ s.heap.get? I = none ∧ G ≠ I ∧ h'.get? G = some (filObj I) ∧ h'.IsValIter I d 0 kvs.length ep ∧ Kept s.heap h') called_filter (typeCall_filter _ _) F.entry_object_init ?_ ?_
  · refine codeAny_call_builtin plain_filter_new entry_filter_new (wpAny_of_eq (newCall_filter _ _) ?_)
    have hsub := sub_filter
    have none_of : ∀ (h : Heap) (b : Addr), h.objs.size ≤ b → h.get? b = none := fun h b hb => by
      cases q : h.get? b with
      | none => rfl
      | some o => exact absurd (Heap.lt_size q) (Nat.not_lt.mpr hb)
    unfold Builtin.«filter.__new__»
    refine wpAny_bind ?_
    show wpAny _ _ (Builtin.SmallTypes.newClass "filter" ⟨[.type "filter", .none, .ref v], []⟩) _ _ _
    unfold Builtin.SmallTypes.newClass
    refine wpAny_bind (wpAny_pure ?_)
    simp only [Bool.not_true, Bool.false_eq_true, if_false]
    refine wpAny_bind (wpAny_of_eq hsub ?_)
    simp only [Bool.not_true, Bool.false_eq_true, if_false]
    refine wpAny_pure ?_
    refine wpAny_bind (wpAny_pure ?_)
    refine wpAny_bind (wpAny_pure ?_)
    refine wpAny_bind (wpAny_pyIter_values hv hm ?_)
    show wpAny _ _ (newObj (.type "filter") (.fields #[.none, .ref s.heap.objs.size]) >>= _) _ _ _
    refine wpAny_bind (wpAny_newObj_type ?_)
    refine wpAny_pure ⟨_, _, _, rfl, rfl, none_of _ _ ?_, none_of s.heap s.heap.objs.size (Nat.le_refl _), ?_, Heap.get?_push_size _ rfl, ⟨_, Heap.get?_push_of_some _ (Heap.get?_push_size _ rfl), rfl, rfl⟩, fun b o e => Heap.get?_push_of_some _ (Heap.get?_push_of_some _ e)⟩
    · show s.heap.objs.size ≤ (s.heap.push _).objs.size
      rw [Heap.size_push]; exact Nat.le_succ _
    · show (s.heap.push _).objs.size ≠ s.heap.objs.size
      rw [Heap.size_push]; exact Nat.succ_ne_self _
  · rintro obj s₁ ⟨h', G, I, rfl, rfl, a, b, c, e, f, k⟩
    have hT : ({ s with heap := h' } : Shared).TypeIs (.ref G) "filter" := ⟨_, e, rfl⟩
    refine ⟨hT, init_filter_3 _ _ _, ?_⟩
    exact object_init_meets slot_filter_init.lookup called_filter.made (by decide) prog w A.in1 _ _ ⟨hT, rfl, h h' G I a b c e f k⟩
end
end
section
noncomputable def bestS (o : Option Int) (m : Int) : Option Int := match o with
  | none => some m
  | some b => if m > b then some m else some b
noncomputable def maxO (l : List Int) : Option Int := l.foldl bestS none
theorem maxO_take {l : List Int} {i : Nat} {m : Int} (h : l[i]? = some m) : maxO (l.take (i + 1)) = bestS (maxO (l.take i)) m := by
  unfold maxO
  rw [List.take_add_one, h, List.foldl_append]; rfl
noncomputable def BestIs (o : Option Int) (old : Array Value) : Prop := match o with
  | none => old = #[]
  | some m => ∃ t, old = #[.int m t, .int m t]
noncomputable def DfltIs (dv : Value) (o : Option Int) (v : Value) : Prop := match o with
  | none => v = dv
  | some m => ∃ t, v = .int m t
section
variable {prog : Program} {w : World} {A : Around} {E : Value → Shared → Prop}
theorem gt_ints {m b : Int} {t u : Tok} {s : Shared} {Q : Value → Shared → Prop} (h : Q (.bool (decide (m > b))) s) : wpAny (model prog w) A (richCompare .Gt (.int m t) (.int b u)) Q E s :=
  CmpOf.ints_gt (prog := prog) (w := w) (A := A) (P := fun i v => ∃ t, v = .int ((fun i : Nat => if i = 0 then m else b) i) t) _ (fun _ _ h => h) 0 1 (.int m t) (.int b u) s Q E ⟨t, rfl⟩ ⟨u, rfl⟩ h
theorem maxd_loop {I : Addr} {fp wr : List Addr} {gs : List Int} {St : Nat → Heap → Prop} (W : Walks prog w A.in1 I fp wr gs.length (fun i v => ∃ m t, gs[i]? = some m ∧ v = .int m t) St) (S : Addr) (hSf : S ∉ fp) (dv : Value) {R : Result → Shared → Prop} :
    ∀ (k i : Nat) (s : Shared) (old : Array Value) (c : Nat), gs.length - i = k → i ≤ gs.length → St i s.heap → s.heap.get? S = some { cls := .type "list", dict := none, data := .seq old c, slots := #[] } → BestIs (maxO (gs.take i)) old →
      (∀ v h' tk, DfltIs dv (maxO gs) v → (∀ b o, b ∉ wr → b ≠ S → s.heap.get? b = some o → h'.get? b = some o) → R (.ok (.ret v)) { s with heap := h', toks := tk }) →
      codeAny (model prog w) A (.builtin "max.loop" ⟨[.ref I, .none, .ref S], [(Str.ofString "default", dv)]⟩) R s := by
  have hSw : S ∉ wr := fun h => hSf (W.sub _ h)
  have hname : (toString "max" ++ toString ".loop" : String) = "max.loop" := by decide
  intro k
  induction k with
  | zero =>
    intro i s old c hk hi hst hS hb hR
    have hin : i = gs.length := by omega
    subst hin
    rw [List.take_length] at hb
    refine codeAny_builtin F.entry_max_loop ?_
    rw [Around.under_plainId F.plain_max_loop _]
    show wpAny _ A.in1 (seqItems? (.ref S) >>= _) _ _ s
    refine wpAny_bind (wpAny_seqItems hS rfl ?_)
    show wpAny _ A.in1 (tryCatch (pyNext (.ref I)) _ >>= _) _ _ s
    refine wpAny_bind (wpAny_tryCatch (W.done s _ _ hst fun h' tk hm => ?_))
    have hS' := hm S _ hSw hS
    cases hmx : maxO gs with
    | none =>
      rw [hmx] at hb
      have e : old = #[] := hb
      subst e
      refine wpAny_bind (wpAny_rule (wpAny_pure ?_))
      exact hR dv h' tk (by rw [hmx]; rfl) fun b o hb _ e => hm b o hb e
    | some m =>
      rw [hmx] at hb
      obtain ⟨t, rfl⟩ := hb
      show wpAny _ A.in1 (updateSeq S (fun _ => #[]) >>= _) _ _ _
      refine wpAny_bind ?_
      refine wpAny_updateSeq hS' rfl (wpAny_bind (wpAny_letGo (wpAny_pure ?_)))
      exact hR _ _ _ (by rw [hmx]; exact ⟨t, rfl⟩) fun b o hb hbS e => (Heap.get?_update_other _ _ (Ne.symm hbS)).trans (hm b o hb e)
  | succ k ih =>
    intro i s old c hk hi hst hS hb hR
    have hlt : i < gs.length := by omega
    refine codeAny_builtin F.entry_max_loop ?_
    rw [Around.under_plainId F.plain_max_loop _]
    show wpAny _ A.in1 (seqItems? (.ref S) >>= _) _ _ s
    refine wpAny_bind (wpAny_seqItems hS rfl ?_)
    show wpAny _ A.in1 (tryCatch (pyNext (.ref I)) _ >>= _) _ _ s
    refine wpAny_bind (wpAny_tryCatch (W.item i s _ _ hlt hst fun v h' tk hP hst' hm => ?_))
    obtain ⟨m, t, hg, rfl⟩ := hP
    have hS' := hm S _ hSw hS
    have hmt := maxO_take hg
    cases hmx : maxO (gs.take i) with
    | none =>
      rw [hmx] at hb hmt
      have e : old = #[] := hb
      subst e
      show wpAny _ A.in1 (updateSeq S (fun _ => #[.int m t, .int m t]) >>= _) _ _ _
      refine wpAny_bind (wpAny_updateSeq hS' rfl ?_)
      rw [hname]
      refine wpAny_pure ⟨plainId_quiet F.plain_max_loop _, ih (i + 1) _ #[.int m t, .int m t] _ (by omega) hlt (W.frame _ _ _ hst' fun b hbf o e => ?_) (Heap.get?_update_self _ hS' rfl) (by rw [hmt]; exact ⟨t, rfl⟩) fun v h2 tk2 hd hk2 => ?_⟩
      · exact (Heap.get?_update_other _ _ (fun h : S = b => hSf (by rw [h]; exact hbf))).trans e
      · exact hR v h2 tk2 hd fun b o hb hbS e => hk2 b o hb hbS ((Heap.get?_update_other _ _ (Ne.symm hbS)).trans (hm b o hb e))
    | some b0 =>
      rw [hmx] at hb hmt
      obtain ⟨u, rfl⟩ := hb
      show wpAny _ A.in1 (tryCatch (holding [.int m t, .int m t] (richCompare .Gt (.int m t) (.int b0 u) >>= _)) _ >>= _) _ _ _
      refine wpAny_bind (wpAny_tryCatch (wpAny_holding (wpAny_bind (gt_ints ?_))))
      refine wpAny_bind (wpAny_holding (wpAny_truthy_bool ?_))
      refine wpAny_bind (wpAny_letGo (wpAny_pure ?_))
      by_cases hgt : m > b0
      · simp only [hgt, decide_true, if_true]
        refine wpAny_bind ?_
        refine wpAny_updateSeq hS' rfl (wpAny_bind (wpAny_letGo ?_))
        rw [hname]
        refine wpAny_pure ⟨plainId_quiet F.plain_max_loop _, ih (i + 1) _ #[.int m t, .int m t] _ (by omega) hlt (W.frame _ _ _ hst' fun b hbf o e => ?_) (Heap.get?_update_self _ hS' rfl) (by rw [hmt]; simp only [bestS, hgt, if_true]; exact ⟨t, rfl⟩) fun v h2 tk2 hd hk2 => ?_⟩
        · exact (Heap.get?_update_other _ _ (fun h : S = b => hSf (by rw [h]; exact hbf))).trans e
        · exact hR v h2 tk2 hd fun b o hb hbS e => hk2 b o hb hbS ((Heap.get?_update_other _ _ (Ne.symm hbS)).trans (hm b o hb e))
      · simp only [hgt, decide_false, Bool.false_eq_true, if_false]
        refine wpAny_bind (wpAny_letGo ?_)
        rw [hname]
        refine wpAny_pure ⟨plainId_quiet F.plain_max_loop _, ih (i + 1) _ _ c (by omega) hlt hst' hS' (by rw [hmt]; simp only [bestS, hgt, if_false]; exact ⟨u, rfl⟩) fun v h2 tk2 hd hk2 => ?_⟩
        exact hR v h2 tk2 hd fun b o hb hbS e => hk2 b o hb hbS (hm b o hb e)
end
end
section
theorem check_max_d (a dv : Value) : checkBuiltinCall "max" ⟨[a], [(Str.ofString "default", dv)]⟩ = pure () := by kernel_rfl
section
variable {prog : Program} {w : World} {A : Around} {E : Value → Shared → Prop}
theorem max_def {s : Shared} {G : Addr} {fp wr : List Addr} {gs : List Int} {St : Nat → Heap → Prop} {dv : Value} {Q : Value → Shared → Prop} (W : Walks prog w A.in1.in1 G fp wr gs.length (fun i v => ∃ m t, gs[i]? = some m ∧ v = .int m t) St) (hst : St 0 s.heap) (hfp : ∀ b ∈ fp, b < s.heap.objs.size)
    (h : ∀ v h' tk, DfltIs dv (maxO gs) v → (∀ b o, b ∉ wr → s.heap.get? b = some o → h'.get? b = some o) → Q v { s with heap := h', toks := tk }) :
    wpAny (model prog w) A (call (.builtin "max") [.ref G] [(Str.ofString "default", dv)]) Q E s := by
  have hname : (toString "max" ++ toString ".loop" : String) = "max.loop" := by decide
  refine wpAny_call (codeAny_call_builtin F.plain_max F.entry_max (wpAny_of_eq (check_max_d _ _) ?_))
  show wpAny _ A.in1 (Builtin.Builtins.bindParams "max" ["key", "default"] 0 ⟨[], [(Str.ofString "default", dv)]⟩ >>= _) _ _ s
  refine wpAny_bind (wpAny_of_eq (show Builtin.Builtins.bindParams "max" ["key", "default"] 0 ⟨[], [(Str.ofString "default", dv)]⟩ = pure [none, some dv] from rfl) ?_)
  refine wpAny_bind (wpAny_pure ?_)
  refine wpAny_bind (wpAny_of_in1 (W.self 0 _ _ _ hst ?_))
  refine wpAny_bind (wpAny_newObj_type ?_)
  rw [hname]
  have hSf : s.heap.objs.size ∉ fp := fun hm => Nat.lt_irrefl _ (hfp _ hm)
  refine wpAny_pure ⟨plainId_quiet F.plain_max_loop _, maxd_loop (A := A) W.of_in1 s.heap.objs.size hSf dv _ 0 _ #[] _ rfl (Nat.zero_le _) (W.frame _ _ _ hst fun b _ o e => Heap.get?_push_of_some _ e) (Heap.get?_push_size _ rfl) rfl fun v h' tk hd hk => ?_⟩
  exact h v h' tk hd fun b o hb e => hk b o hb (Nat.ne_of_lt (Heap.lt_size e)) (Heap.get?_push_of_some _ e)
theorem owner_dv_none : typeLookup (.type "dict_values") "__contains__" = pure none := by rw [typeLookup_type, builtinLookup_eq_fast]; kernel_rfl
theorem plain_contains_iter : plainId "proto.contains_iter" = true := by decide +kernel
theorem entry_contains_iter : entryFor table "proto.contains_iter" = some Builtin.«proto.contains_iter» := entryFor_of_tree (by kernel_rfl)
theorem eq_none_none {s : Shared} {Q : Bool → Shared → Prop} (h : Q true s) : wpAny (model prog w) A (eqBool .none .none) Q E s := by
  unfold eqBool
  repeat (any_goals (first | assumption | wp_step))
theorem eqb_int_none {s : Shared} {m : Int} {t : Tok} {Q : Bool → Shared → Prop} (h : Q false s) : wpAny (model prog w) A (eqBool (.int m t) .none) Q E s := by
  unfold eqBool
  refine wpAny_holding ?_
  rw [if_neg (show ¬ ((Value.int m t == Value.none) = true) from Bool.false_ne_true)]
  show wpAny _ _ (compareOp .Eq (.int m t) .none >>= _) _ _ _
  refine wpAny_bind (PySem.EqNone.eq_int_none ?_)
  show wpAny _ _ (truthy (.bool false)) _ _ _
  exact wpAny_truthy_bool h
theorem cont_loop {K : Type} [DecidableEq K] {knd : KeyKind prog w K} {I d : Addr} {ep : Nat} {kvs : List (K × Value)} {os : List (Option Int)} (hh : A.handled = none) (hdI : d ≠ I) (hl : os.length = kvs.length)
    (hv : ∀ (i : Nat) (k : K) (v : Value), kvs[i]? = some (k, v) → ∃ x, os[i]? = some x ∧ IoN v x) {R : Result → Shared → Prop} :
    ∀ (n j : Nat) (s : Shared), kvs.length - j = n → j ≤ kvs.length → s.heap.IsValIter I d j kvs.length ep → s.heap.DictAt knd d kvs ep →
      (∀ h' tk, (∀ b o, b ≠ I → s.heap.get? b = some o → h'.get? b = some o) → R (.ok (.ret (.bool ((os.drop j).any (·.isNone))))) { s with heap := h', toks := tk }) →
      codeAny (model prog w) A (.builtin "proto.contains_iter" ⟨[.ref I, .none], []⟩) R s := by
  have W := Walks.dictValues (prog := prog) (w := w) (A := A.in1) (knd := knd) (by simpa using hh) I d hdI kvs ep
  intro n
  induction n with
  | zero =>
    intro j s hn hj hit hm hR
    have hjn : j = kvs.length := by omega
    subst hjn
    refine codeAny_builtin entry_contains_iter ?_
    rw [Around.under_plainId plain_contains_iter _]
    show wpAny _ A.in1 (pyNext (.ref I) >>= _) _ _ s
    refine wpAny_bind (W.done s _ _ ⟨hit, hm⟩ fun h' tk hk => ?_)
    refine wpAny_bind (wpAny_rule (wpAny_pure ?_))
    have := hR h' tk fun b o hb e => hk b o (by simpa using hb) e
    rw [List.drop_of_length_le (by omega)] at this
    exact this
  | succ n ih =>
    intro j s hn hj hit hm hR
    have hjl : j < kvs.length := by omega
    refine codeAny_builtin entry_contains_iter ?_
    rw [Around.under_plainId plain_contains_iter _]
    show wpAny _ A.in1 (pyNext (.ref I) >>= _) _ _ s
    refine wpAny_bind (W.item j s _ _ hjl ⟨hit, hm⟩ fun v h' tk hP hst hk => ?_)
    obtain ⟨k, hkv⟩ := hP
    obtain ⟨x, hx, hio⟩ := hv j k v hkv
    have hdrop : os.drop j = x :: os.drop (j + 1) := by
      have hj' : j < os.length := by omega
      rw [List.drop_eq_getElem_cons hj']
      rw [List.getElem?_eq_getElem hj'] at hx
      rw [Option.some.inj hx]
    cases x with
    | none =>
      have e : v = .none := hio
      subst e
      refine wpAny_bind (eq_none_none ?_)
      rw [if_pos rfl]
      refine wpAny_bind (wpAny_rule (wpAny_pure ?_))
      have := hR h' tk fun b o hb e => hk b o (by simpa using hb) e
      rw [hdrop] at this
      exact this
    | some m =>
      obtain ⟨t, rfl⟩ := hio
      refine wpAny_bind (eqb_int_none ?_)
      rw [if_neg Bool.false_ne_true]
      refine wpAny_pure ⟨plainId_quiet plain_contains_iter _, ih (j + 1) _ (by omega) hjl hst.1 hst.2 fun h2 tk2 k2 => ?_⟩
      have := hR h2 tk2 fun b o hb e => k2 b o hb (hk b o (by simpa using hb) e)
      rw [hdrop] at this
      exact this
/-- None among the values of a dict -/
theorem contains_none {K : Type} [DecidableEq K] {knd : KeyKind prog w K} {s : Shared} {v d : Addr} {ep : Nat} {kvs : List (K × Value)} {os : List (Option Int)} {Q : Bool → Shared → Prop} (hh : A.handled = none) (hv : s.heap.IsValuesView v d) (hm : s.heap.DictAt knd d kvs ep) (hl : os.length = kvs.length)
    (hio : ∀ (i : Nat) (k : K) (v : Value), kvs[i]? = some (k, v) → ∃ x, os[i]? = some x ∧ IoN v x)
    (h : ∀ h' tk, Kept s.heap h' → Q (os.any (·.isNone)) { s with heap := h', toks := tk }) : wpAny (model prog w) A (contains (.ref v) .none) Q E s := by
  have hT : s.TypeIs (.ref v) "dict_values" := hv.typeIs
  unfold contains
  refine wpAny_holding ?_
  rw [stdlibNamesSay?_of_typeIs hT]
  refine wpAny_bind (wpAny_specialOf hT owner_dv_none ?_)
  rw [if_neg (by decide)]
  refine wpAny_bind ?_
  unfold callSpecialUnlessNone?
  refine wpAny_bind (wpAny_specialOf hT owner_dv_none (wpAny_pure ?_))
  refine wpAny_bind (wpAny_rule (wpAny_bind (wpAny_tryCatch (wpAny_pyIter_values hv hm ?_))))
  have hds : d < s.heap.objs.size := hm.lt_size
  refine wpAny_bind (wpAny_runValue (cont_loop (knd := knd) (kvs := kvs) (ep := ep) (d := d) (os := os) hh (Nat.ne_of_lt hds) hl hio _ 0 _ rfl (Nat.zero_le _) ⟨_, Heap.get?_push_size _ rfl, rfl, rfl⟩ (hm.push _) fun h' tk hk => ?_))
  refine wpAny_pure (h h' tk fun b o e => hk b o (Nat.ne_of_lt (Heap.lt_size e)) (Heap.get?_push_of_some _ e))
end
end
section
local macro_rules | `(tactic| walk_at "getMethod ref") => `(tactic| refine Stop.out ?_)
local macro_rules | `(tactic| walk_at "call builtin:max") => `(tactic| ((with_reducible show wpAny _ _ (call _ [Value.ref _] _) _ _ _); refine Stop.out ?_))
local macro_rules | `(tactic| walk_at "call type:filter") => `(tactic| refine Stop.out ?_)
local macro_rules | `(tactic| walk_at "call builtin:dict.values") => `(tactic| refine Stop.out ?_)
local macro_rules | `(tactic| walk_at "call type:str") => `(tactic| (k_here; refine P.str_of_int (by assumption) ?_; k_whole))
local macro_rules | `(tactic| walk_at "compareOp In none ref") => `(tactic| refine Stop.out ?_)
noncomputable def ofO : Option Int → PyData
  | none => .none
  | some m => .int m
noncomputable abbrev widD (x0 x1 x2 : Option Int) : List (PyData × PyData) := [(.int 0, ofO x0), (.int 1, ofO x1), (.int 2, ofO x2)]
theorem ofO_ion {v : Value} {x : Option Int} (h : PyProof.V.Flat v (ofO x)) : IoN v x := by
  cases x with
  | none => exact PyProof.V.Flat.none_inv h
  | some m => exact PyProof.V.Flat.int_inv h
theorem widD_ion {x0 x1 x2 : Option Int} {kvs : List (Int × Value)} (h : PyProof.V.FlatPairs PyData.int kvs (widD x0 x1 x2)) : kvs.length = 3 ∧ ∀ (i : Nat) (k : Int) (v : Value), kvs[i]? = some (k, v) → ∃ x, ([x0, x1, x2] : List (Option Int))[i]? = some x ∧ IoN v x := by
  have hl := h.length
  refine ⟨by rw [← hl]; rfl, fun i k v e => ?_⟩
  cases h with
  | cons h0 h =>
    cases h with
    | cons h1 h =>
      cases h with
      | cons h2 h =>
        cases h
        match i with
        | 0 => simp at e; exact ⟨x0, rfl, e.2 ▸ ofO_ion h0⟩
        | 1 => simp at e; exact ⟨x1, rfl, e.2 ▸ ofO_ion h1⟩
        | 2 => simp at e; exact ⟨x2, rfl, e.2 ▸ ofO_ion h2⟩
        | i + 3 => simp at e
/-- a power of ten -/
noncomputable def Pow10 (m : Int) : Prop := ∃ e : Nat, 1 ≤ e ∧ e ≤ 10 ∧ m = 10 ^ e
theorem pow10_facts {m : Int} (h : Pow10 m) : ∃ q : Nat, 1 ≤ q ∧ q ≤ 10 ∧ m = 10 ^ q ∧ (Str.ofString (toString m)).length = q + 1 ∧ m.natAbs.log2 < 1920 ∧ 0 < m := by
  obtain ⟨q, h1, h2, rfl⟩ := h
  refine ⟨q, h1, h2, rfl, ?_⟩
  have : ∀ q : Fin 11, (Str.ofString (toString ((10 : Int) ^ q.val))).length = q.val + 1 ∧ ((10 : Int) ^ q.val).natAbs.log2 < 1920 ∧ 0 < (10 : Int) ^ q.val := by decide +kernel
  exact this ⟨q, by omega⟩
noncomputable def strN (m : Int) : Int := ((Str.ofString (toString m)).length : Int)
noncomputable def widF (x0 x1 x2 : Option Int) : Int := match maxO (([x0, x1, x2] : List (Option Int)).filterMap id) with
  | none => 0
  | some m => if (if strN m > 3 then strN m else 3) < 4 ∧ (([x0, x1, x2] : List (Option Int)).any (·.isNone)) = true then 4 else (if strN m > 3 then strN m else 3)
theorem maxO_mem : ∀ (l : List Int) (o : Option Int) (m : Int), l.foldl bestS o = some m → m ∈ l ∨ o = some m
  | [], o, m, h => .inr h
  | a :: l, o, m, h => by
    rcases maxO_mem l (bestS o a) m h with h | h
    · exact .inl (.tail _ h)
    · cases o with
      | none => exact .inl (by cases h; exact .head _)
      | some b =>
        have h' : (if a > b then some a else some b) = some m := h
        by_cases hab : a > b
        · rw [if_pos hab] at h'; exact .inl (by cases h'; exact .head _)
        · rw [if_neg hab] at h'; exact .inr h'
theorem width_ctr {w : World} {mean : ExcName → Option Value} {mg mb : Str → Option Value} (D : Addr) (x0 x1 x2 : Option Int) (hx : ∀ m, some m ∈ [x0, x1, x2] → Pow10 m) :
    Ctr w mean mg mb 8 75 [.ref D] [] [] (fun g => IntTab prog1 w g D (widD x0 x1 x2)) (fun _ _ v => ∃ t, v = .int (widF x0 x1 x2) t) := by
  refine ctr_of ?_
  intro dp un gd fr base s Q E B X T hd hu hp ret
  k_dflt cell_enter
  k_steps
  unfold Stop
  obtain ⟨lo, kvs, hdo, hf⟩ := id hp
  obtain ⟨ep, hat⟩ := hdo.dictAt
  obtain ⟨hk3, hion⟩ := widD_ion hf
  have hos : ([x0, x1, x2] : List (Option Int)).length = kvs.length := hk3.symm
  have hne0 : ∀ m, some m ∈ ([x0, x1, x2] : List (Option Int)) → m ≠ 0 := fun m hm e => by
    obtain ⟨q, _, _, rfl⟩ := hx m hm
    exact absurd e (Int.ne_of_gt (Int.pow_pos (by decide)))
  rename Fr _ _ _ _ => F
  rename News _ _ _ _ => N
  refine getMethod_tab PySem.F.slot_dict_values PySem.F.type_dict_values (hp.keep F.keep) ?_
  k_steps
  unfold Stop
  refine call_values_tab (hp.keep F.keep) F N fun h2 o2 hview F2 N2 => ?_
  clear F N
  k_steps
  unfold Stop
  refine call_filter (knd := PySem.intKind prog1 w) hview (hat.at' (F2.keep _)) fun h3 G I hG hI hGI hGo hIt k3 => ?_
  have F3 := F2.keeps k3
  have N3 := N2.grown k3
  have F2x := F2.keep
  have F2x' := F2.ns
  clear F2 N2
  k_steps
  unfold Stop
  have hDI : D ≠ I := fun e => by
    obtain ⟨o, _, ho, _⟩ := hat
    have := F2x D o ho
    rw [e, hI] at this; cases this
  have hat3 := hat.at' (F3.keep _)
  with_unfolding_all refine' max_def (gs := ([x0, x1, x2] : List (Option Int)).filterMap id) (fil_walks (knd := PySem.intKind prog1 w) (ep := ep) (kvs := kvs) (os := [x0, x1, x2]) rfl hGI hDI hos hion hne0) ⟨hGo, hat3, 0, Nat.zero_le _, hIt, rfl⟩ ?m1 ?m2
  case m1 =>
    intro b hb
    rcases List.mem_cons.mp hb with rfl | hb
    · exact Heap.lt_size hGo
    rcases List.mem_cons.mp hb with rfl | hb
    · obtain ⟨o, ho, _⟩ := hIt; exact Heap.lt_size ho
    · rw [List.mem_singleton.mp hb]; obtain ⟨o, _, ho, _⟩ := hat3; exact Heap.lt_size ho
  case m2 =>
    intro v h4 tk4 hv4 k4
    have hsI : s.heap.get? I = none := by
      cases q : s.heap.get? I with
      | none => rfl
      | some o => have := F2x _ _ q; rw [hI] at this; cases this
    have hLI : L ≠ I := fun e => by
      obtain ⟨oL, _, _, hL9, _⟩ := F2x'
      rw [e, hI] at hL9; cases hL9
    have F4 := fr_but F3 k4 hLI hsI
    have N4 : News s.heap L h4 [] := fun _ h => nomatch h
    clear F3 N3
    cases hmx : maxO (([x0, x1, x2] : List (Option Int)).filterMap id) with
    | none =>
      rw [hmx] at hv4
      have e : v = _ := hv4
      subst e
      k_steps
      try dsimp only
      rename Fr _ _ _ _ => F5
      have e : widF x0 x1 x2 = 0 := by unfold widF; rw [hmx]
      refine ret _ _ _ F5.keep ?_
      show ∃ t, _ = Value.int (widF x0 x1 x2) t
      rw [e]
      exact ⟨_, rfl⟩
    | some m =>
      rw [hmx] at hv4
      obtain ⟨tm, rfl⟩ := hv4
      have hm : Pow10 m := by
        rcases maxO_mem _ _ _ hmx with h9 | h9
        · obtain ⟨x, hx9, e9⟩ := List.mem_filterMap.mp h9
          exact hx m (by rw [show x = some m from e9] at hx9; exact hx9)
        · cases h9
      obtain ⟨q, q1, q2, hmq, hml, hmg, hm0⟩ := pow10_facts hm
      k_steps
      · omega
      rotate_left
      · try dsimp only
        rename Fr _ _ _ _ => F5
        have e : widF x0 x1 x2 = (if strN m > 3 then strN m else 3) := by
          unfold widF
          rw [hmx]
          try dsimp only
          rw [if_neg]
          rintro ⟨h9, _⟩
          unfold strN at h9
          split at h9 <;> omega
        refine ret _ _ _ F5.keep ?_
        show ∃ t, _ = Value.int (widF x0 x1 x2) t
        rw [e]
        exact ⟨_, rfl⟩
      · unfold Stop
        rename Fr _ _ _ _ => F5
        rename News _ _ _ _ => N5
        refine getMethod_tab PySem.F.slot_dict_values PySem.F.type_dict_values (hp.keep F5.keep) ?_
        k_steps
        unfold Stop
        refine call_values_tab (hp.keep F5.keep) F5 N5 fun h6 o6 hview6 F6 N6 => ?_
        k_steps
        unfold Stop
        unfold compareOp
        refine wpAny_bind (contains_none (knd := PySem.intKind prog1 w) (os := [x0, x1, x2]) rfl hview6 (hat.at' (F6.keep _)) hos hion fun h7 tk7 k7 => wpAny_pure ?_)
        have F7 := F6.keeps k7
        clear F5 N5 F6
        k_steps
        · try dsimp only
          rename Fr _ _ _ _ => F9
          have e : widF x0 x1 x2 = 4 := by
            unfold widF
            rw [hmx]
            try dsimp only
            rw [if_pos ⟨by assumption, by assumption⟩]
          refine ret _ _ _ F9.keep ?_
          show ∃ t, _ = Value.int (widF x0 x1 x2) t
          rw [e]
          exact ⟨_, rfl⟩
        · try dsimp only
          rename List.any [x0, x1, x2] _ = false => hno
          have e : widF x0 x1 x2 = (if strN m > 3 then strN m else 3) := by
            unfold widF
            rw [hmx]
            try dsimp only
            rw [if_neg (by rw [hno]; exact fun h => absurd h.2 (by decide))]
          refine ret _ _ _ F7.keep ?_
          show ∃ t, _ = Value.int (widF x0 x1 x2) t
          rw [e]
          exact ⟨_, rfl⟩
end
section
section
variable {K : Type} [DecidableEq K] {FK : Value → K → Prop} {FV : Value → Value → Prop}
theorem storedAll_snoc_inv {l : List Value} {v : Value} {kvs' : List (K × Value)} (h : StoredAll FK FV (l ++ [v]) kvs') : ∃ kvs k y, kvs' = stored kvs k y ∧ StoredAll FK FV l kvs ∧ FK v k ∧ FV v y := by
  generalize e : l ++ [v] = L at h
  cases h with
  | nil => simp at e
  | snoc h1 h2 h3 =>
    obtain ⟨rfl, e2⟩ := List.append_inj' e rfl
    cases e2
    exact ⟨_, _, _, rfl, h1, h2, h3⟩
theorem storedAll_nil_inv {kvs : List (K × Value)} (h : StoredAll FK FV [] kvs) : kvs = [] := by
  generalize e : ([] : List Value) = L at h
  cases h with
  | nil => rfl
  | snoc h1 h2 h3 => simp at e
end
noncomputable def PowY (r : Int) (y : Value) : Prop := if r < 10 then ∃ t, y = .int (10 ^ (r + 1).toNat) t else y = .none
noncomputable def powO (r : Int) : Option Int := if r < 10 then some (10 ^ (r + 1).toNat) else none
theorem PowY.flat {r : Int} {y : Value} (h : PowY r y) : PyProof.V.Flat y (ofO (powO r)) := by
  unfold PowY at h
  unfold powO
  by_cases hr : r < 10
  · rw [if_pos hr] at h ⊢
    obtain ⟨t, rfl⟩ := h
    exact PyProof.V.Flat.int _ _
  · rw [if_neg hr] at h ⊢
    subst h
    exact PyProof.V.Flat.none
theorem powO_pow {r m : Int} (h0 : 0 ≤ r) (h : some m = powO r) : Pow10 m := by
  unfold powO at h
  split at h
  · cases h; exact ⟨(r + 1).toNat, by omega, by omega, rfl⟩
  · cases h
theorem len3 {α : Type} : ∀ l : List α, l.length = 3 → ∃ a b c, l = [a, b, c]
  | [a, b, c], _ => ⟨a, b, c, rfl⟩
theorem powD {r0 r1 r2 : Int} {vs : List Value} {kvs : List (Int × Value)} (hlen : vs.length = 3) (hP : ∀ (j : Nat) (v : Value), vs[j]? = some v → ∃ t, v = .int ((0 : Int) + (j : Int)) t)
    (h : StoredAll (fun v k => ∃ t, v = .int k t) (fun v y => ∃ (q : Nat) (t : Tok), v = .int ((0 : Int) + (q : Int)) t ∧ PowY (([r0, r1, r2] : List Int).getD q 0) y) (vs.filter fun _ => true) kvs) : PyProof.V.FlatPairs PyData.int kvs (widD (powO r0) (powO r1) (powO r2)) := by
  obtain ⟨v0, v1, v2, rfl⟩ := len3 vs hlen
  clear hlen
  obtain ⟨t0, e0⟩ := hP 0 v0 rfl
  obtain ⟨t1, e1⟩ := hP 1 v1 rfl
  obtain ⟨t2, e2⟩ := hP 2 v2 rfl
  subst e0 e1 e2
  have h' : StoredAll (fun v k => ∃ t, v = .int k t) (fun v y => ∃ (q : Nat) (t : Tok), v = .int ((0 : Int) + (q : Int)) t ∧ PowY (([r0, r1, r2] : List Int).getD q 0) y) ((([] ++ [Value.int ((0 : Int) + ((0 : Nat) : Int)) t0]) ++ [Value.int ((0 : Int) + ((1 : Nat) : Int)) t1]) ++ [Value.int ((0 : Int) + ((2 : Nat) : Int)) t2]) kvs := h
  obtain ⟨k2, i2, y2, rfl, h2, ⟨u2, f2⟩, q2, s2, g2, p2⟩ := storedAll_snoc_inv h'
  obtain ⟨k1, i1, y1, rfl, h1, ⟨u1, f1⟩, q1, s1, g1, p1⟩ := storedAll_snoc_inv h2
  obtain ⟨k0, i0, y0, rfl, h0, ⟨u0, f0⟩, q0, s0, g0, p0⟩ := storedAll_snoc_inv h1
  have h0 := storedAll_nil_inv h0
  subst h0
  injection f0 with f0; injection f1 with f1; injection f2 with f2
  injection g0 with g0; injection g1 with g1; injection g2 with g2
  have a0 : i0 = 0 := by omega
  have a1 : i1 = 1 := by omega
  have a2 : i2 = 2 := by omega
  have b0 : q0 = 0 := by omega
  have b1 : q1 = 1 := by omega
  have b2 : q2 = 2 := by omega
  subst a0 a1 a2 b0 b1 b2
  have e : stored (stored (stored ([] : List (Int × Value)) 0 y0) 1 y1) 2 y2 = [(0, y0), (1, y1), (2, y2)] := rfl
  rw [e]
  exact .cons p0.flat (.cons p1.flat (.cons p2.flat .nil))
section
variable {prog : Program} {w : World} {A : Around} {E : Value → Shared → Prop} {s : Shared} {h₀ : Heap} {L : Addr} {m : Str → Option Value} {env : Env} {elt : Expr} {ifs : List Expr} {scope : Scope} {cl : List (Str × Addr)} {Fin : Shared → List Value → List (Addr × Obj) → Prop} {news : List (Addr × Obj)}
theorem mc_list_fix {x : Str} {px : Pos} {ax : Addr} {vs : List Value} {n : Nat} (J : Nat → List Value → Prop) (hh : A.handled = none) (hkind : scope.kind = .function) (hx : scope.names.lookup x = some .local) (hm : (ax, listOf vs.toArray n) ∈ news) (hsz : vs.length ≤ sizeLine) (F : Fr h₀ L s.heap m) (N : News h₀ L s.heap news)
    (R : MTurn prog w A h₀ L m env elt ifs scope cl s (fun nx => SrcAt h₀ ax vs.toArray nx ∧ True) (fun i v => vs.toArray[i]? = some v) (BdN x) (fun i ys nx => nx = news ∧ J i ys) vs.toArray.size) (hJ : J 0 []) (fin : ∀ g ys nx, ys.length ≤ vs.toArray.size → nx = news ∧ J vs.toArray.size ys → Fin { s with heap := g } ys nx) :
    wpAny (model prog w) A (pyIter (.ref ax)) (McAt prog w A h₀ L m env elt (.Name x px) ifs scope cl Fin) E s :=
  mc_list (fun _ => True) (fun i ys nx => nx = news ∧ J i ys) news hh (.inr ⟨_, hm, rfl, _, rfl⟩) (by rw [List.size_toArray]; exact hsz) F N (fun _ h => h) trivial (fun _ => mbind_name hkind hx) R ⟨rfl, hJ⟩ fin
end
theorem filt_yes {l : List Int} {i : Nat} {a : Int} (e : l[i]? = some a) (h : a < 10) : (l.take (i + 1)).filter (fun r => r < 10) = (l.take i).filter (fun r => r < 10) ++ [a] := by
  rw [List.take_add_one, e, List.filter_append]; simp [h]
theorem filt_no {l : List Int} {i : Nat} {a : Int} (e : l[i]? = some a) (h : ¬ a < 10) : (l.take (i + 1)).filter (fun r => r < 10) = (l.take i).filter (fun r => r < 10) := by
  rw [List.take_add_one, e, List.filter_append]; simp [h]
theorem arr_get {vs : List Value} {i : Nat} {v : Value} (h : vs.toArray[i]? = some v) : vs[i]? = some v := by simpa using h
end
section
local macro_rules | `(tactic| walk_at "call ref") => `(tactic| refine Stop.out ?_)
local macro_rules | `(tactic| walk_at "eval Name") => `(tactic| (k_here; (with_reducible show wpAny _ _ (eval (Expr.Name (Str.ofString "k") _) (compEnvC _ _ _ _)) _ _ _); refine' ldVarK ?n ?x ?_ ?a ?b ?c; (case b => rfl); (case a => rfl); (case c => decide); (case n => assumption); (case x => assumption)))
local macro_rules | `(tactic| walk_at "call builtin:sum") => `(tactic| (k_here; refine' sumL ?k1 ?k2 ?k3 ?k4 ?k5 ?_; (case k1 => rfl); (case k2 => k_asm); (case k3 => k_asm); (case k4 => exact List.Mem.tail _ (List.Mem.head _)); (case k5 => exact .cons _ _ (.cons _ _ (.cons _ _ .nil))); k_whole; intro h' tk' t' F' N'))
local macro_rules | `(tactic| walk_at "call builtin:len cons nil") => `(tactic| (k_here; refine' lenV ?k1 ?k2 ?k3 ?_; (case k1 => k_asm); (case k2 => exact List.Mem.head _); (case k3 => omega); k_whole; intro _ _))
local macro_rules | `(tactic| walk_at "eval DictComp") => `(tactic| refine Stop.out ?_)
local macro_rules | `(tactic| walk_at "binaryOp Mult int int") => `(tactic| (k_here; refine mul_small (by assumption) (by assumption) ?_; k_whole; intro _ _))
local macro_rules | `(tactic| walk_at "subscriptTail Name Name ref int") => `(tactic| ((with_reducible show wpAny _ _ (subscriptTail (Expr.Name (Str.ofString "rows") _) _ _ _) _ _ _); k_here; refine' subI ?k1 ?k2 ?k3 ?k4 ?k5 ?k6 ?_; (case k1 => k_asm); (case k2 => exact List.Mem.head _); (case k3 => exact .cons _ _ (.cons _ _ (.cons _ _ .nil))); (case k4 => omega); (case k5 => (simp only [List.length_cons, List.length_nil]; omega)); (case k6 => (simp only [List.length_cons, List.length_nil]; decide)); k_whole; intro _))
local macro_rules | `(tactic| walk_at "subscriptTail Name Name ref int") => `(tactic| ((with_reducible show wpAny _ _ (subscriptTail (Expr.Name (Str.ofString "far") _) _ _ _) _ _ _); k_here; (refine' subB ?k1 ?k2 ?k3 ?k4 ?k5 ?_ ?k6; (case k1 => k_asm); (case k2 => assumption); (case k5 => assumption); (case k3 => omega); (case k4 => omega); (case k6 => with_unfolding_all rfl); k_whole)))
local macro_rules | `(tactic| walk_at "subscriptTail Subscript Name ref int") => `(tactic| (k_here; (refine' subBI ?k1 ?k2 ?k3 ?k4 ?k5 ?k6 ?_ ?k7; (case k1 => k_asm); (case k2 => assumption); (case k3 => assumption); (case k4 => omega); (case k5 => omega); (case k6 => omega); (case k7 => with_unfolding_all rfl); k_whole; intro _)))
theorem mul_small {prog : Program} {w : World} {A : Around} {E : Value → Shared → Prop} {s : Shared} {a b : Int} {t u : Tok} {Q : Value → Shared → Prop} (ha : 0 ≤ a ∧ a ≤ 10) (hb : 0 ≤ b ∧ b ≤ 10) (h : ∀ t' tk, Q (.int (a * b) t') { s with toks := tk }) : wpAny (model prog w) A (binaryOp .Mult (.int a t) (.int b u)) Q E s :=
  P.mul_int (h _ _) (by
    obtain ⟨i, rfl⟩ := fin_of (n := 11) (a := a) (by omega)
    obtain ⟨j, rfl⟩ := fin_of (n := 11) (a := b) (by omega)
    have : ∀ i : Fin 11, Builtin.Int.intBits (i.val : Int) ≤ 64 := by decide +kernel
    exact IntMulOk.of_left (this i))
theorem four_of : ∀ i : Fin 5, ∃ a b c d : Fin 5, (List.range 5).filter (fun q => q ≠ i.val) = [a.val, b.val, c.val, d.val] := by decide +kernel
theorem fF_le {rss : List (List Int)} (hF : Far rss) {x : Nat} (hx : x < 5) (y : Nat) : 0 ≤ (rss.getD x []).getD y 0 ∧ (rss.getD x []).getD y 0 ≤ 10 := by
  have hlt : x < rss.length := by rw [hF.1]; exact hx
  rw [List.getD_eq_getElem?_getD (l := rss), List.getElem?_eq_getElem hlt]
  show 0 ≤ (rss[x]).getD y 0 ∧ (rss[x]).getD y 0 ≤ 10
  have hr := hF.2 _ (List.getElem_mem hlt)
  rw [List.getD_eq_getElem?_getD]
  cases e : (rss[x])[y]? with
  | none => exact ⟨Int.le_refl _, by decide⟩
  | some t => exact hr.2 t (List.mem_of_getElem? e)
theorem mul_le100 {a b : Int} (ha : 0 ≤ a ∧ a ≤ 10) (hb : 0 ≤ b ∧ b ≤ 10) : 0 ≤ a * b ∧ a * b ≤ 100 := by
  obtain ⟨i, rfl⟩ := fin_of (n := 11) (a := a) (by omega)
  obtain ⟨j, rfl⟩ := fin_of (n := 11) (a := b) (by omega)
  have : ∀ i j : Fin 11, 0 ≤ (i.val : Int) * (j.val : Int) ∧ (i.val : Int) * (j.val : Int) ≤ 100 := by decide +kernel
  exact this i j
theorem prod_le {a b c d e f : Int} (ha : 0 ≤ a ∧ a ≤ 10) (hb : 0 ≤ b ∧ b ≤ 10) (hc : 0 ≤ c ∧ c ≤ 10) (hd : 0 ≤ d ∧ d ≤ 10) (he : 0 ≤ e ∧ e ≤ 10) (hf : 0 ≤ f ∧ f ≤ 10) (q : Nat) : 0 ≤ ([a * b, c * d, e * f] : List Int).getD q 0 ∧ ([a * b, c * d, e * f] : List Int).getD q 0 ≤ 100 := by
  match q with
  | 0 => exact mul_le100 ha hb
  | 1 => exact mul_le100 hc hd
  | 2 => exact mul_le100 he hf
  | q + 3 => exact ⟨Int.le_refl _, (by decide : (0 : Int) ≤ 100)⟩
noncomputable abbrev rF (rss : List (List Int)) (x y : Nat) : Int := (rss.getD x []).getD ((0 : Int) + (y : Int)).toNat 0
noncomputable def okR (r0 r1 r2 : Int) : Bool := !(decide (2 * (widF (powO r0) (powO r1) (powO r2) - 2) > ([r0, r1, r2] : List Int).sum) || (decide (((([r0, r1, r2] : List Int).filter fun r => r < 10).length : Int) < 3) && decide (widF (powO r0) (powO r1) (powO r2) ≠ 4 * ((([r0, r1, r2] : List Int).filter fun r => r < 10).length : Int))))
noncomputable def okP (rss : List (List Int)) (i : Nat) : Bool := match (List.range 5).filter (fun q => q ≠ i) with
  | [a, b, c, d] => okR (rF rss a b * rF rss c d) (rF rss a c * rF rss b d) (rF rss a d * rF rss b c)
  | _ => true
theorem okR_f1 {r0 r1 r2 : Int} (h : r0 + (r1 + (r2 + 0)) < 2 * (widF (powO r0) (powO r1) (powO r2) - 2)) : okR r0 r1 r2 = false := by
  have h' : 2 * (widF (powO r0) (powO r1) (powO r2) - 2) > ([r0, r1, r2] : List Int).sum := h
  unfold okR
  rw [decide_eq_true h']; rfl
theorem okR_f2 {r0 r1 r2 : Int} {n : Nat} (hn : n = (([r0, r1, r2] : List Int).filter fun r => r < 10).length) (h1 : (n : Int) < 3) (h2 : widF (powO r0) (powO r1) (powO r2) ≠ 4 * (n : Int)) : okR r0 r1 r2 = false := by
  subst hn
  unfold okR
  rw [decide_eq_true h1, decide_eq_true h2, Bool.and_self, Bool.or_true]; rfl
theorem okR_t {r0 r1 r2 : Int} {n : Nat} (hn : n = (([r0, r1, r2] : List Int).filter fun r => r < 10).length) (h0 : ¬ r0 + (r1 + (r2 + 0)) < 2 * (widF (powO r0) (powO r1) (powO r2) - 2)) (h : ¬ (n : Int) < 3 ∨ widF (powO r0) (powO r1) (powO r2) = 4 * (n : Int)) : okR r0 r1 r2 = true := by
  subst hn
  have h' : ¬ 2 * (widF (powO r0) (powO r1) (powO r2) - 2) > ([r0, r1, r2] : List Int).sum := h0
  unfold okR
  rw [decide_eq_false h']
  rcases h with h | h
  · rw [decide_eq_false h]; rfl
  · rw [decide_eq_false (fun e => e h : ¬ widF (powO r0) (powO r1) (powO r2) ≠ _), Bool.and_false]; rfl
structure PtS where
  orr : Obj
  oo : Obj
theorem ptol_ctr {w : World} {mean : ExcName → Option Value} {mg mb : Str → Option Value} (a : Addr) (rss : List (List Int)) (hF : Far rss) :
    Ctr w mean mg mb 20 312 [.ref a] [] [] (fun g => RowsAt g a rss) (fun _ _ v => v = .bool ((List.range 5).all (okP rss))) := by
  refine ctr_of ?_
  intro dp un gd fr base s Q E B X T hd hu hp ret
  k_dflt cell_enter
  k_steps
  rename Fr _ _ _ _ => F
  rename News _ _ _ _ => N
  rename_i o1 o2 d1 d2 _ _ _ _ _ _ _ _ _
  have d1' : o1.data = .cell none := d1
  have d2' : o2.data = .cell none := d2
  clear d1 d2
  obtain ⟨fs, hl, hlen, hrows⟩ := hp
  have rowf : ∀ i, i < 5 → ∃ (r : Addr) (vs : List Value), fs[i]? = some (Value.ref r) ∧ s.heap.IsList r vs.toArray ∧ IntsAre vs (rss.getD i []) ∧ (rss.getD i []).length = 5 := by
    intro i hi
    have hlt : i < rss.length := by rw [hF.1]; exact hi
    have e : rss[i]? = some rss[i] := List.getElem?_eq_getElem hlt
    obtain ⟨r, vs, h1, h2, h3⟩ := hrows i _ e
    have e2 : rss.getD i [] = rss[i] := by rw [List.getD_eq_getElem?_getD, e]; rfl
    rw [e2]
    exact ⟨r, vs, h1, h2, h3, (hF.2 _ (List.getElem_mem hlt)).1⟩
  unfold Stop
  refine' lf_range (σ := PtS) (n := 5) (fun _ => []) (fun c => [(L + 1 + 1, c.orr), (L + 1, c.oo)]) (fun i c => (∀ j, j < i → okP rss j = true) ∧ (∃ v, c.orr.data = Data.cell v) ∧ ∃ v, c.oo.data = Data.cell v) ["a", "b", "c", "d", "width", "ways"] (PtS.mk o1 o2) rfl (by assumption) ?hsm ?hsz F N ?hn ?hk ?hp ?turn ?done
  case hsm => decide
  case hsz => decide
  case hn => exact fun _ h => h
  case hk => ktr_unf
  case hp => exact ⟨fun _ h => absurd h (Nat.not_lt_zero _), ⟨_, d1'⟩, ⟨_, d2'⟩⟩
  case turn =>
    clear F N
    intro i v c u I oI h tk hi hv hP hoff hst F N
    obtain ⟨t, rfl⟩ := hv
    obtain ⟨p1, ⟨va, p2⟩, ⟨vb, p3⟩⟩ := hP
    refine let_name ?_
    k_steps
    rename Fr _ _ _ _ => F
    rename News _ _ _ _ => N
    rename _ = Data.cell (some (Value.int _ _)) => hc1
    refine grab_obj hc1 fun oo1 ho1 => ?_
    subst ho1
    unfold Stop
    refine Assign_Tuple ?_
    refine' mc_eval (cl := [(Str.ofString "out", L + 1)]) F ?c1 ?c2 ?c3 ?c4 ?c5 ?c6
    case c1 => rfl
    case c2 => decide
    case c3 => rfl
    case c4 => decide
    case c6 => intro _; rfl
    case c5 =>
      k_steps
      rename Fr _ _ _ _ => F
      rename News _ _ _ _ => N
      unfold Stop
      refine' mc_range (n := 5) (fun j ys nx => nx = [(L + 1 + 1, c.orr), (L + 1, oo1), (I, oI)] ∧ IntsAre ys (((List.range j).filter fun q => q ≠ i).map fun q => (0 : Int) + (q : Nat))) [(L + 1 + 1, c.orr), (L + 1, oo1), (I, oI)] rfl rfl rfl (by assumption) ?i1 ?i2 ?i3 F N ?i4 ?i5 ?i6 ?i7
      case i1 => decide
      case i2 => decide
      case i3 => decide
      case i4 => exact fun _ h => h
      case i6 => exact ⟨rfl, .nil⟩
      case i5 =>
        clear F N
        intro q v ys nx I4 oI4 C4 oC4 D4 m₂ h4 tk4 E4 hq hv hJ hC hb F N off ne _
        obtain ⟨t4, rfl⟩ := hv
        obtain ⟨rfl, hys⟩ := hJ
        unfold BdN at hb
        k_steps
        · rename _ ≠ _ => hqi
          refine mend_same (h := h4) F N off trivial ⟨rfl, ?_⟩
          rw [flt_yes (fun q => q ≠ i) _ q (by omega)]
          exact hys.append (.cons _ _ .nil)
        · rename _ = _ => hqi
          refine mend_same (h := h4) F N off trivial ⟨rfl, ?_⟩
          rw [flt_no (fun q => q ≠ i) _ q (by omega)]
          exact hys
      case i7 =>
        clear F N
        intro g ys nx hl9 hJ
        obtain ⟨rfl, hys⟩ := hJ
        unfold MFinE
        intro D2 h5 tk5 F N off5
        obtain ⟨⟨a1, ha1⟩, ⟨a2, ha2⟩, ⟨a3, ha3⟩, ⟨a4, ha4⟩, e4⟩ := four_of ⟨i, hi⟩
        dsimp only at e4
        rw [e4] at hys
        obtain ⟨ta1, ys1, ye1, hy1⟩ := IntsAre.cons_inv hys
        obtain ⟨ta2, ys2, ye2, hy2⟩ := IntsAre.cons_inv hy1
        obtain ⟨ta3, ys3, ye3, hy3⟩ := IntsAre.cons_inv hy2
        obtain ⟨ta4, ys4, ye4, hy4⟩ := IntsAre.cons_inv hy3
        have ye5 := IntsAre.nil_inv hy4
        clear hys hy1 hy2 hy3 hy4
        subst ye5 ye4 ye3 ye2 ye1
        dsimp only at F N
        obtain ⟨r1, v1, er1, hr1, hi1, hn1⟩ := rowf a1 ha1
        obtain ⟨r2, v2, er2, hr2, hi2, hn2⟩ := rowf a2 ha2
        obtain ⟨r3, v3, er3, hr3, hi3, hn3⟩ := rowf a3 ha3
        have toN : ∀ q : Nat, ((0 : Int) + (q : Int)).toNat = q := fun q => by omega
        rw [← toN a1] at er1
        rw [← toN a2] at er2
        rw [← toN a3] at er3
        have fb : ∀ x y : Nat, x < 5 → 0 ≤ (rss.getD x []).getD ((0 : Int) + (y : Int)).toNat 0 ∧ (rss.getD x []).getD ((0 : Int) + (y : Int)).toNat 0 ≤ 10 := fun x y hx => by
          rw [toN]
          exact fF_le hF hx y
        have o1' := off1_in off5
        have n1 : @Ne Nat (L + 1 + 1) D2 := o1' _ (List.Mem.head _)
        have n2 : @Ne Nat (L + 1) D2 := o1' _ (List.Mem.tail _ (List.Mem.head _))
        have n3 : @Ne Nat I D2 := o1' _ (List.Mem.tail _ (List.Mem.tail _ (List.Mem.head _)))
        have n4 : @Ne Nat I (L + 1 + 1) := hoff _ (List.Mem.head _) _ (List.Mem.head _)
        have n5 : @Ne Nat I (L + 1) := hoff _ (List.Mem.head _) _ (List.Mem.tail _ (List.Mem.head _))
        have f12 := fb a1 a2 ha1
        have f34 := fb a3 a4 ha3
        have f13 := fb a1 a3 ha1
        have f24 := fb a2 a4 ha2
        have f14 := fb a1 a4 ha1
        have f23 := fb a2 a3 ha2
        k_steps
        rename Fr _ _ _ _ => F
        rename News _ _ _ _ => N
        rename _ = Data.cell (some (Value.ref _)) => hc2
        refine grab_cell hc2 fun lr hlr => ?_
        subst hlr
        refine grab_obj hc2 fun or1 ho1 => ?_
        subst ho1
        unfold Stop
        refine' wpAny_DictComp_free (cl := [(Str.ofString "rows", L + 1 + 1)]) (PySem.intKind prog1 w) (fun _ => true) (fun v k => ∃ t, v = .int k t) (fun v y => ∃ (q : Nat) (t : Tok), v = .int ((0 : Int) + (q : Int)) t ∧ PowY (([rF rss a1 a2 * rF rss a3 a4, rF rss a1 a3 * rF rss a2 a4, rF rss a1 a4 * rF rss a2 a3] : List Int).getD q 0) y) ?c1 ?c2 ?c3 ?c4 ?c5 ?c6
        case c1 => rfl
        case c2 => decide
        case c3 => rfl
        case c4 => decide
        case c5 => rfl
        case c6 =>
          k_steps
          rename Fr _ _ _ _ => F
          rename News _ _ _ _ => N
          unfold Stop
          have hrb : ∀ q : Nat, 0 ≤ ([rF rss a1 a2 * rF rss a3 a4, rF rss a1 a3 * rF rss a2 a4, rF rss a1 a4 * rF rss a2 a3] : List Int).getD q 0 ∧ ([rF rss a1 a2 * rF rss a3 a4, rF rss a1 a3 * rF rss a2 a4, rF rss a1 a4 * rF rss a2 a3] : List Int).getD q 0 ≤ 100 := fun q => prod_le f12 f34 f13 f24 f14 f23 q
          refine wpAny_pyIter_range (by assumption) (by decide) ?_
          refine ⟨_, _, _, 3, _, _, rfl, (range_walks rfl 0 3).bound, by decide, ?_, ?_, ?_, ?_⟩
          · exact Heap.get?_push_size _ rfl
          · intro b hb
            rw [List.mem_singleton.mp hb]
            show _ < (Heap.push _ _).objs.size
            rw [Heap.size_push]; exact Nat.lt_succ_self _
          · refine ⟨?_, ?_, ?_⟩
            · intro C i9 v9 s3 m3 E' hv hn hm hk
              refine wpAny_tests_nil ⟨rfl, s3.heap, s3.toks, rfl, fun _ _ e => e⟩
            · intro C i9 v9 s3 m3 E' hv hp9 hn hm hk
              obtain ⟨hi9, t9, rfl⟩ := hv
              refine ldVarK hn hm ?_ rfl rfl (by decide)
              exact ⟨⟨_, intKind_is _ _ _ _, _, rfl⟩, s3.heap, s3.toks, rfl, fun _ _ e => e⟩
            · intro C i9 v9 s3 m3 E' hv hp9 hn hm hk
              obtain ⟨hi9, t9, rfl⟩ := hv
              have k3 : Kept _ s3.heap := fun b o e => hk b o (by simpa using Nat.ne_of_lt (Heap.lt_size e)) (Heap.get?_push_of_some _ e)
              have F3 := F.keeps k3
              have N3 := N.grown k3
              clear hk k3 F N
              obtain ⟨hp3, g3, dd3, tk3, os3⟩ := s3
              dsimp only at F3 N3 hn
              have hrq := hrb ((0 : Int) + (i9 : Int)).toNat
              dsimp only [rF] at hrq
              have e9 : ((0 : Int) + (i9 : Int)).toNat = i9 := by omega
              k_steps
              · rename _ < (10 : Int) => hlt9
                rw [e9] at hlt9 ⊢
                unfold PowY
                rw [if_pos hlt9]
                exact ⟨_, rfl⟩
              · exact ⟨_, _, rfl, fun _ _ e => e⟩
              · rename ¬ _ < (10 : Int) => hlt9
                rw [e9] at hlt9
                unfold PowY
                rw [if_neg hlt9]
              · exact ⟨_, _, rfl, fun _ _ e => e⟩
          · intro D h' tk' kvs vs hD hdict hlen hP hst9 hkeep
            have k9 : Kept _ h' := fun b o e => hkeep b o (by simpa using Nat.ne_of_lt (Heap.lt_size e)) (Heap.get?_push_of_some _ e)
            have hT : IntTab prog1 w h' D (widD (powO (rF rss a1 a2 * rF rss a3 a4)) (powO (rF rss a1 a3 * rF rss a2 a4)) (powO (rF rss a1 a4 * rF rss a2 a3))) := by
              have lo : (D == sysModules) = false := beq_eq_false_iff_ne.mpr fun e => by
                have h1 := F.keep _ _ (X 1 _ rfl)
                rw [show D = 1 from e, Heap.get?_push_of_some _ h1] at hD
                cases hD
              refine ⟨lo, kvs, hdict, powD hlen (fun j v e => (hP j v e).2) hst9⟩
            have F9 := F.keeps k9
            have N9 := N.grown k9
            clear F N k9 hkeep hst9 hP hdict hD
            k_steps
            rename Fr s.heap L _ _ => F
            rename News s.heap L _ _ => N
            unfold Stop
            refine' ctr_pure (width_ctr D _ _ _ ?w1) B F X T rfl rfl rfl ?w2 ?w3 ?w4 ?w5
            case w2 => exact hT
            case w1 =>
              intro m hm
              rcases List.mem_cons.mp hm with hm | hm
              · exact powO_pow (mul_le100 f12 f34).1 hm
              rcases List.mem_cons.mp hm with hm | hm
              · exact powO_pow (mul_le100 f13 f24).1 hm
              · exact powO_pow (mul_le100 f14 f23).1 (List.mem_singleton.mp hm)
            case w3 => ktr_room
            case w4 => ktr_units
            case w5 =>
              rintro v h10 tk10 k10 F10 ⟨tw, rfl⟩
              have N10 := N.grown k10
              clear F N
              k_steps
              rename Fr s.heap L _ _ => F
              rename News s.heap L _ _ => N
              unfold Stop
              refine' mc_eval (cl := []) F ?g1 ?g2 ?g3 ?g4 ?g5 ?g6
              case g1 => rfl
              case g2 => decide
              case g3 => rfl
              case g4 => decide
              case g6 => intro _; rfl
              case g5 =>
                k_steps
                rename Fr s.heap L _ _ => F
                rename News s.heap L _ _ => N
                unfold Stop
                have mkI : ∀ (x y z : Int) (t1 t2 t3 : Tok), IntsAre [.int x t1, .int y t2, .int z t3] [x, y, z] := fun x y z t1 t2 t3 => .cons _ _ (.cons _ _ (.cons _ _ .nil))
                refine' mc_list_fix (fun i ys => IntsAre ys ((([rF rss a1 a2 * rF rss a3 a4, rF rss a1 a3 * rF rss a2 a4, rF rss a1 a4 * rF rss a2 a3] : List Int).take i).filter fun r => r < 10)) rfl rfl rfl (List.Mem.head _) ?z1 F N ?z2 .nil ?z3
                case z1 => exact Nat.le_trans (show 3 ≤ 3 from Nat.le_refl _) (by decide)
                case z2 =>
                  clear F N
                  intro q v ys nx I4 oI4 C4 oC4 D4 m₂ h4 tk4 E4 hq hv hJ hC hb F N off ne src
                  obtain ⟨rfl, hys⟩ := hJ
                  obtain ⟨rq, tq, rfl, hrq0⟩ := IntsAre.at (mkI _ _ _ _ _ _) q v (arr_get hv)
                  have hrq : ([rF rss a1 a2 * rF rss a3 a4, rF rss a1 a3 * rF rss a2 a4, rF rss a1 a4 * rF rss a2 a3] : List Int)[q]? = some rq := hrq0
                  unfold BdN at hb
                  k_steps
                  · rename _ < (10 : Int) => hlt9
                    refine mend_same (h := h4) F N off src ⟨rfl, ?_⟩
                    rw [filt_yes hrq hlt9]
                    exact hys.append (.cons _ _ .nil)
                  · rename ¬ _ < (10 : Int) => hlt9
                    refine mend_same (h := h4) F N off src ⟨rfl, ?_⟩
                    rw [filt_no hrq hlt9]
                    exact hys
                case z3 =>
                  clear F N
                  intro g ys nx hl9 hJ
                  obtain ⟨rfl, hys⟩ := hJ
                  unfold MFinE
                  intro D5 h5 tk5 F N off5
                  have hyl : ys.length ≤ 3 := hl9
                  have hyn := hys.length
                  have ep : okP rss i = okR (rF rss a1 a2 * rF rss a3 a4) (rF rss a1 a3 * rF rss a2 a4) (rF rss a1 a4 * rF rss a2 a3) := by unfold okP; rw [e4]
                  have hyn2 : ys.length = (([rF rss a1 a2 * rF rss a3 a4, rF rss a1 a3 * rF rss a2 a4, rF rss a1 a4 * rF rss a2 a3] : List Int).filter fun r => r < 10).length := hyn
                  have hno : okP rss i = false → Value.bool false = Value.bool ((List.range 5).all (okP rss)) := fun e => by
                    rw [List.all_eq_false.mpr ⟨i, List.mem_range.mpr hi, by rw [e]; exact Bool.false_ne_true⟩]
                  have hyes : okP rss i = true → ∀ j, j < i + 1 → okP rss j = true := fun e j hj => by
                    rcases Nat.lt_succ_iff_lt_or_eq.mp hj with h | h
                    · exact p1 j h
                    · rw [h]; exact e
                  clear hyn
                  k_steps
                  · unfold Stop
                    rename _ < 2 * (_ - 2) => h1
                    exact ret _ _ _ (Fr.keep (by assumption)) (hno (ep.trans (okR_f1 h1)))
                  · unfold Stop
                    rename (ys.length : Int) < 3 => h1
                    rename _ ≠ 4 * (ys.length : Int) => h2
                    exact ret _ _ _ (Fr.keep (by assumption)) (hno (ep.trans (okR_f2 hyn2 h1 h2)))
                  · unfold Stop
                    rename ¬ _ < 2 * (_ - 2) => h1
                    rename _ = 4 * (ys.length : Int) => h2
                    refine' lf_end (PtS.mk or1 oo1) (by assumption) (by assumption) ?hn3 ?ho3 ?hoff3 ?hk3 ?hr3 ?hp3
                    case hn3 => exact List.forall_mem_cons.mpr ⟨by k_memK, List.forall_mem_cons.mpr ⟨by k_memK, fun _ h => nomatch h⟩⟩
                    case ho3 => exact List.forall_mem_cons.mpr ⟨by k_memK, fun _ h => nomatch h⟩
                    case hoff3 => exact hoff
                    case hk3 => ktr_unf
                    case hr3 => ksw_less
                    case hp3 => exact ⟨hyes (ep.trans (okR_t hyn2 h1 (.inr h2))), ⟨_, hc2⟩, ⟨_, hc1⟩⟩
                  · unfold Stop
                    rename ¬ _ < 2 * (_ - 2) => h1
                    rename ¬ (ys.length : Int) < 3 => h2
                    refine' lf_end (PtS.mk or1 oo1) (by assumption) (by assumption) ?hn4 ?ho4 ?hoff4 ?hk4 ?hr4 ?hp4
                    case hn4 => exact List.forall_mem_cons.mpr ⟨by k_memK, List.forall_mem_cons.mpr ⟨by k_memK, fun _ h => nomatch h⟩⟩
                    case ho4 => exact List.forall_mem_cons.mpr ⟨by k_memK, fun _ h => nomatch h⟩
                    case hoff4 => exact hoff
                    case hk4 => ktr_unf
                    case hr4 => ksw_less
                    case hp4 => exact ⟨hyes (ep.trans (okR_t hyn2 h1 (.inl h2))), ⟨_, hc2⟩, ⟨_, hc1⟩⟩
  case done =>
    clear F N
    intro c u h tk hP F N
    obtain ⟨p1, _, _⟩ := hP
    try k_fold
    k_steps
    try dsimp only
    refine ret _ _ _ F.keep ?_
    rw [List.all_eq_true.mpr fun j hj => p1 j (List.mem_range.mp hj)]
end
section
noncomputable def Fit (x : Str) (n : Nat) : Prop := x.length ≤ n
theorem Fit.self (x : Str) : Fit x x.length := Nat.le_refl _
theorem len_app (a b : Str) : (a ++ b).length = a.length + b.length := by
  show (a.cps ++ b.cps).size = _
  rw [Array.size_append]; rfl
theorem Fit.app {a b : Str} {m n : Nat} (x : Fit a m) (y : Fit b n) : Fit (a ++ b) (m + n) := by
  unfold Fit at *; rw [len_app]; omega
section
variable {prog : Program} {w : World} {A : Around} {E : Value → Shared → Prop} {s : Shared} {x y : Str} {t u : Tok} {m n : Nat}
theorem add_fit {Q : Value → Shared → Prop} (h1 : Fit x m) (h2 : Fit y n) (h3 : m + n ≤ sizeLine) (h : ∀ t' tk, Q (.str (x ++ y) t') { s with toks := tk }) : wpAny (model prog w) A (binaryOp .Add (.str x t) (.str y u)) Q E s :=
  add_str h (Nat.le_trans (Nat.add_le_add h1 h2) h3)
theorem iadd_fit {Q : Value → Shared → Prop} (h1 : Fit x m) (h2 : Fit y n) (h3 : m + n ≤ sizeLine) (h : ∀ t' tk, Q (.str (x ++ y) t') { s with toks := tk }) : wpAny (model prog w) A (inplaceOp .Add (.str x t) (.str y u)) Q E s :=
  SBL.iadd (fun t' k _ => h t' k) (Nat.le_trans (Nat.add_le_add h1 h2) h3)
end
end
local macro_rules | `(tactic| walk_at "binaryOp Add str str") => `(tactic| (k_here; refine' add_fit ?f1 ?f2 ?f3 ?_; (case f1 => repeat' first | assumption | refine Fit.app ?_ ?_ | exact Fit.self _); (case f2 => repeat' first | assumption | refine Fit.app ?_ ?_ | exact Fit.self _); (case f3 => decide +kernel); k_whole; intro _ _))
local macro_rules | `(tactic| walk_at "inplaceOp Add str str") => `(tactic| (k_here; refine' iadd_fit ?f1 ?f2 ?f3 ?_; (case f1 => repeat' first | assumption | refine Fit.app ?_ ?_ | exact Fit.self _); (case f2 => repeat' first | assumption | refine Fit.app ?_ ?_ | exact Fit.self _); (case f3 => decide +kernel); k_whole; intro _ _))
section
local macro_rules | `(tactic| walk_at "binaryOp Mod int int") => `(tactic| (k_here; refine mod_int_or (by assumption) ?_ ?_))
theorem noPylong_pow' {a : Int} {j : Nat} (h : j < 5) : Builtin.divisionGoesByPylong a (2 ^ j) = false := by
  refine PyProof.noPylong_small ?_
  have : j = 0 ∨ j = 1 ∨ j = 2 ∨ j = 3 ∨ j = 4 := by omega
  rcases this with rfl | rfl | rfl | rfl | rfl <;> decide
/-- a sign of the reply's word -/
noncomputable def signW (i : Nat) : Str := Txt.replace (Txt.item (Str.ofString "\"abcd") ((0 : Int) + (i : Int))) (Str.ofString "\"") (Str.ofString "\"\"")
theorem signW_fit {i : Nat} (h : i < 5) : Fit (signW i) 2 := by
  have : ∀ i : Fin 5, (signW i.val).length ≤ 2 := by decide +kernel
  exact this ⟨i, h⟩
noncomputable def wordStep (c : Int) (a : Str) (j : Nat) : Str := if Builtin.bitAnd (c.fdiv (2 ^ j)) 1 ≠ 0 then a ++ signW j else a
noncomputable def wordF (c : Int) (k : Nat) : Str := (List.range k).foldl (wordStep c) (Str.ofString "")
theorem wordF_succ (c : Int) (k : Nat) : wordF c (k + 1) = wordStep c (wordF c k) k := by unfold wordF; rw [List.range_succ, List.foldl_append]; rfl
noncomputable def replyF (c : Int) (n : Nat) : Str :=
  match (c.fdiv (2 ^ n)).fmod 4 with
  | 0 => Str.ofString "257" ++ Str.ofString " \"" ++ wordF c n ++ Str.ofString "\""
  | 1 => Str.ofString "257" ++ Str.ofString " \"" ++ wordF c n ++ Str.ofString "\" is near"
  | 2 => Str.ofString "257" ++ Str.ofString " \"" ++ wordF c n ++ Str.ofString ""
  | _ => Str.ofString "250" ++ Str.ofString " \"" ++ wordF c n ++ Str.ofString "\""
structure RepS where
  a : Str
  t : Tok
theorem reply_ctr {w : World} {mean : ExcName → Option Value} {mg mb : Str → Option Value} (k c : Int) (n : Nat) (t1 t2 : Tok) (hk : 1 ≤ k ∧ k < 5) (hkn : k = n) (hc : 0 ≤ c ∧ c < 100000) :
    Ctr w mean mg mb 8 271 [.int k t1, .int c t2] [] [] (fun _ => True) (fun _ _ v => ∃ t, v = .str (replyF c n) t) := by
  refine ctr_of ?_
  intro dp un gd fr base s Q E B X T hd hu _ ret
  subst hkn
  have hn : n < 5 := by omega
  k_dflt cell_enter
  k_steps
  rename Fr _ _ _ _ => F
  rename News _ _ _ _ => N
  unfold Stop
  refine' lf_range (σ := RepS) (fun c => [(Str.ofString "word", .str c.a c.t)]) (fun _ => []) (fun i d => d.a = wordF c i ∧ d.a.length ≤ 2 * i) ["j"] (RepS.mk _ _) rfl (by assumption) ?hsm (n := n) ?hsz F N ?hn ?hk ⟨rfl, Nat.le_refl _⟩ ?turn ?done
  case hsm => exact small_of (by omega) (by omega) (by omega) (by omega)
  case hsz => rw [rangeSize_nat]; omega
  case hn => exact fun _ h => h
  case hk => ktr_unf
  case turn =>
    clear F N
    intro i v d u I oI h tk5 hi hv hP hoff hst F N
    obtain ⟨t5, rfl⟩ := hv
    refine let_name ?_
    have hfa : Fit d.a 10 := Nat.le_trans hP.2 (by omega)
    have hfs : Fit (signW i) 2 := signW_fit (by omega)
    unfold signW at hfs
    have ei : ((0 : Int) + (i : Int)).toNat = i := by omega
    try k_fold
    k_steps
    · unfold Stop
      rename Builtin.bitAnd _ 1 ≠ 0 => hb
      rw [ei] at hb
      refine' lf_end (RepS.mk (d.a ++ signW i) _) (by assumption) (by assumption) ?hn3 ?ho3 ?hoff3 ?hk3 ?hr3 ?hp3
      case hn3 => exact fun _ h => nomatch h
      case ho3 => exact fun _ h => h
      case hoff3 => exact hoff
      case hk3 => ktr_unf
      case hr3 => ksw_less
      case hp3 =>
        refine ⟨?_, ?_⟩
        · show d.a ++ signW i = _
          rw [wordF_succ, ← hP.1, wordStep, if_pos hb]
        · show (d.a ++ signW i).length ≤ _
          have h1 := hP.2
          have h2 : (signW i).length ≤ 2 := hfs
          rw [len_app]; omega
    · unfold Stop
      rename Builtin.bitAnd _ 1 = 0 => hb
      rw [ei] at hb
      refine' lf_end d (by assumption) (by assumption) ?hn3 ?ho3 ?hoff3 ?hk3 ?hr3 ?hp3
      case hn3 => exact fun _ h => nomatch h
      case ho3 => exact fun _ h => h
      case hoff3 => exact hoff
      case hk3 => ktr_unf
      case hr3 => ksw_less
      case hp3 =>
        refine ⟨?_, Nat.le_trans hP.2 (by omega)⟩
        rw [wordF_succ, ← hP.1, wordStep, if_neg (fun h => h hb)]
  case done =>
    clear F N
    intro d u h tk5 hP F N
    have hpw : (2 : Int) ^ ((n : Int)).toNat ≠ 0 := Int.ne_of_gt (Int.pow_pos (by decide))
    have hpy : Builtin.divisionGoesByPylong c (2 ^ ((n : Int)).toNat) = false := noPylong_pow' hn
    have hfa : Fit d.a 10 := Nat.le_trans hP.2 (by omega)
    try k_fold
    k_steps
    all_goals
      rename (c.fdiv (2 ^ ((n : Int)).toNat)).fmod 4 = _ => hkd
      have e : (c.fdiv (2 ^ n)).fmod 4 = _ := hkd
      have e2 := hP.1
      refine ret _ _ _ (Fr.keep (by assumption)) ⟨_, by unfold replyF; rw [e, ← e2]; try rfl⟩
end
section
noncomputable def parseGo (rs : Str) : Nat → Nat → Str → Str
  | 0, _, d => d
  | f + 1, i, d =>
    if i < rs.length then
      if (Txt.item rs (i : Int) == Str.ofString "\"") = true then
        if i + 1 < rs.length ∧ (Txt.item rs ((i : Int) + 1) == Str.ofString "\"") = true then parseGo rs (f - 1) (i + 2) (d ++ Txt.item rs (i : Int)) else d
      else parseGo rs f (i + 1) (d ++ Txt.item rs (i : Int))
    else d
noncomputable def parseF (rs : Str) : Str := if (Txt.slice rs (some 3) (some 5) == Str.ofString " \"") = true then parseGo rs (rs.length + 2) 5 (Str.ofString "") else Str.ofString ""
structure PaS where
  i : Nat
  d : Str
  t1 : Tok
  t2 : Tok
noncomputable def PaP (rs : Str) (R : Str) (c : PaS) : Prop := 5 ≤ c.i ∧ c.i ≤ rs.length + 5 ∧ c.d.length ≤ 2 * c.i ∧ parseGo rs (rs.length + 7 - c.i) c.i c.d = R
theorem parse_ctr {w : World} {mean : ExcName → Option Value} {mg mb : Str → Option Value} (rs : Str) (t : Tok) (hr : Ok rs) (h257 : (Txt.slice rs none (some 3) == Str.ofString "257") = true) :
    Ctr w mean mg mb 8 107 [.str rs t] [] [] (fun _ => True) (fun _ _ v => ∃ t, v = .str (parseF rs) t) := by
  refine ctr_of ?_
  intro dp un gd fr base s Q E B X T hd hu _ ret
  have hlen : rs.length ≤ 200 := hr.len
  k_dflt cell_enter
  k_steps
  · rename (Txt.slice rs none (some 3) != Str.ofString "257") = true => hb
    rw [bne, h257] at hb
    cases hb
  · rename (Txt.slice rs (some 3) (some 5) != Str.ofString " \"") = true => hb
    have e : parseF rs = Str.ofString "" := by
      unfold parseF
      rw [if_neg]
      intro q
      rw [bne, q] at hb
      cases hb
    refine ret _ _ _ (Fr.keep (by assumption)) ⟨_, by rw [e]⟩
  · rename (Txt.slice rs (some 3) (some 5) != Str.ofString " \"") = false => hb
    rename Fr _ _ _ _ => F
    rename News _ _ _ _ => N
    unfold Stop
    refine' lp_while (σ := PaS) (fun c => [(Str.ofString "i", .int c.i c.t1), (Str.ofString "dirname", .str c.d c.t2)]) (fun _ => []) (PaP rs (parseF rs)) (fun c => rs.length + 7 - c.i) ["c"] (PaS.mk 5 (Str.ofString "") _ _) F N ?hn ?hk ?hp ?turn
    case hn => exact fun _ h => h
    case hk => ktr_unf
    case hp =>
      refine ⟨Nat.le_refl _, by show 5 ≤ rs.length + 5; omega, Nat.zero_le _, ?_⟩
      show parseGo rs (rs.length + 7 - 5) 5 (Str.ofString "") = _
      unfold parseF
      rw [if_pos (by cases q : (Txt.slice rs (some 3) (some 5) == Str.ofString " \"") <;> simp_all [bne])]
      rw [show rs.length + 7 - 5 = rs.length + 2 by omega]
    case turn =>
      clear F N
      intro c u h tk hP F N
      obtain ⟨p1, p2, p3, p4⟩ := hP
      have hfd : Fit c.d 500 := Nat.le_trans p3 (by omega)
      try k_fold
      k_steps
      · rename (Txt.item rs (c.i : Int) == _) = true => hq
        have hlt : c.i < rs.length := by omega
        obtain ⟨f, hf⟩ : ∃ f, rs.length + 7 - c.i = f + 1 := ⟨rs.length + 6 - c.i, by omega⟩
        rw [hf, parseGo, if_pos hlt, if_pos hq, if_neg (fun h => by have := h.1; omega)] at p4
        try dsimp only
        unfold LpW
        try dsimp only
        k_steps
        refine ret _ _ _ (Fr.keep (by assumption)) ⟨_, by rw [← p4]⟩
      · rename (Txt.item rs (c.i : Int) == _) = true => hq
        rename (Txt.item rs ((c.i : Int) + 1) != _) = true => hq2
        have hlt : c.i < rs.length := by omega
        obtain ⟨f, hf⟩ : ∃ f, rs.length + 7 - c.i = f + 1 := ⟨rs.length + 6 - c.i, by omega⟩
        rw [hf, parseGo, if_pos hlt, if_pos hq, if_neg (fun h => by rw [bne, h.2] at hq2; cases hq2)] at p4
        try dsimp only
        unfold LpW
        try dsimp only
        k_steps
        refine ret _ _ _ (Fr.keep (by assumption)) ⟨_, by rw [← p4]⟩
      · rename (Txt.item rs (c.i : Int) == _) = true => hq
        rename (Txt.item rs ((c.i : Int) + 1) != _) = false => hq2
        rename _ ∧ (c.d ++ _).length ≤ _ => hl
        rename 1 ≤ (Txt.item rs (c.i : Int)).length ∧ _ => hl1
        have hq3 : (Txt.item rs ((c.i : Int) + 1) == Str.ofString "\"") = true := by
          cases q : (Txt.item rs ((c.i : Int) + 1) == Str.ofString "\"") with
          | true => rfl
          | false => rw [bne, q] at hq2; cases hq2
        have hlt : c.i < rs.length := by omega
        obtain ⟨f, hf⟩ : ∃ f, rs.length + 7 - c.i = f + 1 := ⟨rs.length + 6 - c.i, by omega⟩
        rw [hf, parseGo, if_pos hlt, if_pos hq, if_pos ⟨by omega, hq3⟩] at p4
        refine' lw_end (PaS.mk (c.i + 2) (c.d ++ Txt.item rs (c.i : Int)) _ _) (by assumption) (by assumption) ?hn ?hk ?hr ?hp ?hm
        case hn => exact fun _ h => nomatch h
        case hk => ktr_unf
        case hr => ksw_less
        case hm => show rs.length + 7 - (c.i + 2) < rs.length + 7 - c.i; omega
        case hp =>
          refine ⟨by show 5 ≤ c.i + 2; omega, by show c.i + 2 ≤ _; omega, ?_, ?_⟩
          · show (c.d ++ Txt.item rs (c.i : Int)).length ≤ 2 * (c.i + 2)
            omega
          · show parseGo rs (rs.length + 7 - (c.i + 2)) (c.i + 2) (c.d ++ Txt.item rs (c.i : Int)) = _
            rw [show rs.length + 7 - (c.i + 2) = f - 1 by omega]
            exact p4
      · rename (Txt.item rs (c.i : Int) == _) = false => hq
        rename _ ∧ (c.d ++ _).length ≤ _ => hl
        rename 1 ≤ (Txt.item rs (c.i : Int)).length ∧ _ => hl1
        have hlt : c.i < rs.length := by omega
        obtain ⟨f, hf⟩ : ∃ f, rs.length + 7 - c.i = f + 1 := ⟨rs.length + 6 - c.i, by omega⟩
        rw [hf, parseGo, if_pos hlt, if_neg (fun h => by rw [hq] at h; cases h)] at p4
        refine' lw_end (PaS.mk (c.i + 1) (c.d ++ Txt.item rs (c.i : Int)) _ _) (by assumption) (by assumption) ?hn ?hk ?hr ?hp ?hm
        case hn => exact fun _ h => nomatch h
        case hk => ktr_unf
        case hr => ksw_less
        case hm => show rs.length + 7 - (c.i + 1) < rs.length + 7 - c.i; omega
        case hp =>
          refine ⟨by show 5 ≤ c.i + 1; omega, by show c.i + 1 ≤ _; omega, ?_, ?_⟩
          · show (c.d ++ Txt.item rs (c.i : Int)).length ≤ 2 * (c.i + 1)
            omega
          · show parseGo rs (rs.length + 7 - (c.i + 1)) (c.i + 1) (c.d ++ Txt.item rs (c.i : Int)) = _
            rw [show rs.length + 7 - (c.i + 1) = f by omega]
            exact p4
      · have hge : ¬ c.i < rs.length := by omega
        obtain ⟨f, hf⟩ : ∃ f, rs.length + 7 - c.i = f + 1 := ⟨rs.length + 6 - c.i, by omega⟩
        rw [hf, parseGo, if_neg hge] at p4
        refine ret _ _ _ (Fr.keep (by assumption)) ⟨_, by rw [← p4]⟩
end
section
local macro_rules | `(tactic| walk_at "call ref") => `(tactic| refine Stop.out ?_)
structure HereS (w : World) (mean : ExcName → Option Value) (mg mb : Str → Option Value) (dp un : Nat) (gd : Option (List Code)) (fr : List Env) (base g : Heap) (need : Nat) : Prop where
  H : Here w mean mg mb dp un gd fr base g need
  XB : (kHeap w.params).In base
  TB : Top kView loose1 mean mg mb base
  D : KtsDicts (fr.filterMap (·.frame)) g
/-- a contract of a def that may catch: the frames outside may change in their slots -/
noncomputable def CtrS (w : World) (mean : ExcName → Option Value) (mg mb : Str → Option Value) (need : Nat) (f : Addr) (args : List Value) (kw : List (Str × Value)) (hid : List (Addr × Obj)) (pre : Heap → Prop) (post : Heap → Heap → Value → Prop) : Prop :=
  ∀ (dp un : Nat) (gd : Option (List Code)) (fr : List Env) (base : Heap) (s : Shared) (Q E : Value → Shared → Prop),
    HereS w mean mg mb dp un gd fr base (hideAll s.heap (hid.map (·.1))) need → (∀ p ∈ hid, s.heap.get? p.1 = some p.2) → pre (hideAll s.heap (hid.map (·.1))) →
    (∀ v h' tk' g', KtsTurn (fr.filterMap (·.frame)) (hideAll s.heap (hid.map (·.1))) g' → Kept g' h' → post (hideAll s.heap (hid.map (·.1))) h' v → Q v { s with heap := h', toks := tk' }) →
    wpAny (model prog1 w) (Ar dp un gd fr) (call (.ref f) args kw) Q E s
theorem getF_ok {its : List (Str × Str)} {nm : Str} (h : OkL its) : Ok ((getF its nm).getD (Str.ofString "257 nobody")) := by
  unfold getF
  cases q : its.find? fun p => Txt.lower p.1 == Txt.lower nm with
  | none =>
    show Ok (Str.ofString "257 nobody")
    have : ∀ c ∈ (Str.ofString "257 nobody").cps.toList, 32 ≤ c ∧ c < 127 := by decide +kernel
    exact ⟨this, by decide +kernel⟩
  | some p => exact (h.2 p (List.mem_of_find?_eq_some q)).2
noncomputable def toldF (its : List (Str × Str)) (sg : Str) : Str :=
  if (Txt.slice ((getF its sg).getD (Str.ofString "257 nobody")) none (some 3) == Str.ofString "257") = true then parseF ((getF its sg).getD (Str.ofString "257 nobody")) else Str.ofString ""
theorem told_ctr {w : World} {mean : ExcName → Option Value} {mg mb : Str → Option Value} (P d l : Addr) (tk : Tok) (vs : List Value) (n : Nat) (its : List (Str × Str)) (sg : Str) (t : Tok) (hne : P ≠ d ∧ P ≠ l ∧ d ≠ l) (hsg : Ok sg) (hits : OkL its) :
    CtrS w mean mg mb 24 285 [.ref P, .str sg t] [] (hdLed w P d l tk vs n) (fun g => LinesAt g vs its) (fun _ h v => (∀ p ∈ hdLed w P d l tk vs n, h.get? p.1 = some p.2) ∧ ∃ t, v = .str (toldF its sg) t) := by
  intro dp un gd fr base s Q E H hh hp ret
  obtain ⟨⟨B, X, T, hd, hu⟩, XB, TB, D⟩ := H
  refine' enterM _ X (Top.nolimit T) hh ?k6 ?k7 ?k8 ?k9 ?kB ?_ ?c2 ?c3 ?c4 ?c5
  case k6 => k_is
  case k7 => k_is
  case k8 => ktr_room
  case k9 => exact BindsTo.of_eq rfl
  case c5 => decide
  case kB => exact locs rfl
  case c2 => exact rfl
  case c3 => exact rfl
  case c4 => exact rfl
  k_whole
  intro L h₁ hL F N hlt
  (try dsimp only)
  (try k_fold)
  dsimp only [hdLed] at N
  have m1 : @Ne Nat P d := hne.1
  have m2 : @Ne Nat P l := hne.2.1
  have m3 : @Ne Nat d l := hne.2.2
  k_steps
  unfold Stop
  refine wpAny_call ?_
  k_enter
  k_steps
  rename (kHeap w.params).In _ => X2
  refine' call_dd ?b1 ?b2 ?b3 ?b4 ?b5 ?b6 ?b7 ?b8 ?b9 ?_
  case b1 => k_asm
  case b2 => k_asm
  case b3 => k_mem
  case b4 => assumption
  case b5 => exact .inr ⟨_, _, rfl⟩
  case b6 => assumption
  case b7 => exact rfl
  case b8 => exact rfl
  case b9 => exact fun h' q => keeps_M (K := kHeap w.params) (f := 200) (by k_is) h' (self := .ref P) ⟨(q.2 _ (List.Mem.tail _ (List.Mem.head _))).1, X2.keeps q.1.keep⟩
  intro h' tk9 F9 N9
  k_steps
  rename Below _ _ _ _ => B2
  rename Top _ _ _ _ _ _ => T2
  unfold Stop
  refine call_meth N9 (List.Mem.tail _ (List.Mem.head _)) ?_
  dsimp only [List.nil_append]
  refine' ctrK_mut (get_ctrK P d l tk vs n its sg _ _ _ (.inl rfl) hne hsg hits) B2 F9 X2 T2 (fun p hp => N9 p (List.Mem.tail _ (List.Mem.tail _ hp))) rfl rfl rfl ?g1 ?g2 ?g3 ?g4
  case g1 => exact hp.under (fun b o e => F9.keep _ _ (Fr.keep (by assumption) _ _ e)) fun b o e => hideAll_some e
  case g2 => ktr_room
  case g3 => ktr_units
  case g4 =>
    rename P < _ ∧ d < _ ∧ l < _ => lq
    rintro v h2 tk2 hk2 F2 ⟨hsame, hv⟩
    have N2 : News _ _ h2 [(_, methodObj (.ref 200) (.ref P)), (P, instObj 253 d), (d, _), (l, listOf vs.toArray n)] := List.forall_mem_cons.mpr ⟨⟨hk2 _ _ (hideAll_get _ (N9 _ (List.Mem.tail _ (List.Mem.head _))).1 (hd_above lq)), (N9 _ (List.Mem.tail _ (List.Mem.head _))).2⟩, fun p hp => ⟨hsame p hp, (N9 p (List.Mem.tail _ (List.Mem.tail _ hp))).2⟩⟩
    clear N9 F9
    have hgv : ∃ y, v = .str ((getF its sg).getD (Str.ofString "257 nobody")) y := by
      cases hg : getF its sg with
      | none => have := hv _ hg; subst this; exact ⟨_, rfl⟩
      | some x => obtain ⟨y, rfl⟩ := hv _ hg; exact ⟨y, rfl⟩
    obtain ⟨ty, rfl⟩ := hgv
    k_steps
    unfold Stop
    refine wpAny_call ?_
    k_enter
    k_steps
    rename (kHeap w.params).In _ => X3
    refine' call_dd ?d1 ?d2 ?d3 ?d4 ?d5 ?d6 ?d7 ?d8 ?d9 ?_
    case d1 => k_asm
    case d2 => k_asm
    case d3 => k_mem
    case d4 => assumption
    case d5 => exact .inl rfl
    case d6 => assumption
    case d7 => exact rfl
    case d8 => exact rfl
    case d9 => exact fun h' q => keeps_K (K := kHeap w.params) (by k_is) h' (X3.keeps q.1.keep)
    intro h' tk9 F9 N9
    have hok := getF_ok (nm := sg) hits
    have hlen : ((getF its sg).getD (Str.ofString "257 nobody")).length ≤ 200 := hok.len
    k_steps
    rename Below _ _ _ _ => B4
    rename Top _ _ _ _ _ _ => T4
    rename (kHeap w.params).In _ => X4
    unfold Stop
    dsimp only [List.nil_append]
    by_cases h257 : (Txt.slice ((getF its sg).getD (Str.ofString "257 nobody")) none (some 3) == Str.ofString "257") = true
    · refine' ctr_pure (parse_ctr ((getF its sg).getD (Str.ofString "257 nobody")) ty hok h257) B4 F9 X4 T4 rfl rfl rfl trivial ?f1 ?f2 ?f3
      case f1 => ktr_room
      case f2 => ktr_units
      case f3 =>
        rintro v h3 tk3 hk3 F3 ⟨ty3, rfl⟩
        have N3 := N9.grown hk3
        clear F9 N9
        k_steps
        rename Fr (hideAll s.heap _) _ _ _ => FE
        rename News (hideAll s.heap _) _ _ _ => NE
        refine ret _ _ _ _ KtsTurn.refl FE.keep ⟨fun p hp => ?_, _, by rw [toldF, if_pos h257]⟩
        exact (NE p (by first | exact hp | exact List.Mem.tail _ hp | exact List.Mem.tail _ (List.Mem.tail _ hp) | exact List.Mem.tail _ (List.Mem.tail _ (List.Mem.tail _ hp)) | exact List.Mem.tail _ (List.Mem.tail _ (List.Mem.tail _ (List.Mem.tail _ hp))))).1
    · rw [Bool.not_eq_true] at h257
      have h258 : (Txt.slice ((getF its sg).getD (Str.ofString "257 nobody")) none (some 3) != Str.ofString "257") = true := by rw [bne, h257]; rfl
      refine wpAny_call ?_
      k_enter
      k_steps
      rename KtsTurn _ _ _ => TE
      rename Fr _ L _ _ => FE
      rename News _ L _ (_ :: _) => NE
      refine ret _ _ _ _ TE FE.keep ⟨fun p hp => ?_, _, by rw [toldF, if_neg (by rw [h257]; decide)]⟩
      exact (NE p (by first | exact hp | exact List.Mem.tail _ hp | exact List.Mem.tail _ (List.Mem.tail _ hp) | exact List.Mem.tail _ (List.Mem.tail _ (List.Mem.tail _ hp)) | exact List.Mem.tail _ (List.Mem.tail _ (List.Mem.tail _ (List.Mem.tail _ hp))))).1
end
section
/-- the frames outside, held in the ledger: they may change in their slots -/
noncomputable def FsIn (g₀ : Heap) (ls : List Addr) (all : List (Addr × Obj)) : Prop := ∀ b ∈ ls, ∀ o, g₀.get? b = some o → ∃ sl, (b, { o with slots := sl }) ∈ all
theorem ctrS_led {w : World} {mean : ExcName → Option Value} {mg mb : Str → Option Value} {need : Nat} {f : Addr} {args : List Value} {kw : List (Str × Value)} {pre : Heap → Prop} {post : Heap → Heap → Value → Prop} {A₀ A : Around} {base g₀ : Heap} {outer : List Env} {env : Env} {L : Addr} {m : Str → Option Value} {s : Shared} {Q E : Value → Shared → Prop} {dp un : Nat} {gd : Option (List Code)} {hid all : List (Addr × Obj)} {ls : List Addr}
    (C : CtrS w mean mg mb need f args kw hid pre post) (B : Below A₀ base outer g₀) (D : KtsDicts ls g₀) (XB : (kHeap w.params).In base) (TB : Top kView loose1 mean mg mb base)
    (F : Fr (hideAll g₀ ls) L s.heap m) (N : News (hideAll g₀ ls) L s.heap all) (hls : outer.filterMap (·.frame) = ls) (hfs : FsIn g₀ ls all) (hhid : ∀ p ∈ hid, p ∈ all ∧ p.1 ∉ ls)
    (hA : A = Ar dp un gd (env :: outer)) (hf : env.frame = some L) (hke : env.scope.kind = .function) (hp : pre (hideAll s.heap (hid.map (·.1)))) (hd : dp + need < recursionLimit) (hu : un + 8 * need < cLine)
    (h : ∀ v h' tk' all', Fr (hideAll g₀ ls) L h' m → News (hideAll g₀ ls) L h' all' → (∀ p ∈ all, p.1 ∉ ls → p.1 ∉ hid.map (·.1) → p ∈ all') → FsIn g₀ ls all' → (∀ p ∈ all', p.1 ∈ all.map (·.1)) → post (hideAll s.heap (hid.map (·.1))) h' v → Q v { s with heap := h', toks := tk' }) :
    wpAny (model prog1 w) A (call (.ref f) args kw) Q E s := by
  subst hA
  have hidN : ∀ b ∈ hid.map (·.1), b ≠ L ∧ (hideAll g₀ ls).get? b = none ∧ b ∉ ls := fun b hb => by
    obtain ⟨p, hp, rfl⟩ := List.mem_map.mp hb
    exact ⟨(N p (hhid p hp).1).2.1, (N p (hhid p hp).1).2.2, (hhid p hp).2⟩
  have st : ∀ b o, (hideAll g₀ ls).get? b = some o → (hideAll s.heap (hid.map (·.1))).get? b = some o := fun b o e => hideAll_get _ (F.keep b o e) fun hb => by
    rw [(hidN b hb).2.1] at e; cases e
  have fsg : ∀ b ∈ ls, ∀ o, g₀.get? b = some o → ∃ sl, (hideAll s.heap (hid.map (·.1))).get? b = some { o with slots := sl } := fun b hb o e => by
    obtain ⟨sl, hm⟩ := hfs b hb o e
    exact ⟨sl, hideAll_get _ (N _ hm).1 fun hc => (hidN b hc).2.2 hb⟩
  have bn : ∀ b ∈ ls, base.get? b = none := fun b hb => (B.frames.mem (hls ▸ hb)).1
  have bst : base.StaysIn (hideAll s.heap (hid.map (·.1))) := fun b o e => st b o (hideAll_get ls (B.stays b o e) fun hb => by rw [bn b hb] at e; cases e)
  have lsL : ∀ b ∈ ls, b ≠ L := fun b hb => by
    obtain ⟨o, _, _, ho, _⟩ := D b hb
    have h1 := Heap.lt_size ho
    have h2 := F.above
    rw [hideAll_size] at h2
    exact Nat.ne_of_lt (Nat.lt_of_lt_of_le h1 h2)
  obtain ⟨oL, es, ep, hL, hLd, hLr⟩ := F.ns
  have nL : L ∉ hid.map (·.1) := fun hb => (hidN L hb).1 rfl
  have hLg := hideAll_get (hid.map (·.1)) hL nL
  have nL₀ : (hideAll g₀ ls).get? L = none := by
    cases q : (hideAll g₀ ls).get? L with
    | none => rfl
    | some o => exact absurd (Nat.lt_of_lt_of_le (Heap.lt_size q) F.above) (Nat.lt_irrefl _)
  have bL : base.get? L = none := by
    cases q : base.get? L with
    | none => rfl
    | some o =>
      have := hideAll_get ls (B.stays L o q) fun hb => lsL L hb rfl
      rw [nL₀] at this; cases this
  have hfr : (env :: outer).filterMap (·.frame) = L :: ls := by rw [List.filterMap_cons, hf, hls]
  have fun₁ : (hideAll s.heap (hid.map (·.1))).FunFrames base (env :: outer) := by
    refine ⟨by rw [hke]; decide, ⟨L, oL, hf, bL, hLg, fun vs q => by rw [hLd] at q; cases q⟩, B.frames.of_keeps fun b o e _ => ?_⟩
    by_cases hb : b ∈ ls
    · obtain ⟨sl, e'⟩ := fsg b hb o e
      exact ⟨_, e', rfl⟩
    · exact ⟨o, st b o (hideAll_get ls e hb), rfl⟩
  have D₁ : KtsDicts ((env :: outer).filterMap (·.frame)) (hideAll s.heap (hid.map (·.1))) := fun b hb => by
    rw [hfr] at hb
    rcases List.mem_cons.mp hb with rfl | hb
    · exact ⟨oL, es, ep, hLg, hLd⟩
    · obtain ⟨o, es', n', ho, hd'⟩ := D b hb
      obtain ⟨sl, e'⟩ := fsg b hb o ho
      exact ⟨_, es', n', e', hd'⟩
  refine C dp un gd (env :: outer) base s Q E ⟨⟨⟨rfl, bst, fun₁⟩, XB.keeps bst, TB.keeps bst, hd, hu⟩, XB, TB, D₁⟩ (fun p hp => (N p (hhid p hp).1).1) hp fun v h' tk' g' T k p => ?_
  rw [hfr] at T
  have keep' : ∀ b o, (hideAll s.heap (hid.map (·.1))).get? b = some o → b ≠ L → b ∉ ls → h'.get? b = some o := fun b o e n1 n2 => k b o (T.other b o e fun hm => by
    rcases List.mem_cons.mp hm with e | e
    · exact n1 e
    · exact n2 e)
  have fs' : ∀ b ∈ ls, ∀ o, g₀.get? b = some o → ∃ sl, h'.get? b = some { o with slots := sl } := fun b hb o e => by
    obtain ⟨sl, e'⟩ := fsg b hb o e
    obtain ⟨sl2, e2⟩ := T.frame b _ e' (List.mem_cons_of_mem _ hb)
    exact ⟨sl2, k _ _ e2⟩
  refine h v h' tk' (all.filter (fun p => decide (p.1 ∉ ls) && decide (p.1 ∉ hid.map (·.1))) ++ ls.filterMap fun b => (h'.get? b).map fun o => (b, o)) ⟨?_, fun b o e => keep' b o (st b o e) (fun q => by rw [q, nL₀] at e; cases e) (fun hb => by rw [hideAll_none ls hb] at e; cases e), F.above⟩ (fun q hq => ?_) (fun q hq n1 n2 => ?_) (fun b hb o e => ?_) (fun q hq => ?_) p
  · obtain ⟨sl, hs⟩ := T.frame L oL hLg (List.Mem.head _)
    exact ⟨_, es, ep, k _ _ hs, hLd, hLr⟩
  · rcases List.mem_append.mp hq with hq | hq
    · obtain ⟨hq, hc⟩ := List.mem_filter.mp hq
      have hc' := Bool.and_eq_true_iff.mp hc
      have z := N q hq
      exact ⟨keep' _ _ (hideAll_get _ z.1 (of_decide_eq_true hc'.2)) z.2.1 (of_decide_eq_true hc'.1), z.2⟩
    · obtain ⟨b, hb, hq⟩ := List.mem_filterMap.mp hq
      obtain ⟨o, ho, rfl⟩ := Option.map_eq_some_iff.mp hq
      exact ⟨ho, lsL b hb, hideAll_none ls hb⟩
  · exact List.mem_append.mpr (.inl (List.mem_filter.mpr ⟨hq, Bool.and_eq_true_iff.mpr ⟨decide_eq_true n1, decide_eq_true n2⟩⟩))
  · obtain ⟨sl, e'⟩ := fs' b hb o e
    exact ⟨sl, List.mem_append.mpr (.inr (List.mem_filterMap.mpr ⟨b, hb, by rw [e']; rfl⟩))⟩
  · rcases List.mem_append.mp hq with hq | hq
    · exact List.mem_map_of_mem (List.mem_filter.mp hq).1
    · obtain ⟨b, hb, hq⟩ := List.mem_filterMap.mp hq
      obtain ⟨o, ho, rfl⟩ := Option.map_eq_some_iff.mp hq
      obtain ⟨o₀, _, _, ho₀, _⟩ := D b hb
      obtain ⟨sl, hm⟩ := hfs b hb o₀ ho₀
      exact List.mem_map.mpr ⟨_, hm, rfl⟩
theorem hide_frames {A₀ : Around} {base g₀ h : Heap} {outer : List Env} {L : Addr} {m : Str → Option Value} {all : List (Addr × Obj)} {ls : List Addr}
    (B : Below A₀ base outer g₀) (D : KtsDicts ls g₀) (hls : outer.filterMap (·.frame) = ls) (F : Fr g₀ L h m) (N : News g₀ L h all) :
    ∃ fs, Fr (hideAll g₀ ls) L h m ∧ News (hideAll g₀ ls) L h (all ++ fs) ∧ FsIn g₀ ls fs ∧ (∀ p ∈ all, p.1 ∉ ls) ∧ (∀ p ∈ fs, p.1 ∈ ls) ∧ (∀ b ∈ ls, b ≠ L) ∧ base.StaysIn (hideAll g₀ ls) := by
  have bn : ∀ b ∈ ls, base.get? b = none := fun b hb => (B.frames.mem (hls ▸ hb)).1
  have lsL : ∀ b ∈ ls, b ≠ L := fun b hb => by
    obtain ⟨o, _, _, ho, _⟩ := D b hb
    exact Nat.ne_of_lt (Nat.lt_of_lt_of_le (Heap.lt_size ho) F.above)
  refine ⟨ls.filterMap fun b => (h.get? b).map fun o => (b, o), ⟨F.ns, fun b o e => F.keep b o (of_hideAll ls e), by rw [hideAll_size]; exact F.above⟩, fun q hq => ?_, fun b hb o e => ?_, fun q hq hb => ?_, fun q hq => ?_, lsL,
    fun b o e => hideAll_get ls (B.stays b o e) fun hb => by rw [bn b hb] at e; cases e⟩
  · rcases List.mem_append.mp hq with hq | hq
    · have z := N q hq
      refine ⟨z.1, z.2.1, ?_⟩
      cases e : (hideAll g₀ ls).get? q.1 with
      | none => rfl
      | some o => have := of_hideAll ls e; rw [z.2.2] at this; cases this
    · obtain ⟨b, hb, hq⟩ := List.mem_filterMap.mp hq
      obtain ⟨o, ho, rfl⟩ := Option.map_eq_some_iff.mp hq
      exact ⟨ho, lsL b hb, hideAll_none ls hb⟩
  · exact ⟨o.slots, List.mem_filterMap.mpr ⟨b, hb, by rw [F.keep b o e]; rfl⟩⟩
  · obtain ⟨o, _, _, ho, _⟩ := D _ hb
    rw [(N q hq).2.2] at ho; cases ho
  · obtain ⟨b, hb, hq⟩ := List.mem_filterMap.mp hq
    obtain ⟨o, ho, rfl⟩ := Option.map_eq_some_iff.mp hq
    exact hb
/-- the end of such a walk -/
theorem turn_end {g₀ h : Heap} {ls : List Addr} {L : Addr} {m : Str → Option Value} {all : List (Addr × Obj)} (D : KtsDicts ls g₀) (F : Fr (hideAll g₀ ls) L h m) (N : News (hideAll g₀ ls) L h all) (hfs : FsIn g₀ ls all) :
    ∃ g', KtsTurn ls g₀ g' ∧ Kept g' h := by
  obtain ⟨T, S⟩ := kts_turn_at (h := h) (fs := ls) (g := g₀) (fun b hb => by obtain ⟨o, _, _, ho, _⟩ := D b hb; exact ⟨o, ho⟩) (fun b o e n => F.keep b o (hideAll_get ls e n)) (fun b o e hb => by
    obtain ⟨sl, hm⟩ := hfs b hb o e
    exact ⟨sl, (N _ hm).1⟩)
  exact ⟨_, T, S⟩
noncomputable def StrsAre (ys : List Value) (ss : List Str) : Prop := ys.length = ss.length ∧ ∀ (i : Nat) (s : Str), ss[i]? = some s → ∃ t, ys[i]? = some (.str s t)
theorem StrsAre.snoc {ys : List Value} {ss : List Str} (x : StrsAre ys ss) (s : Str) (t : Tok) : StrsAre (ys ++ [.str s t]) (ss ++ [s]) := by
  refine ⟨by simp [x.1], fun i q e => ?_⟩
  by_cases hi : i < ss.length
  · rw [List.getElem?_append_left hi] at e
    obtain ⟨t', e'⟩ := x.2 i q e
    exact ⟨t', by rw [List.getElem?_append_left (by rw [x.1]; exact hi)]; exact e'⟩
  · have hlt : i < (ss ++ [s]).length := (List.getElem?_eq_some_iff.mp e).1
    have hi' : i = ss.length := by simp at hlt; omega
    subst hi'
    simp at e
    subst e
    exact ⟨t, by rw [← x.1]; simp⟩
section
variable {prog : Program} {w : World} {A : Around} {E : Value → Shared → Prop} {s : Shared} {h₀ : Heap} {L : Addr} {m : Str → Option Value} {news : List (Addr × Obj)}
/-- a text of a list of the ledger -/
theorem subS {l : Addr} {vs : List Value} {ss : List Str} {n : Nat} {k : Int} {u : Tok} {value slice : Expr} {Q : Value → Shared → Prop} (N : News h₀ L s.heap news) (hm : (l, listOf vs.toArray n) ∈ news) (hi : StrsAre vs ss)
    (h0 : 0 ≤ k) (hk : k < ss.length) (hz : ss.length ≤ 1000000) (h : ∀ t, Q (.str (ss.getD k.toNat (Str.ofString "")) t) s)
    (hs : subscripted slice false (.ref l) (.int k u) = operate [.ref l, .int k u] (getItem (.ref l) (.int k u)) := by with_unfolding_all rfl) :
    wpAny (model prog w) A (subscriptTail value slice (.ref l) (.int k u)) Q E s := by
  have hlt : k.toNat < ss.length := by omega
  obtain ⟨t, hx⟩ := hi.2 k.toNat (ss[k.toNat]'hlt) (List.getElem?_eq_getElem hlt)
  have e : ss.getD k.toNat (Str.ofString "") = ss[k.toNat]'hlt := by rw [List.getD_eq_getElem?_getD, List.getElem?_eq_getElem hlt]; rfl
  refine tail_any (Heap.IsList.typeIs ⟨_, (N _ hm).1, rfl, n, rfl⟩) slot_list_getitem.lookup (wpAny_getItem_list (x := .str (ss[k.toNat]'hlt) t) ⟨_, (N _ hm).1, rfl, n, rfl⟩ h0 (by omega) (by simpa using hx) ?_) hs
  rw [← e]; exact h t
end
theorem StrsAre.lib : ∀ {ys : List Value} {ss : List Str}, StrsAre ys ss → PyProof.Rows.StrsAre ys ss
  | [], [], _ => .nil
  | [], _ :: _, h => absurd h.1 (by simp)
  | _ :: _, [], h => absurd h.1 (by simp)
  | y :: ys, s :: ss, h => by
    obtain ⟨t, e⟩ := h.2 0 s rfl
    have e' : y = .str s t := by simpa using e
    subst e'
    exact .cons s t (StrsAre.lib ⟨by have := h.1; simpa using this, fun i q e => by simpa using h.2 (i + 1) q (by simpa using e)⟩)
end
section
noncomputable def sgn (j : Nat) : Str := Txt.item (Str.ofString "\"abcd") (j : Int)
theorem item_le (x : Str) (i : Int) : (Txt.item x i).length ≤ 1 := by
  unfold Txt.item
  first | (split <;> first | decide | exact Nat.le_refl _) | exact Nat.le_refl _ | simp [Str.length]
theorem parseGo_len (rs : Str) : ∀ (f i : Nat) (d : Str), (parseGo rs f i d).length ≤ d.length + f := by
  intro f
  induction f using Nat.strongRecOn with
  | _ f ih =>
    intro i d
    cases f with
    | zero => unfold parseGo; omega
    | succ f =>
      unfold parseGo
      have hi := item_le rs (i : Int)
      split
      · split
        · split
          · have := ih (f - 1) (by omega) (i + 2) (d ++ Txt.item rs (i : Int))
            rw [len_app] at this; omega
          · omega
        · have := ih f (by omega) (i + 1) (d ++ Txt.item rs (i : Int))
          rw [len_app] at this; omega
      · omega
theorem toldF_len {its : List (Str × Str)} (h : OkL its) (sg : Str) : (toldF its sg).length ≤ 300 := by
  unfold toldF
  split
  · have ho := (getF_ok (nm := sg) h).len
    unfold parseF
    split
    · have := parseGo_len ((getF its sg).getD (Str.ofString "257 nobody")) (((getF its sg).getD (Str.ofString "257 nobody")).length + 2) 5 (Str.ofString "")
      have e : (Str.ofString "").length = 0 := rfl
      omega
    · exact Nat.zero_le _
  · exact Nat.zero_le _
theorem sgn_len (x : Nat) : (sgn x).length = 1 := rfl
theorem sum_ones : ∀ l : List Nat, ((l.map sgn).map (·.length)).sum = l.length
  | [] => rfl
  | a :: l => by simp only [List.map_cons, List.sum_cons, sgn_len, List.length_cons, sum_ones l]; omega
theorem joinS_ones : ∀ l : List Nat, (PySem.Str.join (Str.ofString "") (l.map sgn)).length ≤ l.length
  | [] => Nat.le_refl _
  | [a] => Nat.le_refl _
  | a :: b :: l => by
    have ih := joinS_ones (b :: l)
    have e : PySem.Str.join (Str.ofString "") ((a :: b :: l).map sgn) = sgn a ++ Str.ofString "" ++ PySem.Str.join (Str.ofString "") ((b :: l).map sgn) := rfl
    have e0 : (Str.ofString "").length = 0 := rfl
    rw [e, len_app, len_app, sgn_len, e0]
    simp only [List.length_cons] at ih ⊢
    omega
theorem join_ones : ∀ l : List Nat, (Txt.join (Str.ofString "") (l.map sgn)).length ≤ l.length
  | [] => Nat.le_refl _
  | a :: l => by
    have e : Txt.join (Str.ofString "") ((a :: l).map sgn) = PySem.Str.join (Str.ofString "") ((a :: l).map sgn) := StrLaws.glued_cons _ _ _
    rw [e]
    exact joinS_ones (a :: l)
theorem sgns_sum (f : Nat → Bool) (i n : Nat) (h : i + n ≤ 4) : (((((List.range n).filter f).map fun q => sgn (i + 1 + q)).map (·.length)).sum + ((((List.range n).filter f).map fun q => sgn (i + 1 + q)).length) * (Str.ofString "").length ≤ 8) ∧ (Txt.join (Str.ofString "") (((List.range n).filter f).map fun q => sgn (i + 1 + q))).length ≤ 8 := by
  have hl : ((List.range n).filter f).length ≤ 4 := Nat.le_trans (List.length_filter_le _ _) (by simp; omega)
  have e : (((List.range n).filter f).map fun q => sgn (i + 1 + q)) = (((List.range n).filter f).map fun q => i + 1 + q).map sgn := by rw [List.map_map]; rfl
  have e0 : (Str.ofString "").length = 0 := rfl
  rw [e, sum_ones, e0, Nat.mul_zero, List.length_map]
  have := join_ones (((List.range n).filter f).map fun q => i + 1 + q)
  rw [List.length_map] at this
  exact ⟨by omega, by omega⟩
end
section
theorem grab_n1 {h₀ h : Heap} {L D : Addr} {o : Obj} {P : Prop} (_N : News h₀ L h [(D, o)]) (k : ∀ D', D' = D → P) : P := k D rfl
structure CeS where
  vs : List Value
  ts : List Int
  n : Nat
theorem cells_ctr {w : World} {mean : ExcName → Option Value} {mg mb : Str → Option Value} (a : Addr) (ns : List Int) (hlen : ns.length ≤ 63) :
    Ctr w mean mg mb 8 264 [.ref a] [] [] (fun g => ∃ vs, g.IsList a vs.toArray ∧ IntsAre vs ns) (fun g h v => ∃ cs : List Int, (cs.length = 4 ∧ (∀ t ∈ cs, 0 ≤ t ∧ t < 100000)) ∧ NewInts cs g h v) := by
  refine ctr_of ?_
  intro dp un gd fr base s Q E B X T hd hu hp ret
  obtain ⟨vs, hl, hi⟩ := hp
  have hvl : vs.length = ns.length := hi.length
  k_dflt cell_enter
  k_steps
  rename Fr _ _ _ _ => F
  rename News _ _ _ [(_, _)] => N
  unfold Stop
  have hmn : (if (16 : Int) < (ns.length : Int) then (16 : Int) else (ns.length : Int)) = ((min ns.length 16 : Nat) : Int) := by
    split <;> omega
  rw [hmn] at *
  refine grab_n1 N fun D hD => ?_
  subst hD
  refine' lf_range (σ := CeS) (n := min ns.length 16) (fun _ => []) (fun c => [(D, listOf c.vs.toArray c.n)]) (fun i c => IntsAre c.vs c.ts ∧ c.ts.length = 4 ∧ ∀ t ∈ c.ts, 0 ≤ t ∧ t ≤ 53 + 1000 * (i : Int)) ["k"] (CeS.mk [.int 9 _, .int 7 _, .int 53 _, .int 9 _] [9, 7, 53, 9] _) rfl (by assumption) ?hsm ?hsz F N ?hn ?hk ?hp ?turn ?done
  case hsm => exact small_of (by omega) (by omega) (by omega) (by omega)
  case hsz => rw [rangeSize_nat]; omega
  case hn => k_allIn
  case hk => ktr_unf
  case hp => exact ⟨.cons _ _ (.cons _ _ (.cons _ _ (.cons _ _ .nil))), rfl, by show ∀ t ∈ ([9, 7, 53, 9] : List Int), 0 ≤ t ∧ t ≤ 53 + 1000 * ((0 : Nat) : Int); decide⟩
  case turn =>
    clear F N
    intro i v c u I oI h tk5 hi9 hv hP hoff hst F N
    obtain ⟨t5, rfl⟩ := hv
    obtain ⟨p1, p2, p3⟩ := hP
    refine let_name ?_
    have e0 : (0 : Int) + (i : Int) = (i : Int) := by omega
    rw [e0]
    have hi2 : i < ns.length := by omega
    have hmod : 0 ≤ (i : Int).fmod 4 ∧ (i : Int).fmod 4 < 4 := ⟨Int.fmod_nonneg_of_pos _ (by decide), Int.fmod_lt_of_pos _ (by decide)⟩
    try k_fold
    k_steps
    unfold Stop
    rename News _ _ _ _ => N9
    refine' lf_end (CeS.mk _ (c.ts.set ((i : Int).fmod 4).toNat (c.ts.getD ((i : Int).fmod 4).toNat 0 + (ns.getD (i : Int).toNat 0).fmod 1000)) _) (by assumption) N9 ?hn3 ?ho3 ?hoff3 ?hk3 ?hr3 ?hp3
    case hn3 => exact List.forall_mem_cons.mpr ⟨by k_memK, fun _ h => nomatch h⟩
    case ho3 => exact fun p hp => List.Mem.tail _ hp
    case hoff3 => exact hoff
    case hk3 => ktr_unf
    case hr3 => ksw_less
    case hp3 =>
      refine ⟨by assumption, by rw [List.length_set]; exact p2, fun t ht => ?_⟩
      have hm9 : 0 ≤ (ns.getD (i : Int).toNat 0).fmod 1000 ∧ (ns.getD (i : Int).toNat 0).fmod 1000 < 1000 := ⟨Int.fmod_nonneg_of_pos _ (by decide), Int.fmod_lt_of_pos _ (by decide)⟩
      rcases List.mem_or_eq_of_mem_set ht with h1 | rfl
      · have := p3 t h1; omega
      · have hlt : ((i : Int).fmod 4).toNat < c.ts.length := by omega
        have hg : c.ts.getD ((i : Int).fmod 4).toNat 0 ∈ c.ts := by
          rw [List.getD_eq_getElem?_getD, List.getElem?_eq_getElem hlt]; exact List.getElem_mem hlt
        have := p3 _ hg
        omega
  case done =>
    clear F N
    intro c u h tk hP F N
    obtain ⟨p1, p2, p3⟩ := hP
    try k_fold
    k_steps
    rename Fr _ _ _ _ => F
    rename News _ _ _ _ => N
    have hN := N _ (List.Mem.head _)
    refine ret _ _ _ F.keep ⟨c.ts, ⟨p2, fun t ht => ?_⟩, D, c.vs, c.n, rfl, hN.2.2, hN.1, p1⟩
    have := p3 t ht
    omega
end
section
local macro_rules | `(tactic| walk_at "exec For Tuple Name cons nil") => `(tactic| (k_here; (rename Fr _ _ _ _ => lF'); (with_unfolding_all refine' lf_for lF' ?_)))
local macro_rules | `(tactic| walk_at "call builtin:list.append") => `(tactic| (k_here; (with_reducible show wpAny _ _ (call (Value.builtin _) [Value.ref _, _]) _ _ _); refine' append_K ?k1 ?k2 ?k3 ?_ ?z; (case k1 => k_asm); (case k2 => k_asm); (case k3 => k_upd); (case z => assumption); k_whole; intro h' F' N'; (try k_sweep)))
local macro_rules | `(tactic| walk_at "call ref") => `(tactic| ((fail_if_success (with_reducible show wpAny _ _ (call (Value.ref 253) _ _) _ _ _)); (fail_if_success (with_reducible show wpAny _ _ (call (Value.ref 250) _ _) _ _ _)); refine Stop.out ?_))
theorem grab_hd {w : World} {h₀ h : Heap} {L P d l : Addr} {tk : Tok} {vs : List Value} {n : Nat} {G : Prop} (_N : News h₀ L h (hdLed w P d l tk vs n)) (k : ∀ P' d' l' tk', P' = P → d' = d → l' = l → News h₀ L h (hdLed w P' d' l' tk' vs n) → G) : G := k P d l tk rfl rfl rfl _N
/-- the lines among the ledger -/
noncomputable def LinesIn (nx : List (Addr × Obj)) (vs : List Value) (its : List (Str × Str)) : Prop := vs.length = its.length ∧ ∀ (i : Nat) (p : Str × Str), its[i]? = some p → ∃ (r : Addr) (t1 t2 : Tok) (n : Nat), vs[i]? = some (.ref r) ∧ (r, tupP p t1 t2 n) ∈ nx
structure HS where
  vs : List Value
  n : Nat
  nx : List (Addr × Obj)
  its : List (Str × Str)
theorem plain_app {a b : Str} (x : Plain a) (y : Plain b) : Plain (a ++ b) := fun c hc => by
  have hc' : c ∈ (a.cps ++ b.cps).toList := hc
  rw [Array.toList_append] at hc'
  rcases List.mem_append.mp hc' with h | h
  · exact x c h
  · exact y c h
theorem wordF_ok (c : Int) : ∀ k, k < 5 → Plain (wordF c k) ∧ (wordF c k).length ≤ 2 * k
  | 0, _ => ⟨fun _ h => (nomatch h), Nat.le_refl _⟩
  | k + 1, h => by
    obtain ⟨h1, h2⟩ := wordF_ok c k (by omega)
    have hs : ∀ i : Fin 5, (∀ c ∈ (signW i.val).cps.toList, 32 ≤ c ∧ c < 127) ∧ (signW i.val).length ≤ 2 := by decide +kernel
    rw [wordF_succ]
    unfold wordStep
    split
    · exact ⟨plain_app h1 (hs ⟨k, by omega⟩).1, by rw [len_app]; have := (hs ⟨k, by omega⟩).2; dsimp only at this; omega⟩
    · exact ⟨h1, by omega⟩
theorem lit_plain : (∀ c ∈ (Str.ofString "257").cps.toList, 32 ≤ c ∧ c < 127) ∧ (∀ c ∈ (Str.ofString "250").cps.toList, 32 ≤ c ∧ c < 127) ∧ (∀ c ∈ (Str.ofString " \"").cps.toList, 32 ≤ c ∧ c < 127) ∧ (∀ c ∈ (Str.ofString "\"").cps.toList, 32 ≤ c ∧ c < 127) ∧ (∀ c ∈ (Str.ofString "\" is near").cps.toList, 32 ≤ c ∧ c < 127) := by decide +kernel
theorem replyF_ok (c : Int) (n : Nat) (h : n < 5) : Ok (replyF c n) := by
  obtain ⟨h1, h2⟩ := wordF_ok c n h
  obtain ⟨q1, q2, q3, q4, q5⟩ := lit_plain
  have n1 : (Str.ofString "257").length = 3 := by decide +kernel
  have n2 : (Str.ofString "250").length = 3 := by decide +kernel
  have n3 : (Str.ofString " \"").length = 2 := by decide +kernel
  have n4 : (Str.ofString "\"").length = 1 := by decide +kernel
  have n5 : (Str.ofString "\" is near").length = 9 := by decide +kernel
  have n6 : (Str.ofString "").length = 0 := by decide +kernel
  unfold replyF
  split
  · exact ⟨plain_app (plain_app (plain_app q1 q3) h1) q4, by show Str.length _ ≤ 200; simp only [len_app, n1, n2, n3, n4, n5]; omega⟩
  · exact ⟨plain_app (plain_app (plain_app q1 q3) h1) q5, by show Str.length _ ≤ 200; simp only [len_app, n1, n2, n3, n4, n5]; omega⟩
  · exact ⟨plain_app (plain_app (plain_app q1 q3) h1) (fun _ h => nomatch h), by show Str.length _ ≤ 200; simp only [len_app, n1, n2, n3, n4, n5, n6]; omega⟩
  · exact ⟨plain_app (plain_app (plain_app q2 q3) h1) q4, by show Str.length _ ≤ 200; simp only [len_app, n1, n2, n3, n4, n5]; omega⟩
theorem sign_ok : ∀ i : Fin 4, ((∀ c ∈ (Txt.item (Str.ofString "ABCD") (1 + (i.val : Int) - 1)).cps.toList, 32 ≤ c ∧ c < 127) ∧ (Txt.item (Str.ofString "ABCD") (1 + (i.val : Int) - 1)).cps.size ≤ 200) ∧
    ((∀ c ∈ (Txt.item (Str.ofString "abcd") (1 + (i.val : Int) - 1)).cps.toList, 32 ≤ c ∧ c < 127) ∧ (Txt.item (Str.ofString "abcd") (1 + (i.val : Int) - 1)).cps.size ≤ 200) := by decide +kernel
theorem allLt_to {d : Addr} : ∀ {l : List (Addr × Obj)}, AllLt d l → ∀ p ∈ l, @LT.lt Nat _ p.1 d
  | [], _ => fun _ h => (nomatch h)
  | q :: r, h => fun p hp => by
    rcases List.mem_cons.mp hp with e | m
    · rw [e]; exact h.1
    · exact allLt_to (l := r) h.2 p m
theorem join1 (a b : Str) : Txt.join a [b] = b := by
  obtain ⟨c⟩ := b
  rfl
theorem LinesIn.snoc {nx : List (Addr × Obj)} {vs : List Value} {its : List (Str × Str)} (x : LinesIn nx vs its) {r : Addr} {p : Str × Str} {t1 t2 : Tok} {n : Nat} : LinesIn ((r, tupP p t1 t2 n) :: nx) (vs ++ [.ref r]) (its ++ [p]) := by
  refine ⟨by simp [x.1], fun i q e => ?_⟩
  by_cases hi : i < its.length
  · rw [List.getElem?_append_left hi] at e
    obtain ⟨r', a, b, c, e1, e2⟩ := x.2 i q e
    exact ⟨r', a, b, c, by rw [List.getElem?_append_left (by rw [x.1]; exact hi)]; exact e1, .tail _ e2⟩
  · have hlt : i < (its ++ [p]).length := (List.getElem?_eq_some_iff.mp e).1
    have hi' : i = its.length := by simp at hlt; omega
    subst hi'
    simp at e
    subst e
    exact ⟨r, t1, t2, n, by rw [← x.1]; simp, .head _⟩
theorem OkL.snoc {its : List (Str × Str)} (h : OkL its) {p : Str × Str} (hl : its.length < 50) (h1 : Ok p.1) (h2 : Ok p.2) : OkL (its ++ [p]) := by
  refine ⟨by simp; omega, fun q hq => ?_⟩
  rcases List.mem_append.mp hq with hq | hq
  · exact h.2 q hq
  · rw [List.mem_singleton.mp hq]; exact ⟨h1, h2⟩
noncomputable def signF (c : Int) (k : Nat) : Str := Txt.item (if (((c.fdiv (2 ^ k)).fdiv 4).fmod 2 != 0) = true then Str.ofString "ABCD" else Str.ofString "abcd") ((k : Int) - 1)
noncomputable def pageStep (cs : List Int) (its : List (Str × Str)) (i : Nat) : List (Str × Str) :=
  if (cs.getD i 0).fmod (2 ^ (i + 1)) > 0 then its ++ [(signF (cs.getD i 0) (i + 1), replyF (cs.getD i 0) (i + 1))] else its
noncomputable def pageF (cs : List Int) (i : Nat) : List (Str × Str) := (List.range i).foldl (pageStep cs) []
theorem pageF_succ (cs : List Int) (i : Nat) : pageF cs (i + 1) = pageStep cs (pageF cs i) i := by unfold pageF; rw [List.range_succ, List.foldl_append]; rfl
theorem IfExp_strs {prog : Program} {w : World} {A : Around} {E : Value → Shared → Prop} {s : Shared} {env : Env} {test : Expr} {x y : Str} {k1 k2 : Nat} {p1 p2 pos : Pos} {Q : Value → Shared → Prop}
    (h : wpAny (model prog w) A (isTrue test env (eval test env)) (fun c s₂ => ∀ t tk, Q (.str (if c = true then x else y) t) { s₂ with toks := tk }) E s) :
    wpAny (model prog w) A (eval (.IfExp test (.Constant (.str x) k1 p1) (.Constant (.str y) k2 p2) pos) env) Q E s :=
  IfExp_ (wpAny_mono h (fun c s₂ h₂ => by cases c <;> exact Calls.Constant_str (h₂ _ _)) fun _ _ e => e)
theorem item_any {prog : Program} {w : World} {A : Around} {E : Value → Shared → Prop} {s : Shared} {x : Str} {t : Tok} {i : Int} {u : Tok} {n : Nat} {value slice : Expr} {Q : Value → Shared → Prop} (hk : x.length = n) (h0 : 0 ≤ i) (h1 : i < (n : Int)) (hn : n ≤ 16777216)
    (h : ∀ S t' tk, S = Txt.item x i → S.length = 1 → Q (.str S t') { s with toks := tk })
    (hs : subscripted slice false (.str x t) (.int i u) = operate [.str x t, .int i u] (getItem (.str x t) (.int i u)) := by with_unfolding_all rfl)
    (ht : ∀ r, letTemporaryGo value (.str x t) r = pure () := by intro _; with_unfolding_all rfl) :
    wpAny (model prog w) A (subscriptTail value slice (.str x t) (.int i u)) Q E s := KXi.item hk (by omega) h1 hn (fun e => h _ _ _ rfl e) hs ht
local macro_rules | `(tactic| walk_at "eval IfExp") => `(tactic| (k_here; refine IfExp_strs ?_; k_whole))
theorem page_ctr {w : World} {mean : ExcName → Option Value} {mg mb : Str → Option Value} (a : Addr) (cs : List Int) (hc : cs.length = 4 ∧ ∀ t ∈ cs, 0 ≤ t ∧ t < 100000) :
    Ctr w mean mg mb 24 278 [.ref a] [] [] (fun g => ∃ vs, g.IsList a vs.toArray ∧ IntsAre vs cs) (fun g h v => ∃ P d l tk vs n nx, v = .ref P ∧ (@Ne Nat P d ∧ @Ne Nat P l ∧ @Ne Nat d l) ∧ (∀ p ∈ hdLed w P d l tk vs n ++ nx, h.get? p.1 = some p.2 ∧ g.get? p.1 = none) ∧ LinesIn nx vs (pageF cs 4) ∧ OkL (pageF cs 4) ∧ (∀ p ∈ nx, p.1 ≠ P ∧ p.1 ≠ d ∧ p.1 ≠ l)) := by
  refine ctr_of ?_
  intro dp un gd fr base s Q E B X T hd hu hp ret
  obtain ⟨vs, hl, hi⟩ := hp
  k_dflt cell_enter
  k_steps
  rename Fr _ _ _ _ => F1
  rename News _ _ _ _ => N1
  refine grab_hd (w := w) (vs := []) N1 fun P d l tk0 e1 e2 e3 N2 => ?_
  subst e1 e2 e3
  clear N1
  unfold Stop
  refine' lf_list (σ := Unit) (its := #[]) (fun _ => []) (fun _ => hdLed w P d l tk0 [] 0) (fun _ _ => True) ["k", "v"] () rfl ?hl F1 N2 ?hn ?hk trivial ?turn ?done
  case hn => exact fun _ h => h
  case hl => exact fun i c _ => .inr ⟨_, List.Mem.tail _ (List.Mem.tail _ (List.Mem.head _)), rfl, _, rfl⟩
  case hk => ktr_unf
  case turn => exact fun i v c u I oI h tk hi => absurd hi (Nat.not_lt_zero _)
  case done =>
    clear F1 N2
    intro c u h tk _ F N
    try k_fold
    k_steps
    clear N
    rename Fr s.heap _ _ _ => F
    rename News s.heap _ _ _ => N
    unfold Stop
    refine' lf_range (σ := HS) (n := 4) (fun _ => []) (fun c => hdLed w P d l tk0 c.vs c.n ++ c.nx) (fun i c => c.its = pageF cs i ∧ LinesIn c.nx c.vs c.its ∧ OkL c.its ∧ c.its.length ≤ i ∧ (∀ p ∈ c.nx, p.1 ≠ P ∧ p.1 ≠ d ∧ p.1 ≠ l)) ["k", "cell", "sign"] (HS.mk [] 0 [] []) rfl (by assumption) ?hsm1 ?hsz1 F N ?hn1 ?hk1 ?hp1 ?turn1 ?done1
    case hsm1 => decide
    case hsz1 => decide
    case hn1 => exact fun _ h => h
    case hk1 => ktr_unf
    case hp1 => exact ⟨rfl, ⟨rfl, fun _ _ e => nomatch e⟩, ⟨by decide, fun _ h => nomatch h⟩, Nat.le_refl _, fun _ h => nomatch h⟩
    case turn1 =>
      clear F N
      intro i v c u I oI h tk5 hi9 hv hP hoff hst F N
      obtain ⟨t5, rfl⟩ := hv
      obtain ⟨p1, p2, p3, p4, p5⟩ := hP
      refine let_name ?_
      have ei : ((1 : Int) + (i : Int) - 1).toNat = i := by omega
      have ekx : ((1 : Int) + (i : Int)).toNat = i + 1 := by omega
      have hpw : (2 : Int) ^ ((1 : Int) + (i : Int)).toNat ≠ 0 := by rw [ekx]; exact Int.ne_of_gt (Int.pow_pos (by decide))
      have hpy : Builtin.divisionGoesByPylong (cs.getD ((1 : Int) + (i : Int) - 1).toNat 0) (2 ^ ((1 : Int) + (i : Int)).toNat) = false := by
        rw [ekx]; exact noPylong_pow (by omega)
      try k_fold
      have hcc : 0 ≤ cs.getD ((1 : Int) + (i : Int) - 1).toNat 0 ∧ cs.getD ((1 : Int) + (i : Int) - 1).toNat 0 < 100000 := by
        rw [ei]
        have hlt : i < cs.length := by omega
        rw [List.getD_eq_getElem?_getD, List.getElem?_eq_getElem hlt]
        exact hc.2 _ (List.getElem_mem hlt)
      k_steps
      · try dsimp only
        refine item_any (n := 4) (by split <;> decide +kernel) (by omega) (by omega) (by decide) ?_
        intro S tS tkS hS hSl
        k_steps
        unfold Stop
        rename Fr s.heap L _ _ => F
        rename News s.heap L _ _ => N
        refine' ctr_pure (reply_ctr ((1 : Int) + (i : Int)) (cs.getD ((1 : Int) + (i : Int) - 1).toNat 0) (i + 1) t5 _ ⟨by omega, by omega⟩ (by omega) hcc) B F X T rfl rfl rfl trivial ?e1 ?e2 ?e3
        case e1 => ktr_room
        case e2 => ktr_units
        case e3 =>
          rintro v h' tk' hk' F' ⟨tr, rfl⟩
          have N' := N.grown hk'
          clear F N
          dsimp only [hdLed, List.cons_append, List.nil_append] at N'
          have hrok := replyF_ok (cs.getD ((1 : Int) + (i : Int) - 1).toNat 0) (i + 1) (by omega)
          have hsok : Ok S := by
            rw [hS]
            split
            · exact (sign_ok ⟨i, hi9⟩).1
            · exact (sign_ok ⟨i, hi9⟩).2
          have hlr : (replyF (cs.getD ((1 : Int) + (i : Int) - 1).toNat 0) (i + 1)).length ≤ 200 := hrok.len
          have ho : OwnOff (c.nx ++ [(I, oI)]) [P, d, l] := fun p hp b hb => by
            rcases List.mem_append.mp hp with hp | hp
            · obtain ⟨q1, q2, q3⟩ := p5 p hp
              rcases List.mem_cons.mp hb with rfl | hb
              · exact q1
              rcases List.mem_cons.mp hb with rfl | hb
              · exact q2
              · rw [List.mem_singleton.mp hb]; exact q3
            · exact hoff p hp b (List.mem_map.mpr (by
                rcases List.mem_cons.mp hb with rfl | hb
                · exact ⟨_, List.Mem.head _, rfl⟩
                rcases List.mem_cons.mp hb with rfl | hb
                · exact ⟨_, List.Mem.tail _ (List.Mem.head _), rfl⟩
                · rw [List.mem_singleton.mp hb]; exact ⟨_, List.Mem.tail _ (List.Mem.tail _ (List.Mem.head _)), rfl⟩))
          have m1 : @Ne Nat P d := by omega
          have m2 : @Ne Nat P l := by omega
          have m3 : @Ne Nat d l := by omega
          have hz : c.vs.toArray.size ≤ sizeLine := by
            rw [List.size_toArray, p2.1]
            exact Nat.le_trans p3.1 (by decide)
          k_steps
          rename Fr _ _ _ _ => F1
          rename News _ _ _ _ => N1
          rename Below _ _ _ _ => B1
          rename Top _ _ _ _ _ _ => T1
          rename (kHeap w.params).In _ => X1
          unfold Stop
          refine' ctr_pure (conv_ctr (.ref P) (replyF (cs.getD ((1 : Int) + (i : Int) - 1).toNat 0) (i + 1)) _ false hrok.1 hrok.fits) B1 F1 X1 T1 rfl rfl rfl trivial ?e5 ?e6 ?e7
          case e5 => ktr_room
          case e6 => ktr_units
          case e7 =>
            rintro v h2 tk2 hk2 F2 rfl
            have N2 := N1.grown hk2
            k_steps
            rename Fr _ _ _ _ => F3
            rename News _ _ _ _ => N3
            unfold Stop
            refine' ctr_pure (conv_ctr (.ref P) (S) _ true hsok.1 hsok.fits) B1 F3 X1 T1 rfl rfl rfl trivial ?e8 ?e9 ?e10
            case e8 => ktr_room
            case e9 => ktr_units
            case e10 =>
              rintro v h4 tk4 hk4 F4 rfl
              have N4 := News.grown (fun p hp => N3 p (List.Mem.tail _ hp)) hk4
              clear N3
              k_steps
              unfold Stop
              rename Fr s.heap L _ _ => F9
              rename News s.heap L _ _ => N9
              rename_i _ _ D9 _ lt9 _ _ _ _ _
              rw [join1] at N9
              have ep : c.vs.toArray.push (Value.ref D9) = (c.vs ++ [Value.ref D9]).toArray := by simp
              rw [ep] at N9
              obtain ⟨_, _, ltP, ltd, ltl, ltA⟩ := lt9
              refine' lf_end (HS.mk (c.vs ++ [.ref D9]) (c.n + 1) ((D9, tupP (S, replyF (cs.getD ((1 : Int) + (i : Int) - 1).toNat 0) (i + 1)) _ _ _) :: c.nx) (c.its ++ [(S, replyF (cs.getD ((1 : Int) + (i : Int) - 1).toNat 0) (i + 1))])) F9 N9 ?hn3 ?ho3 ?hoff3 ?hk3 ?hr3 ?hp3
              case hn3 => exact List.forall_mem_cons.mpr ⟨by k_memK, List.forall_mem_cons.mpr ⟨by k_memK, List.forall_mem_cons.mpr ⟨by k_memK, List.forall_mem_cons.mpr ⟨by k_memK, fun p hp => List.Mem.tail _ (List.Mem.tail _ (List.Mem.tail _ (List.Mem.tail _ (List.Mem.tail _ (List.Mem.tail _ (List.mem_append.mpr (.inl hp)))))))⟩⟩⟩⟩
              case ho3 => exact fun p hp => List.Mem.tail _ (List.Mem.tail _ (List.Mem.tail _ (List.Mem.tail _ (List.Mem.tail _ (List.Mem.tail _ (List.mem_append.mpr (.inr hp)))))))
              case hoff3 =>
                intro p hp b hb
                obtain ⟨q, hq, rfl⟩ := List.mem_map.mp hb
                rcases List.mem_cons.mp hq with rfl | hq
                · exact hoff p hp _ (List.mem_map.mpr ⟨_, List.Mem.head _, rfl⟩)
                rcases List.mem_cons.mp hq with rfl | hq
                · exact hoff p hp _ (List.mem_map.mpr ⟨_, List.Mem.tail _ (List.Mem.head _), rfl⟩)
                rcases List.mem_cons.mp hq with rfl | hq
                · exact hoff p hp _ (List.mem_map.mpr ⟨_, List.Mem.tail _ (List.Mem.tail _ (List.Mem.head _)), rfl⟩)
                rcases List.mem_cons.mp hq with rfl | hq
                · exact Nat.ne_of_lt (allLt_to ltA p (List.mem_append.mpr (.inr hp)))
                · exact hoff p hp _ (List.mem_map.mpr ⟨q, List.Mem.tail _ (List.Mem.tail _ (List.Mem.tail _ hq)), rfl⟩)
              case hk3 => ktr_unf
              case hr3 => ksw_less
              case hp3 =>
                rename 0 < (cs.getD ((1 : Int) + (i : Int) - 1).toNat 0).fmod (2 ^ ((1 : Int) + (i : Int)).toNat) => hq1
                refine ⟨?_, p2.snoc, p3.snoc (by omega) hsok hrok, by simp; omega, fun p hp => ?_⟩
                · have hS' := hS
                  rw [ei, ekx] at hq1 hS'
                  have e9 : ((i + 1 : Nat) : Int) - 1 = 1 + (i : Int) - 1 := by omega
                  rw [pageF_succ, ← p1, pageStep, if_pos hq1, signF, ei, e9, hS']
                · rcases List.mem_cons.mp hp with rfl | hp
                  · exact ⟨Nat.ne_of_gt ltP, Nat.ne_of_gt ltd, Nat.ne_of_gt ltl⟩
                  · exact p5 p hp
      · unfold Stop
        rename Fr s.heap L _ _ => F9
        rename News s.heap L _ _ => N9
        refine' lf_end c F9 N9 ?hn3 ?ho3 ?hoff3 ?hk3 ?hr3 ?hp3
        case hn3 => exact fun p hp => List.mem_append.mpr (.inl hp)
        case ho3 => exact fun p hp => List.mem_append.mpr (.inr hp)
        case hoff3 => exact hoff
        case hk3 => ktr_unf
        case hr3 => ksw_less
        case hp3 =>
          have hq1 : (cs.getD ((1 : Int) + (i : Int) - 1).toNat 0).fmod (2 ^ ((1 : Int) + (i : Int)).toNat) ≤ 0 := by omega
          rw [ei, ekx] at hq1
          exact ⟨by rw [pageF_succ, ← p1, pageStep, if_neg (by omega)], p2, p3, by omega, p5⟩
    case done1 =>
      clear F N
      intro c u h tk hP F N
      obtain ⟨p1, p2, p3, p4, p5⟩ := hP
      try k_fold
      k_steps
      rename Fr s.heap L _ _ => F9
      rename News s.heap L _ _ => N9
      refine ret _ _ _ F9.keep ⟨P, d, l, tk0, c.vs, c.n, c.nx, rfl, ⟨by omega, by omega, by omega⟩, fun p hp => ⟨(N9 p hp).1, (N9 p hp).2.2⟩, by rw [← p1]; exact p2, by rw [← p1]; exact p3, p5⟩
end
section
local macro_rules | `(tactic| walk_at "subscriptTail Name Name ref int") => `(tactic| (k_here; refine' subS ?k1 ?k2 ?k3 ?k4 ?k5 ?k6 ?_; (case k1 => k_asm); (case k2 => k_mem); (case k3 => assumption); (case k4 => omega); (case k5 => (simp only [List.length_map, List.length_range]; omega)); (case k6 => (simp only [List.length_map, List.length_range]; omega)); k_whole; intro _))
local macro_rules | `(tactic| walk_at "call ref") => `(tactic| refine Stop.out ?_)
theorem sgn_at : ∀ x : Fin 5, (Str.ofString "\"abcd").cps[x.val]? = some ((sgn x.val).cps.getD 0 0) ∧ sgn x.val = ⟨#[(sgn x.val).cps.getD 0 0]⟩ ∧ (∀ c ∈ (sgn x.val).cps.toList, 32 ≤ c ∧ c < 127) ∧ (sgn x.val).cps.size ≤ 200 := by decide +kernel
noncomputable def hasS (x y : Str) : Bool := !(Builtin.Str.occurrences x y 0 x.length 1).isEmpty
noncomputable def roadF (its : List (Str × Str)) (k : Nat) : Str := toldF its (sgn k) ++ Txt.join (Str.ofString "") (((List.range (4 - k)).filter fun q => hasS (toldF its (sgn (k + 1 + q))) (sgn k)).map fun q => sgn (k + 1 + q))
noncomputable def roadsD (its : List (Str × Str)) (i : Nat) : List (PyData × PyData) := (List.range i).map fun k => (PyData.str (sgn k), PyData.str (roadF its k))
structure RdS where
  od : Obj
  kvs : List (Str × Value)
  os : Obj
theorem grab_d {h₀ h : Heap} {L D : Addr} {o : Obj} {r : List (Addr × Obj)} {P : Prop} (_N : News h₀ L h ((D, o) :: r)) (k : ∀ D' o', D' = D → o' = o → P) : P := k D o rfl rfl
theorem sgn_inj : ∀ a b : Fin 5, sgn a.val = sgn b.val → a = b := by decide +kernel
theorem roadsD_put (its : List (Str × Str)) {i : Nat} (h : i < 5) : PyProof.V.putD (PyData.str (sgn i)) (PyData.str (roadF its i)) (roadsD its i) = roadsD its (i + 1) := by
  have e : ((roadsD its i).any fun p => PySem.Spec.same p.1 (PyData.str (sgn i))) = false := by
    rw [List.any_eq_false]
    intro p hp
    obtain ⟨k, hk, rfl⟩ := List.mem_map.mp hp
    have hk' : k < i := List.mem_range.mp hk
    try dsimp only
    rw [PyProof.V.same_str, decide_eq_true_eq]
    intro q
    have := sgn_inj ⟨k, by omega⟩ ⟨i, h⟩ q
    have := congrArg Fin.val this
    dsimp only at this
    omega
  unfold PyProof.V.putD
  rw [e, if_neg Bool.false_ne_true]
  unfold roadsD
  rw [List.range_succ, List.map_append]
  rfl
noncomputable def RoadsPost (w : World) (P d l : Addr) (tk : Tok) (vs : List Value) (n : Nat) (its : List (Str × Str)) (g h : Heap) (v : Value) : Prop :=
  (∀ p ∈ hdLed w P d l tk vs n, h.get? p.1 = some p.2) ∧ ∃ (D : Addr) (o : Obj) (kvs : List (Str × Value)), v = .ref D ∧ g.objs.size ≤ D ∧ h.get? D = some o ∧ o.IsDictOf (PySem.strKind prog1 w) kvs ∧ PyProof.V.FlatPairs PyData.str kvs (roadsD its 5) ∧ (D == sysModules) = false
theorem roads_ctr {w : World} {mean : ExcName → Option Value} {mg mb : Str → Option Value} (P d l : Addr) (tk : Tok) (vs : List Value) (n : Nat) (its : List (Str × Str)) (hne : P ≠ d ∧ P ≠ l ∧ d ≠ l) (hits : OkL its) :
    CtrS w mean mg mb 30 290 [.ref P] [] (hdLed w P d l tk vs n) (fun g => LinesAt g vs its) (RoadsPost w P d l tk vs n its) := by
  intro dp un gd fr base s Q E H hh hp ret
  obtain ⟨⟨B, X, T, hd, hu⟩, XB, TB, D⟩ := H
  refine' enterMC _ X (Top.nolimit T) hh ?k6 ?k7 ?k8 ?k9 ?kB ?kD ?_ ?c2 ?c3 ?c4
  case k6 => k_is
  case k7 => k_is
  case k8 => ktr_room
  case k9 => exact BindsTo.of_eq rfl
  case kB => exact rfl
  case kD => decide +kernel
  case c2 => exact rfl
  case c3 => exact rfl
  case c4 => exact rfl
  k_whole
  intro L h₁ tk1 cells hL F N Y' hlt
  k_cells Y'
  rename_i o1 o2 o3 d1 d2 d3
  have d3' : o3.data = .cell (some (.ref P)) := d3
  have d1' : o1.data = .cell none := d1
  have d2' : o2.data = .cell none := d2
  clear d1 d2 d3
  (try dsimp only)
  (try k_fold)
  obtain ⟨fs, F', N', hfs, hoff, hfl, hlL, bst⟩ := hide_frames B D rfl F N
  have X' := XB.keeps bst
  have T' := TB.keeps bst
  have hfs0 := hfs
  clear F N X T
  dsimp only [hdLed, List.cons_append, List.nil_append] at N'
  k_steps
  unfold Stop
  refine wpAny_Assign_Name ?_ (by with_unfolding_all rfl)
  rename Fr _ _ _ _ => F
  rename News _ _ _ _ => N
  refine' mc_eval (cl := [(Str.ofString "page", L + 1)]) F ?c1 ?c2 ?c3 ?c4 ?c5 ?c6
  case c1 => rfl
  case c2 => decide
  case c3 => rfl
  case c4 => decide
  case c6 => intro _; rfl
  case c5 =>
    k_steps
    rename Fr _ _ _ _ => F
    rename News _ _ _ _ => N
    unfold Stop
    refine' mc_str (fun i ys nx => (∀ p ∈ [(L + 1 + 1 + 1, o1), (L + 1 + 1, o2), (L + 1, o3)] ++ hdLed w P d l tk vs n, p ∈ nx) ∧ FsIn (hideAll s.heap ((hdLed w P d l tk vs n).map (·.1))) (fr.filterMap (·.frame)) nx ∧ (∀ p ∈ nx, p.1 ∈ (([(L + 1 + 1 + 1, o1), (L + 1 + 1, o2), (L + 1, o3)] ++ hdLed w P d l tk vs n).map (·.1)) ∨ p.1 ∈ fr.filterMap (·.frame)) ∧ StrsAre ys ((List.range i).map fun j => toldF its (sgn j)))
      ([(L + 1 + 1 + 1, o1), (L + 1 + 1, o2), (L + 1, o3)] ++ hdLed w P d l tk vs n ++ fs) rfl rfl rfl ?d2 F N ?d4 ?d5 ?d6 ?d7
    case d2 => decide
    case d4 => exact fun _ h => h
    case d6 =>
      refine ⟨fun p hp => List.mem_append.mpr (.inl hp), fun b hb o e => ?_, fun p hp => ?_, rfl, fun i s e => by simp at e⟩
      · obtain ⟨sl, hm⟩ := hfs b hb o e
        exact ⟨sl, List.mem_append.mpr (.inr hm)⟩
      · rcases List.mem_append.mp hp with hp | hp
        · exact .inl (List.mem_map_of_mem hp)
        · exact .inr (hfl p hp)
    case d5 =>
      clear F N
      intro x v ys nx I oI C oC D3 m₂ h tk9 E' hx hv hJ hC hb F N off ne _
      obtain ⟨j1, j2, j3, j4⟩ := hJ
      unfold BdN at hb
      have hm1 : (L + 1, o3) ∈ nx := j1 _ (List.Mem.tail _ (List.Mem.tail _ (List.Mem.head _)))
      refine wpAny_tests_nil ?_
      try dsimp only
      rw [if_pos rfl]
      try k_fold
      k_steps
      unfold Stop
      obtain ⟨cc, uu, hcc, rfl⟩ := hv
      have hx5 : x < 5 := hx
      have es : (⟨#[cc]⟩ : Str) = sgn x := by
        have h1 := (sgn_at ⟨x, hx5⟩).1
        have h2 := (sgn_at ⟨x, hx5⟩).2.1
        dsimp only at h1 h2
        rw [hcc] at h1
        rw [Option.some.inj h1]; exact h2.symm
      rw [es]
      have o3' := off.mem
      have lsI : ∀ b ∈ fr.filterMap (·.frame), b ≠ I ∧ b ≠ C ∧ b ≠ D3 := fun b hb9 => by
        obtain ⟨o, _, _, ho, _⟩ := D b hb9
        obtain ⟨sl, hm⟩ := j2 b hb9 o ho
        exact o3' _ hm
      refine' ctrS_led (told_ctr P d l tk vs n its (sgn x) uu hne (sgn_at ⟨x, hx5⟩).2.2 hits) B D XB TB F N rfl ?f1 ?f2 rfl rfl rfl ?f3 ?f4 ?f5 ?f6
      case f1 =>
        intro b hb9 o e
        obtain ⟨sl, hm⟩ := j2 b hb9 o e
        exact ⟨sl, .tail _ (.tail _ (.tail _ hm))⟩
      case f2 => exact fun p hp9 => ⟨.tail _ (.tail _ (.tail _ (j1 p (List.mem_append.mpr (.inr hp9))))), hoff p (List.mem_append.mpr (.inr hp9))⟩
      case f3 =>
        refine ⟨hp.1, fun i p e => ?_⟩
        obtain ⟨r, a, b, c, e1, e2⟩ := hp.2 i p e
        refine ⟨r, a, b, c, e1, hideAll_get _ (F.keep _ _ (hideAll_get _ e2 fun hr => ?_)) (hideAll_some e2)⟩
        obtain ⟨o, _, _, ho, hd9⟩ := D r hr
        rw [e2] at ho
        cases ho
        cases hd9
      case f4 => ktr_room
      case f5 => ktr_units
      case f6 =>
        rintro v h' tk' all' F' N' hall hfs' hsub ⟨hsame, t, rfl⟩
        k_unfold
        have hhL : ∀ b, L ≤ b → b ∉ (hdLed w P d l tk vs n).map (·.1) := fun b hb9 hm => by
          obtain ⟨p, hp9, rfl⟩ := List.mem_map.mp hm
          exact absurd (hlt p hp9) (Nat.not_lt.mpr hb9)
        have hhO : ∀ b, (b = I ∨ b = C ∨ b = D3) → b ∉ (hdLed w P d l tk vs n).map (·.1) := fun b hb9 hm => by
          obtain ⟨p, hp9, rfl⟩ := List.mem_map.mp hm
          have z := o3' p (j1 p (List.mem_append.mpr (.inr hp9)))
          rcases hb9 with e | e | e
          · exact z.1 e
          · exact z.2.1 e
          · exact z.2.2 e
        have NN : News _ L h' (hdLed w P d l tk vs n ++ all') := fun p hp9 => by
          rcases List.mem_append.mp hp9 with hp9 | hp9
          · exact ⟨hsame p hp9, (N p (.tail _ (.tail _ (.tail _ (j1 p (List.mem_append.mpr (.inr hp9))))))).2⟩
          · exact N' p hp9
        refine MEnd.intro ([(L + 1 + 1 + 1, o1), (L + 1 + 1, o2), (L + 1, o3)] ++ hdLed w P d l tk vs n ++ all'.filter fun p => decide (p.1 ∈ fr.filterMap (·.frame))) F' NN (fun p hp9 => ?_) (Off3.of fun p hp9 => ?_) trivial ⟨fun p hp9 => List.mem_append.mpr (.inl hp9), fun b hb9 o e => ?_, fun p hp9 => ?_, ?_⟩
        · rcases List.mem_cons.mp hp9 with rfl | hp9
          · exact List.mem_append.mpr (.inr (hall _ (.head _) (fun hb9 => (lsI _ hb9).1 rfl) (hhO _ (.inl rfl))))
          rcases List.mem_cons.mp hp9 with rfl | hp9
          · exact List.mem_append.mpr (.inr (hall _ (.tail _ (.head _)) (fun hb9 => (lsI _ hb9).2.1 rfl) (hhO _ (.inr (.inl rfl)))))
          rcases List.mem_cons.mp hp9 with rfl | hp9
          · exact List.mem_append.mpr (.inr (hall _ (.tail _ (.tail _ (.head _))) (fun hb9 => (lsI _ hb9).2.2 rfl) (hhO _ (.inr (.inr rfl)))))
          rcases List.mem_append.mp hp9 with hp9 | hp9
          · rcases List.mem_append.mp hp9 with hc9 | hp9
            · refine List.mem_append.mpr (.inr (hall p (.tail _ (.tail _ (.tail _ (j1 p (List.mem_append.mpr (.inl hc9)))))) (hoff p (List.mem_append.mpr (.inl hc9))) (hhL _ ?_)))
              rcases List.mem_cons.mp hc9 with rfl | hc9
              · exact Nat.le_of_lt (Nat.lt_of_lt_of_le (Nat.lt_succ_self _) (Nat.le_add_right (L + 1) 2))
              rcases List.mem_cons.mp hc9 with rfl | hc9
              · exact Nat.le_of_lt (Nat.lt_of_lt_of_le (Nat.lt_succ_self _) (Nat.le_add_right (L + 1) 1))
              · rw [List.mem_singleton.mp hc9]; exact Nat.le_succ L
            · exact List.mem_append.mpr (.inl hp9)
          · exact List.mem_append.mpr (.inr (List.mem_filter.mp hp9).1)
        · rcases List.mem_append.mp hp9 with hp9 | hp9
          · exact o3' p (j1 p hp9)
          · exact lsI _ (of_decide_eq_true (List.mem_filter.mp hp9).2)
        · obtain ⟨sl, hm⟩ := hfs' b hb9 o e
          exact ⟨sl, List.mem_append.mpr (.inr (List.mem_filter.mpr ⟨hm, decide_eq_true hb9⟩))⟩
        · rcases List.mem_append.mp hp9 with hp9 | hp9
          · exact .inl (List.mem_map_of_mem hp9)
          · exact .inr (of_decide_eq_true (List.mem_filter.mp hp9).2)
        · rw [List.range_succ, List.map_append]
          exact j4.snoc _ _
    case d7 =>
      clear F N
      intro g ys nx hl9 hJ
      obtain ⟨j1, j2, j3, j4⟩ := hJ
      unfold MFinE
      have jt : StrsAre ys ((List.range 5).map fun j => toldF its (sgn j)) := j4
      clear j4
      intro D2 h tk9 F N off1
      have o1' := off1_in off1
      have n1 : @Ne Nat (L + 1 + 1 + 1) D2 := o1' _ (j1 _ (List.Mem.head _))
      have n2 : @Ne Nat (L + 1 + 1) D2 := o1' _ (j1 _ (List.Mem.tail _ (List.Mem.head _)))
      have n3 : @Ne Nat (L + 1) D2 := o1' _ (j1 _ (List.Mem.tail _ (List.Mem.tail _ (List.Mem.head _))))
      have lP : @LT.lt Nat _ P L := hlt _ (List.Mem.head _)
      have ld : @LT.lt Nat _ d L := hlt _ (List.Mem.tail _ (List.Mem.head _))
      have ll : @LT.lt Nat _ l L := hlt _ (List.Mem.tail _ (List.Mem.tail _ (List.Mem.head _)))
      have hlsL : ∀ b ∈ fr.filterMap (·.frame), @LT.lt Nat _ b L := fun b hb9 => by
        obtain ⟨o, _, _, ho, _⟩ := D b hb9
        have := Heap.lt_size ho
        rw [hideAll_size] at this
        rw [hL]; exact this
      obtain ⟨fs2, hfs2, hfl2, hin2⟩ : ∃ fs2, FsIn (hideAll s.heap ((hdLed w P d l tk vs n).map (·.1))) (fr.filterMap (·.frame)) fs2 ∧ (∀ p ∈ fs2, @LT.lt Nat _ p.1 L) ∧ (∀ p ∈ fs2, p ∈ nx) :=
        ⟨nx.filter fun p => decide (p.1 ∈ fr.filterMap (·.frame)), fun b hb9 o e => by
          obtain ⟨sl, hm⟩ := j2 b hb9 o e
          exact ⟨sl, List.mem_filter.mpr ⟨hm, decide_eq_true hb9⟩⟩, fun p hp9 => hlsL _ (of_decide_eq_true (List.mem_filter.mp hp9).2), fun p hp9 => (List.mem_filter.mp hp9).1⟩
      have N2 : News _ L h ((D2, lst ys) :: (L + 1 + 1 + 1, o1) :: (L + 1 + 1, o2) :: (L + 1, o3) :: (P, instObj 253 d) :: (d, dictOf [⟨PyData.keyHash w.params (Str.ofString "_headers"), .str (Str.ofString "_headers") tk, .ref l⟩] 1) :: (l, listOf vs.toArray n) :: fs2) := fun p hp9 => by
        rcases List.mem_cons.mp hp9 with rfl | hp9
        · exact N _ (List.Mem.head _)
        · refine N p (List.Mem.tail _ ?_)
          rcases List.mem_append.mp (show p ∈ ([(L + 1 + 1 + 1, o1), (L + 1 + 1, o2), (L + 1, o3)] ++ hdLed w P d l tk vs n) ++ fs2 from hp9) with hp9 | hp9
          · exact j1 p hp9
          · exact hin2 p hp9
      have ho : OwnOff fs2 [L + 1 + 1 + 1, L + 1 + 1] := fun p hp9 b hb9 => by
        have := hfl2 p hp9
        rcases List.mem_cons.mp hb9 with rfl | hb9
        · exact Nat.ne_of_lt (by omega)
        · rw [List.mem_singleton.mp hb9]; exact Nat.ne_of_lt (by omega)
      clear N
      k_steps
      rename Fr _ _ _ _ => F
      rename News _ _ _ _ => N
      rename Obj.IsDictOf (PySem.strKind prog1 w) _ _ => hs0
      rename PyProof.V.FlatPairs PyData.str _ _ => ff0
      rename _ ∧ _ ∧ _ ∧ _ ∧ _ ∧ _ ∧ _ ∧ AllLt _ _ => lt0
      rename _ = Data.cell (some (Value.ref D2)) => ht0
      refine grab_obj ht0 fun ot hot => ?_
      subst hot
      refine grab_d N fun Dr od0 e1 e2 => ?_
      subst e1 e2
      unfold Stop
      refine' lf_range (σ := RdS) (n := 5) (fun _ => []) (fun c => (Dr, c.od) :: (D2, lst ys) :: (L + 1 + 1 + 1, ot) :: (L + 1 + 1, c.os) :: (L + 1, o3) :: (P, instObj 253 d) :: (d, dictOf [⟨PyData.keyHash w.params (Str.ofString "_headers"), .str (Str.ofString "_headers") tk, .ref l⟩] 1) :: (l, listOf vs.toArray n) :: fs2) (fun i c => c.od.IsDictOf (PySem.strKind prog1 w) c.kvs ∧ PyProof.V.FlatPairs PyData.str c.kvs (roadsD its i) ∧ ∃ v, c.os.data = .cell v) ["k"] (RdS.mk od0 [] o2) rfl (by assumption) ?hsm1 ?hsz1 F N ?hn1 ?hk1 ?hp1 ?turn1 ?done1
      case hsm1 => decide
      case hsz1 => decide
      case hn1 => exact fun _ h => h
      case hk1 => ktr_unf
      case hp1 => exact ⟨hs0, ff0, none, d2'⟩
      case turn1 =>
        clear F N
        intro i v c u I oI h tk5 hi9 hv hP hoff9 hst F N
        obtain ⟨t5, rfl⟩ := hv
        obtain ⟨p1, p2, ⟨v0, p3⟩⟩ := hP
        refine let_name ?_
        have hoI : OwnOff (fs2 ++ [(I, oI)]) [L + 1 + 1 + 1, L + 1 + 1, Dr] := fun p hp9 b hb9 => by
          rcases List.mem_append.mp hp9 with hp9 | hp9
          · have h1 := hfl2 p hp9
            have h2 := lt0.2.1
            rcases List.mem_cons.mp hb9 with rfl | hb9
            · exact Nat.ne_of_lt (by omega)
            rcases List.mem_cons.mp hb9 with rfl | hb9
            · exact Nat.ne_of_lt (by omega)
            · rw [List.mem_singleton.mp hb9]; exact Nat.ne_of_lt (by omega)
          · refine hoff9 p hp9 b ?_
            rcases List.mem_cons.mp hb9 with rfl | hb9
            · exact List.Mem.tail _ (List.Mem.tail _ (List.Mem.head _))
            rcases List.mem_cons.mp hb9 with rfl | hb9
            · exact List.Mem.tail _ (List.Mem.tail _ (List.Mem.tail _ (List.Mem.head _)))
            · rw [List.mem_singleton.mp hb9]; exact List.Mem.head _
        try k_fold
        k_steps
        rename Fr _ _ _ _ => F
        rename News _ _ _ _ => N
        unfold Stop
        rename _ = Data.cell (some (Value.str _ _)) => hs9
        refine grab_obj hs9 fun os9 hos9 => ?_
        subst hos9
        refine' mc_eval (cl := [(Str.ofString "told", L + 1 + 1 + 1), (Str.ofString "sign", L + 1 + 1)]) F ?g1 ?g2 ?g3 ?g4 ?g5 ?g6
        case g1 => rfl
        case g2 => decide
        case g3 => rfl
        case g4 => decide
        case g6 => intro _; rfl
        case g5 =>
          k_steps
          rename Fr _ _ _ _ => F
          rename News _ _ _ _ => N
          unfold Stop
          have ei0 : (0 : Int) + (i : Int) = (i : Int) := by omega
          refine' mc_range (n := 4 - i) (fun j zs nx => nx = ((Dr, c.od) :: (D2, lst ys) :: (L + 1 + 1 + 1, ot) :: (L + 1 + 1, os9) :: ((L + 1, o3) :: (P, instObj 253 d) :: (d, dictOf [⟨PyData.keyHash w.params (Str.ofString "_headers"), .str (Str.ofString "_headers") tk, .ref l⟩] 1) :: (l, listOf vs.toArray n) :: fs2) ++ [(I, oI)]) ∧ StrsAre zs (((List.range j).filter fun q => hasS (toldF its (sgn (i + 1 + q))) (sgn i)).map fun q => sgn (i + 1 + q))) ((Dr, c.od) :: (D2, lst ys) :: (L + 1 + 1 + 1, ot) :: (L + 1 + 1, os9) :: ((L + 1, o3) :: (P, instObj 253 d) :: (d, dictOf [⟨PyData.keyHash w.params (Str.ofString "_headers"), .str (Str.ofString "_headers") tk, .ref l⟩] 1) :: (l, listOf vs.toArray n) :: fs2) ++ [(I, oI)]) rfl rfl rfl (by assumption) ?i1 ?i2 ?i3 F N ?i4 ?i5 ?i6 ?i7
          case i1 => exact small_of (by omega) (by omega) (by omega) (by omega)
          case i2 => rw [rangeSize_nat]; omega
          case i3 => exact Nat.le_trans (Nat.sub_le 4 i) (by decide)
          case i4 => exact fun _ h => h
          case i6 => exact ⟨rfl, rfl, fun i s e => by simp at e⟩
          case i5 =>
            clear F N
            intro q v zs nx I4 oI4 C4 oC4 D4 m₂ h4 tk4 E4 hq hv hJ hC hb F N off ne _
            obtain ⟨t4, rfl⟩ := hv
            obtain ⟨rfl, hzs⟩ := hJ
            unfold BdN at hb
            have eq1 : ((List.range 5).map fun j => toldF its (sgn j)).getD ((0 : Int) + (i : Int) + 1 + (q : Int)).toNat (Str.ofString "") = toldF its (sgn (i + 1 + q)) := by
              have e1 : ((0 : Int) + (i : Int) + 1 + (q : Int)).toNat = i + 1 + q := by omega
              rw [e1, List.getD_eq_getElem?_getD, List.getElem?_map, List.getElem?_range (by omega)]; rfl
            have eq2 : Txt.item (Str.ofString "\"abcd") ((0 : Int) + (i : Int)) = sgn i := by rw [ei0]; rfl
            have eq3 : Txt.item (Str.ofString "\"abcd") ((0 : Int) + (i : Int) + 1 + (q : Int)) = sgn (i + 1 + q) := by
              unfold sgn; congr 1; omega
            k_steps
            all_goals
              rename (Builtin.Str.occurrences _ _ _ _ _).isEmpty = _ => hoc9
              rw [eq1, eq2] at hoc9
            · refine mend_same (h := h4) F N off trivial ⟨rfl, ?_⟩
              rw [List.range_succ, List.filter_append, List.filter_cons_of_neg (by rw [hasS, hoc9]; decide), List.filter_nil, List.append_nil]
              exact hzs
            · rw [eq3]
              refine mend_same (h := h4) F N off trivial ⟨rfl, ?_⟩
              rw [List.range_succ, List.filter_append, List.filter_cons_of_pos (by rw [hasS, hoc9]; rfl), List.filter_nil, List.map_append]
              exact hzs.snoc _ _
          case i7 =>
            clear F N
            intro g4 zs nx hl4 hJ
            obtain ⟨rfl, hzs⟩ := hJ
            unfold MFinE
            intro D5 h5 tk5 F N off5
            k_steps
            have hsum := sgns_sum (fun q => hasS (toldF its (sgn (i + 1 + q))) (sgn i)) i (4 - i) (by omega)
            refine join_list ⟨_, (N _ (List.Mem.head _)).1, rfl, _, rfl⟩ (StrsAre.lib hzs) (Nat.le_trans hsum.1 (by decide)) fun t9 k9 => ?_
            have eq5 : ((List.range 5).map fun j => toldF its (sgn j)).getD ((0 : Int) + (i : Int)).toNat (Str.ofString "") = toldF its (sgn i) := by
              have e1 : ((0 : Int) + (i : Int)).toNat = i := by omega
              rw [e1, List.getD_eq_getElem?_getD, List.getElem?_map, List.getElem?_range (by omega)]; rfl
            rw [eq5]
            have eq2' : Txt.item (Str.ofString "\"abcd") ((0 : Int) + (i : Int)) = sgn i := by rw [ei0]; rfl
            have hft : Fit (toldF its (sgn i)) 300 := toldF_len hits _
            have hfj : Fit (Txt.join (Str.ofString "") (((List.range (4 - i)).filter fun q => hasS (toldF its (sgn (i + 1 + q))) (sgn i)).map fun q => sgn (i + 1 + q))) 8 := hsum.2
            have N8 := fun p hp => N p (List.Mem.tail _ hp)
            clear N
            k_steps
            refine' setItem_K PyProof.V.same_str (strKind_is _ _ _ _) (PyProof.V.Flat.str _ _) ?F ?N ?U ?d ?f ?_ ?z
            case F => k_asm
            case N => k_asm
            case U => k_updF
            case d => exact p1
            case f => exact p2
            case z => rw [roadsD, List.length_map, List.length_range]; exact Nat.le_trans (Nat.le_of_lt hi9) (by decide)
            intro h6 o6 F6 N6 hd6 hf6
            k_steps
            unfold Stop
            rw [eq2'] at hd6 hf6
            generalize stored c.kvs (sgn i) _ = kv6 at hd6 hf6
            refine' lf_end (RdS.mk o6 kv6 os9) (by assumption) (by assumption) ?hn3 ?ho3 ?hoff3 ?hk3 ?hr3 ?hp3
            case hn3 => exact fun p hp => (List.mem_cons.mp hp).elim (fun e => e ▸ List.Mem.head _) fun hp => List.Mem.tail _ (List.mem_append.mpr (.inl hp))
            case ho3 => exact fun p hp => List.Mem.tail _ (List.mem_append.mpr (.inr hp))
            case hoff3 => exact hoff9
            case hk3 => ktr_unf
            case hr3 => ksw_less
            case hp3 =>
              have hf7 := roadsD_put its hi9 ▸ hf6
              exact ⟨hd6, hf7, _, hs9⟩
      case done1 =>
        clear F N
        intro c u h tk hP F N
        obtain ⟨p1, p2, p3⟩ := hP
        try k_fold
        k_steps
        try dsimp only
        obtain ⟨g', T9, K9⟩ := turn_end D F N (fun b hb o e => by
          obtain ⟨sl, hm⟩ := hfs2 b hb o e
          exact ⟨sl, .tail _ (.tail _ (.tail _ (.tail _ (.tail _ (.tail _ (.tail _ (.tail _ hm)))))))⟩)
        refine ret _ _ _ g' T9 K9 ⟨fun p hp9 => ?_, Dr, c.od, c.kvs, rfl, ?_, (N _ (.head _)).1, p1, p2, by assumption⟩
        · rcases List.mem_cons.mp hp9 with rfl | hp9
          · exact (N _ (.tail _ (.tail _ (.tail _ (.tail _ (.tail _ (.head _))))))).1
          rcases List.mem_cons.mp hp9 with rfl | hp9
          · exact (N _ (.tail _ (.tail _ (.tail _ (.tail _ (.tail _ (.tail _ (.head _)))))))).1
          · rw [List.mem_singleton.mp hp9]
            exact (N _ (.tail _ (.tail _ (.tail _ (.tail _ (.tail _ (.tail _ (.tail _ (.head _))))))))).1
        · have h2 := lt0.2.1
          rw [hideAll_size]
          omega
end
section
noncomputable def setdF (its : List (Str × Str)) (nm vl : Str) : List (Str × Str) := match getF its nm with
  | some _ => its
  | none => its ++ [(nm, vl)]
noncomputable def idxS (x : Str) : Nat := ((List.range 5).find? fun j => decide (sgn j = x)).getD 0
noncomputable def wayStep (way : Str) (its : List (Str × Str)) (c : Nat) : List (Str × Str) := setdF its ⟨#[c]⟩ (way ++ ⟨#[c]⟩)
noncomputable def waysRowI (rs : Nat → Str) (its : List (Str × Str)) (k i : Nat) : List (Str × Str) := ((rs (idxS (its.getD k (Str.ofString "", Str.ofString "")).1)).cps.toList.take i).foldl (wayStep (its.getD k (Str.ofString "", Str.ofString "")).2) its
noncomputable def waysRow (rs : Nat → Str) (its : List (Str × Str)) (k : Nat) : List (Str × Str) := waysRowI rs its k (rs (idxS (its.getD k (Str.ofString "", Str.ofString "")).1)).cps.size
noncomputable def waysGo (rs : Nat → Str) : Nat → List (Str × Str) → Nat → List (Str × Str)
  | 0, its, _ => its
  | f + 1, its, k => if k < its.length ∧ its.length < 5 then waysGo rs f (waysRow rs its k) (k + 1) else its
noncomputable def dgetF (its : List (Str × Str)) (nm : Str) : Int := match its.find? fun p => decide (p.1 = nm) with
  | some p => (p.2.length : Int)
  | none => 10
noncomputable def waysF (rs : Nat → Str) (sg : Str) : List Int := (List.range 5).map fun j => dgetF (waysGo rs 6 [(sg, Str.ofString "")] 0) (sgn j)
theorem idxS_sgn {j : Nat} (h : j < 5) : idxS (sgn j) = j := by
  have : ∀ j : Fin 5, idxS (sgn j.val) = j.val := by decide +kernel
  exact this ⟨j, h⟩
theorem waysRowI_succ (rs : Nat → Str) (its : List (Str × Str)) (k i : Nat) (c : Nat) (h : (rs (idxS (its.getD k (Str.ofString "", Str.ofString "")).1)).cps[i]? = some c) :
    waysRowI rs its k (i + 1) = wayStep (its.getD k (Str.ofString "", Str.ofString "")).2 (waysRowI rs its k i) c := by
  unfold waysRowI
  rw [List.take_add_one, show (rs (idxS (its.getD k (Str.ofString "", Str.ofString "")).1)).cps.toList[i]? = some c by simpa using h, List.foldl_append]
  rfl
/-- what holds of the lines of a ways -/
structure WIts (its : List (Str × Str)) (n : Nat) (b : Nat) : Prop where
  len : its.length ≤ n
  key : ∀ p ∈ its, ∃ j, j < 5 ∧ p.1 = sgn j
  nod : (its.map (·.1)).Nodup
  way : ∀ p ∈ its, Plain p.2 ∧ p.2.length ≤ b
theorem sgn_ok (j : Nat) (h : j < 5) : Ok (sgn j) := (sgn_at ⟨j, h⟩).2.2
theorem WIts.okL {its : List (Str × Str)} {n b : Nat} (h : WIts its n b) (hn : n ≤ 50) (hb : b ≤ 200) : OkL its :=
  ⟨Nat.le_trans h.len hn, fun p hp => by
    obtain ⟨j, hj, e⟩ := h.key p hp
    exact ⟨e ▸ sgn_ok j hj, (h.way p hp).1, Nat.le_trans (h.way p hp).2 hb⟩⟩
theorem getF_none_mem {its : List (Str × Str)} {nm : Str} (h : getF its nm = none) : nm ∉ its.map (·.1) := by
  intro hm
  obtain ⟨p, hp, e⟩ := List.mem_map.mp hm
  unfold getF at h
  rw [Option.map_eq_none_iff, List.find?_eq_none] at h
  exact h p hp (by rw [e]; exact beq_self_eq_true _)
theorem WIts.set {its : List (Str × Str)} {n b : Nat} (h : WIts its n b) {j : Nat} (hj : j < 5) {vl : Str} (hp : Plain vl) (hv : vl.length ≤ b) : WIts (setdF its (sgn j) vl) (n + 1) b := by
  unfold setdF
  cases hg : getF its (sgn j) with
  | some x => exact ⟨Nat.le_succ_of_le h.len, h.key, h.nod, h.way⟩
  | none =>
    refine ⟨by have := h.len; simp; omega, fun p hp' => ?_, ?_, fun p hp' => ?_⟩
    · rcases List.mem_append.mp hp' with q | q
      · exact h.key p q
      · rw [List.mem_singleton.mp q]; exact ⟨j, hj, rfl⟩
    · rw [List.map_append, List.nodup_append]
      refine ⟨h.nod, by simp, fun a ha c hc e => ?_⟩
      have hc' : c = sgn j := by simpa using hc
      exact getF_none_mem hg (hc' ▸ e ▸ ha)
    · rcases List.mem_append.mp hp' with q | q
      · exact h.way p q
      · rw [List.mem_singleton.mp q]; exact ⟨hp, hv⟩
theorem WIts.mono {its : List (Str × Str)} {n n' b b' : Nat} (h : WIts its n b) (h1 : n ≤ n') (h2 : b ≤ b') : WIts its n' b' := ⟨Nat.le_trans h.len h1, h.key, h.nod, fun p hp => ⟨(h.way p hp).1, Nat.le_trans (h.way p hp).2 h2⟩⟩
theorem storeAll_nodup : ∀ (ps kvs : List (Str × Value)), (kvs.map (·.1) ++ ps.map (·.1)).Nodup → storeAll kvs ps = kvs ++ ps
  | [], kvs, _ => (List.append_nil _).symm
  | p :: ps, kvs, h => by
    have hn : p.1 ∉ kvs.map (·.1) := fun hm => (List.nodup_append.mp h).2.2 p.1 hm p.1 (List.mem_cons_self) rfl
    have e : stored kvs p.1 p.2 = kvs ++ [p] := by
      unfold stored
      rw [if_neg]
      rw [List.any_eq_true]
      rintro ⟨q, hq, he⟩
      exact hn (List.mem_map.mpr ⟨q, hq, of_decide_eq_true he⟩)
    show storeAll (stored kvs p.1 p.2) ps = _
    rw [e, storeAll_nodup ps (kvs ++ [p]) (by simpa using h)]
    simp
noncomputable def wayD (its : List (Str × Str)) : List (PyData × PyData) := its.map fun p => (PyData.str p.1, PyData.str p.2)
theorem wayD_look (its : List (Str × Str)) (nm : Str) : PySem.Spec.lookup (PyData.str nm) (wayD its) = (its.find? fun p => decide (p.1 = nm)).map fun p => PyData.str p.2 := by
  induction its with
  | nil => rfl
  | cons p r ih =>
    have e0 : wayD (p :: r) = (PyData.str p.1, PyData.str p.2) :: wayD r := rfl
    rw [e0, PySem.Spec.lookup, PyProof.V.same_str, List.find?_cons]
    by_cases e : p.1 = nm
    · simp [e]
    · simp only [e, decide_false]
      exact ih
theorem waysGo_no (rs : Nat → Str) {its : List (Str × Str)} {k : Nat} (h : ¬ (k < its.length ∧ its.length < 5)) : ∀ f, waysGo rs f its k = its
  | 0 => rfl
  | f + 1 => by rw [waysGo, if_neg h]
end
section
section
variable {w : World} {mean : ExcName → Option Value} {mg mb : Str → Option Value} {A₀ A : Around} {base h₀ : Heap} {outer : List Env} {env : Env} {L : Addr} {m : Str → Option Value} {s : Shared} {Q E : Value → Shared → Prop} {dp un : Nat} {gd : Option (List Code)}
theorem LinesIn.at {g : Heap} {nx : List (Addr × Obj)} {vs : List Value} {its : List (Str × Str)} (x : LinesIn nx vs its) (h : ∀ p ∈ nx, g.get? p.1 = some p.2) : LinesAt g vs its :=
  ⟨x.1, fun i p e => by
    obtain ⟨r, t1, t2, n, e1, e2⟩ := x.2 i p e
    exact ⟨r, t1, t2, n, e1, h _ e2⟩⟩
theorem LinesIn.mono {nx nx' : List (Addr × Obj)} {vs : List Value} {its : List (Str × Str)} (x : LinesIn nx vs its) (h : ∀ p ∈ nx, p ∈ nx') : LinesIn nx' vs its :=
  ⟨x.1, fun i p e => by
    obtain ⟨r, t1, t2, n, e1, e2⟩ := x.2 i p e
    exact ⟨r, t1, t2, n, e1, h _ e2⟩⟩
theorem get_of_hid {g : Heap} {A : List Addr} {r : Addr} (h : (hideAll g A).get? r = none) (hr : r ∉ A) : g.get? r = none := by
  cases q : g.get? r with
  | none => rfl
  | some o => rw [hideAll_get A q hr] at h; cases h
theorem hd_notin {w : World} {P d l r : Addr} {tk : Tok} {vs : List Value} {n : Nat} (h : r ≠ P ∧ r ≠ d ∧ r ≠ l) : r ∉ (hdLed w P d l tk vs n).map (·.1) := fun hc => by
  have hc' : r ∈ [P, d, l] := hc
  rcases List.mem_cons.mp hc' with e | hc'
  · exact h.1 e
  rcases List.mem_cons.mp hc' with e | hc'
  · exact h.2.1 e
  · exact h.2.2 (List.mem_singleton.mp hc')
/-- the ledger behind a contract that changes some of it -/
theorem led_keep {hid rest : List (Addr × Obj)} {h' : Heap} (N : News h₀ L s.heap (hid ++ rest)) (k : Kept (hideAll s.heap (hid.map (·.1))) h') (off : ∀ p ∈ rest, p.1 ∉ hid.map (·.1)) : News h₀ L h' rest := fun p hp => by
  have z := N p (List.mem_append.mpr (.inr hp))
  exact ⟨k _ _ (hideAll_get _ z.1 (off p hp)), z.2⟩
theorem setd_use {P d l : Addr} {tk : Tok} {vs : List Value} {n : Nat} {its : List (Str × Str)} {nm vl : Str} {t t' : Tok} {rest : List (Addr × Obj)} (hne : P ≠ d ∧ P ≠ l ∧ d ≠ l) (hnm : Ok nm) (hvl : Ok vl) (hits : OkL its) (hlines : LinesIn rest vs its)
    (off : ∀ p ∈ rest, p.1 ≠ P ∧ p.1 ≠ d ∧ p.1 ≠ l)
    (B : Below A₀ base outer h₀) (F : Fr h₀ L s.heap m) (X : (kHeap w.params).In h₀) (T : Top kView loose1 mean mg mb h₀) (N : News h₀ L s.heap (hdLed w P d l tk vs n ++ rest))
    (hA : A = Ar dp un gd (env :: outer)) (hf : env.frame = some L) (hke : env.scope.kind = .function) (hd : dp + 16 < recursionLimit) (hu : un + 8 * 16 < cLine)
    (h : ∀ v h' tk' vs' n' new, Fr h₀ L h' m → News h₀ L h' (hdLed w P d l tk vs' n' ++ (new ++ rest)) → (∀ L0, LinesIn L0 vs its → LinesIn (new ++ L0) vs' (setdF its nm vl)) → (∀ p ∈ new, s.heap.get? p.1 = none) → Q v { s with heap := h', toks := tk' }) :
    wpAny (model prog1 w) A (call (.ref 243) [.ref P, .str nm t, .str vl t'] []) Q E s := by
  have Nh : News h₀ L s.heap (hdLed w P d l tk vs n) := fun p hp => N p (List.mem_append.mpr (.inl hp))
  have offh : ∀ p ∈ rest, p.1 ∉ (hdLed w P d l tk vs n).map (·.1) := fun p hp => hd_notin (off p hp)
  refine ctr_mut (setd_ctr P d l tk vs n its nm vl t t' hne hnm hvl hits) B F X T Nh hA hf hke (hlines.at fun p hp => hideAll_get _ (N p (List.mem_append.mpr (.inr hp))).1 (offh p hp)) hd hu fun v h' tk' hk F' post => ?_
  have N' := led_keep N hk offh
  unfold SetPost at post
  cases hg : getF its nm with
  | some x =>
    rw [hg] at post
    obtain ⟨p1, _⟩ := post
    refine h v h' tk' vs n [] F' (fun p hp => ?_) (fun L0 hL0 => ?_) (fun _ h => nomatch h)
    · rcases List.mem_append.mp hp with hp | hp
      · exact ⟨p1 p hp, (Nh p hp).2⟩
      · exact N' p hp
    · unfold setdF; rw [hg]; exact hL0
  | none =>
    rw [hg] at post
    obtain ⟨r, t1, t2, k, n', q1, q2, q3, q4, q5, q6, _⟩ := post
    have hr : s.heap.get? r = none := get_of_hid q1 (hd_notin ⟨q2, q3, q4⟩)
    refine h v h' tk' (vs ++ [.ref r]) n' [(r, tupP (nm, vl) t1 t2 k)] F' (fun p hp => ?_) (fun L0 hL0 => ?_) (fun p hp => ?_)
    · rcases List.mem_append.mp hp with hp | hp
      · refine ⟨q6 p hp, ?_⟩
        have hp' : p.1 ∈ (hdLed w P d l tk (vs ++ [.ref r]) n').map (·.1) := List.mem_map_of_mem hp
        obtain ⟨q, hq, e⟩ := List.mem_map.mp (show p.1 ∈ (hdLed w P d l tk vs n).map (·.1) from hp')
        exact e ▸ (Nh q hq).2
      · rcases List.mem_append.mp hp with hp | hp
        · rw [List.mem_singleton.mp hp]
          refine ⟨q5, fun e => ?_, ?_⟩
          · obtain ⟨oL, _, _, hL, _⟩ := F.ns
            have e' : r = L := e
            rw [← e', hr] at hL; cases hL
          · cases q : h₀.get? r with
            | none => rfl
            | some o => have := F.keep _ _ q; rw [hr] at this; cases this
        · exact N' p hp
    · unfold setdF; rw [hg]; exact hL0.snoc
    · rw [List.mem_singleton.mp hp]; exact hr
theorem hd_led {P d l : Addr} {tk : Tok} {vs : List Value} {n : Nat} {rest : List (Addr × Obj)} {h' : Heap} (N : News h₀ L s.heap (hdLed w P d l tk vs n ++ rest)) (hk : Kept (hideAll s.heap ((hdLed w P d l tk vs n).map (·.1))) h') (same : ∀ p ∈ hdLed w P d l tk vs n, h'.get? p.1 = some p.2)
    (off : ∀ p ∈ rest, p.1 ≠ P ∧ p.1 ≠ d ∧ p.1 ≠ l) : News h₀ L h' (hdLed w P d l tk vs n ++ rest) := fun p hp => by
  rcases List.mem_append.mp hp with q | q
  · exact ⟨same p q, (N p hp).2⟩
  · exact led_keep N hk (fun p hp => hd_notin (off p hp)) p q
theorem new_led {h' : Heap} {all : List (Addr × Obj)} {r : Addr} {o : Obj} (F : Fr h₀ L s.heap m) (N : News h₀ L h' all) (n : s.heap.get? r = none) (e : h'.get? r = some o) : News h₀ L h' ((r, o) :: all) := fun p hp => by
  rcases List.mem_cons.mp hp with rfl | hp
  · refine ⟨e, fun q => ?_, ?_⟩
    · obtain ⟨oL, _, _, hL, _⟩ := F.ns
      have q' : r = L := q
      rw [← q', n] at hL; cases hL
    · cases q : h₀.get? r with
      | none => rfl
      | some o => have := F.keep _ _ q; rw [n] at this; cases this
  · exact N p hp
theorem keys_use {P d l : Addr} {tk : Tok} {vs : List Value} {n : Nat} {its : List (Str × Str)} {rest : List (Addr × Obj)} (hne : P ≠ d ∧ P ≠ l ∧ d ≠ l) (hits : OkL its) (hlines : LinesIn rest vs its)
    (off : ∀ p ∈ rest, p.1 ≠ P ∧ p.1 ≠ d ∧ p.1 ≠ l)
    (B : Below A₀ base outer h₀) (F : Fr h₀ L s.heap m) (X : (kHeap w.params).In h₀) (T : Top kView loose1 mean mg mb h₀) (N : News h₀ L s.heap (hdLed w P d l tk vs n ++ rest))
    (hA : A = Ar dp un gd (env :: outer)) (hf : env.frame = some L) (hke : env.scope.kind = .function) (hd : dp + 6 < recursionLimit) (hu : un + 8 * 6 < cLine)
    (h : ∀ (r : Addr) (ys : List Value) (n' : Nat) (h' : Heap) (tk' : Nat), Fr h₀ L h' m → News h₀ L h' ((r, listOf ys.toArray n') :: (hdLed w P d l tk vs n ++ rest)) → ys.length = its.length → Q (.ref r) { s with heap := h', toks := tk' }) :
    wpAny (model prog1 w) A (call (.ref 205) [.ref P] []) Q E s := by
  have Nh : News h₀ L s.heap (hdLed w P d l tk vs n) := fun p hp => N p (List.mem_append.mpr (.inl hp))
  have offh : ∀ p ∈ rest, p.1 ∉ (hdLed w P d l tk vs n).map (·.1) := fun p hp => hd_notin (off p hp)
  refine ctr_mut (keys_ctr P d l tk vs n its hne hits) B F X T Nh hA hf hke (hlines.at fun p hp => hideAll_get _ (N p (List.mem_append.mpr (.inr hp))).1 (offh p hp)) hd hu fun v h' tk' hk F' post => ?_
  obtain ⟨same, r, ys, n', rfl, q, e, hl⟩ := post
  exact h r ys n' h' tk' F' (new_led F (hd_led N hk same off) (get_of_hid q.1 (hd_notin q.2)) e) hl
theorem items_use {P d l : Addr} {tk : Tok} {vs : List Value} {n : Nat} {rest : List (Addr × Obj)} (hne : P ≠ d ∧ P ≠ l ∧ d ≠ l) (hz : vs.length ≤ 50)
    (off : ∀ p ∈ rest, p.1 ≠ P ∧ p.1 ≠ d ∧ p.1 ≠ l)
    (B : Below A₀ base outer h₀) (F : Fr h₀ L s.heap m) (X : (kHeap w.params).In h₀) (T : Top kView loose1 mean mg mb h₀) (N : News h₀ L s.heap (hdLed w P d l tk vs n ++ rest))
    (hA : A = Ar dp un gd (env :: outer)) (hf : env.frame = some L) (hke : env.scope.kind = .function) (hd : dp + 6 < recursionLimit) (hu : un + 8 * 6 < cLine)
    (h : ∀ r n' h' tk', Fr h₀ L h' m → News h₀ L h' ((r, listOf vs.toArray n') :: (hdLed w P d l tk vs n ++ rest)) → Q (.ref r) { s with heap := h', toks := tk' }) :
    wpAny (model prog1 w) A (call (.ref 217) [.ref P] []) Q E s := by
  have Nh : News h₀ L s.heap (hdLed w P d l tk vs n) := fun p hp => N p (List.mem_append.mpr (.inl hp))
  refine ctr_mut (items_ctr P d l tk vs n hne hz) B F X T Nh hA hf hke trivial hd hu fun v h' tk' hk F' post => ?_
  obtain ⟨same, r, n', rfl, q, e⟩ := post
  exact h r n' h' tk' F' (new_led F (hd_led N hk same off) (get_of_hid q.1 (hd_notin q.2)) e)
end
section
variable {prog : Program} {w : World} {A : Around} {E : Value → Shared → Prop} {s : Shared} {h₀ : Heap} {L : Addr} {news : List (Addr × Obj)}
theorem lenLs {l : Addr} {vs : List Value} {n : Nat} {Q : Value → Shared → Prop} (N : News h₀ L s.heap news) (hm : (l, listOf vs.toArray n) ∈ news) (hz : vs.length ≤ 1000000)
    (h : ∀ t tk, Q (.int vs.length t) { s with toks := tk }) : wpAny (model prog w) A (call (.builtin "len") [.ref l]) Q E s :=
  len_list (items := vs.toArray) ⟨_, (N _ hm).1, rfl, _, rfl⟩ (by rw [List.size_toArray]; omega) (by rw [List.size_toArray]; exact h _ _)
theorem getLs {l : Addr} {vs : List Value} {n : Nat} {k : Int} {u : Tok} {v : Value} {Q : Value → Shared → Prop} (N : News h₀ L s.heap news) (hm : (l, listOf vs.toArray n) ∈ news)
    (h0 : 0 ≤ k) (hk : k < 1000000) (hv : vs[k.toNat]? = some v) (h : Q v s) : wpAny (model prog w) A (getItem (.ref l) (.int k u)) Q E s :=
  wpAny_getItem_list ⟨_, (N _ hm).1, rfl, _, rfl⟩ h0 (by omega) (by simpa using hv) h
theorem subLs {l : Addr} {vs : List Value} {n : Nat} {k : Int} {u : Tok} {v : Value} {value slice : Expr} {Q : Value → Shared → Prop} (N : News h₀ L s.heap news) (hm : (l, listOf vs.toArray n) ∈ news)
    (h0 : 0 ≤ k) (hk : k < 1000000) (hv : vs[k.toNat]? = some v) (h : Q v s)
    (hs : subscripted slice false (.ref l) (.int k u) = operate [.ref l, .int k u] (getItem (.ref l) (.int k u)) := by with_unfolding_all rfl) :
    wpAny (model prog w) A (subscriptTail value slice (.ref l) (.int k u)) Q E s :=
  tail_any (Heap.IsList.typeIs ⟨_, (N _ hm).1, rfl, _, rfl⟩) slot_list_getitem.lookup (getLs N hm h0 hk hv h) hs
end
section
variable {prog : Program} {w : World} {A : Around} {E : Value → Shared → Prop} {s : Shared} {env : Env} {h₀ : Heap} {body : List Stmt} {Q : Flow → Shared → Prop}
/-- the test of a while failed -/
noncomputable def LtEnd {σ : Type} (h₀ : Heap) (L : Addr) (s : Shared) (ps : σ → List (Str × Value)) (Led : σ → List (Addr × Obj)) (stored : List Str) (m₀ : Str → Option Value) (no : σ → Prop) (c : σ) (s₂ : Shared) : Prop :=
  ∃ (h' : Heap) (tk : Nat) (m' : Str → Option Value) (news' : List (Addr × Obj)), s₂ = { s with heap := h', toks := tk } ∧ Fr h₀ L h' m' ∧ News h₀ L h' news' ∧ (∀ p ∈ Led c, p ∈ news') ∧ (∀ p ∈ ps c, m' p.1 = some p.2) ∧ (∀ z, (∀ p ∈ ps c, z ≠ p.1) → stored.contains z = false → m' z = m₀ z) ∧ no c
theorem lt_end {σ : Type} {L : Addr} {ps : σ → List (Str × Value)} {Led : σ → List (Addr × Obj)} {stored : List Str} {m₀ m' : Str → Option Value} {no : σ → Prop} {c : σ} {h' : Heap} {tk : Nat} {news' : List (Addr × Obj)}
    (F : Fr h₀ L h' m') (N : News h₀ L h' news') (hn : ∀ p ∈ Led c, p ∈ news') (hk : ∀ p ∈ ps c, m' p.1 = some p.2) (hr : ∀ z, (∀ p ∈ ps c, z ≠ p.1) → stored.contains z = false → m' z = m₀ z) (hp : no c) :
    LtEnd h₀ L s ps Led stored m₀ no c { s with heap := h', toks := tk } := ⟨h', tk, m', news', rfl, F, N, hn, hk, hr, hp⟩
theorem lt_while {σ : Type} {L : Addr} {test : Expr} {pos : Pos} {m₀ : Str → Option Value} {news : List (Addr × Obj)} (ps : σ → List (Str × Value)) (Led : σ → List (Addr × Obj)) (P : σ → Prop) (no : σ → Prop) (μ : σ → Nat) (stored : List Str) (c₀ : σ)
    (F : Fr h₀ L s.heap m₀) (N : News h₀ L s.heap news) (hn : ∀ p ∈ Led c₀, p ∈ news) (hk : ∀ p ∈ ps c₀, m₀ p.1 = some p.2) (hp : P c₀)
    (turn : ∀ (c : σ) (u : Str → Option Value) h tk, P c → Fr h₀ L h (kstB (fun z => if stored.contains z then u z else m₀ z) (ps c)) → News h₀ L h (Led c) →
      wpAny (model prog w) A (isTrue test env (eval test env)) (fun b s₂ =>
        if b = true then wpAny (model prog w) A (execs body env) (LpW h₀ L s ps Led P μ stored m₀ Q c) E s₂ else LtEnd h₀ L s ps Led stored m₀ no c s₂) E { s with heap := h, toks := tk })
    (done : ∀ (c : σ) (u : Str → Option Value) h tk, P c → no c → Fr h₀ L h (kstB (fun z => if stored.contains z then u z else m₀ z) (ps c)) → News h₀ L h (Led c) → Q .next { s with heap := h, toks := tk })
    (hE : PassesOwn (model prog w) A env E := by passes_own) :
    wpAny (model prog w) A (exec (.While test body [] pos) env) Q E s := by
  refine lp_while ps Led P μ stored c₀ F N hn hk hp (fun c u h tk hP F₁ N₁ => ?_) hE
  refine wpAny_mono (turn c u h tk hP F₁ N₁) (fun b s₂ p => ?_) fun _ _ x => x
  cases b with
  | true => exact p
  | false =>
    simp only [Bool.false_eq_true, if_false] at p ⊢
    obtain ⟨h', tk', m', news', rfl, F', N', hn, hk9, hr9, hT⟩ := p
    exact done c m' h' tk' hP hT (ksw_fr hk9 hr9 F') fun p hp => N' p (hn p hp)
end
section
variable {prog : Program} {w : World} {A : Around} {E : Value → Shared → Prop} {s : Shared} {h₀ : Heap} {env : Env} {L : Addr} {m : Str → Option Value} {news : List (Addr × Obj)}
theorem as_pair {x y : Str} {px py tp : Pos} {x1 : Nat} {r : Addr} {p : Str × Str} {t1 t2 : Tok} {n : Nat} {Q : Unit → Shared → Prop} (hh : A.handled = none) (F : Fr h₀ L s.heap m) (N : News h₀ L s.heap news) (hm : (r, tupP p t1 t2 n) ∈ news)
    (hL : env.locals = L) (hx : env.kindOf x = some .local) (hy : env.kindOf y = some .local) (hk : env.scope.kind = .function)
    (h : ∀ h' tk, Fr h₀ L h' (fun z => if z = y then some (.str p.2 t2) else if z = x then some (.str p.1 t1) else m z) → News h₀ L h' news → Q () { s with heap := h', toks := tk }) :
    wpAny (model prog w) A (assign (.Tuple [.Name x px, .Name y py] x1 tp) env (.ref r)) Q E s := by
  subst hL
  refine assign_Tuple_tuple hh ⟨_, (N _ hm).1, rfl, n, rfl⟩ rfl rfl fun h₅ he => ?_
  have he' : ∀ b o, s.heap.get? b = some o → h₅.get? b = some o := fun b o e => he b o (Nat.ne_of_lt (Heap.lt_size e)) e
  have hp : (env.scope.kind == .class || (env.scope.kind == .module && env.locals != env.globals)) = false := by rw [hk]; rfl
  refine assignInOrder_cons (wpAny_assign_Name (wpAny_storeName_local hx (F.ns.at' fun o e => he' _ o e) (fun h₆ hn₆ hs₆ => ?_) hp))
  refine assignInOrder_cons (wpAny_assign_Name (wpAny_storeName_local hy hn₆ (fun h₃ hn₃ hs₃ => ?_) hp))
  refine assignInOrder_nil ?_
  have up : ∀ b o, b ≠ env.locals → s.heap.get? b = some o → h₃.get? b = some o := fun b o hb e => hs₃.extBut b o hb (hs₆.extBut b o hb (he' b o e))
  have hL : ∀ b o, h₀.get? b = some o → b ≠ env.locals := fun b o e q => absurd (Heap.lt_size e) (Nat.not_lt.mpr (q ▸ F.above))
  exact h h₃ _ ⟨hn₃, fun b o e => up b o (hL b o e) (F.keep b o e), F.above⟩ fun p hp => ⟨up _ _ (N p hp).2.1 (N p hp).1, (N p hp).2⟩
end
section
variable {prog : Program} {w : World} {A : Around} {E : Value → Shared → Prop} {s : Shared} {h₀ : Heap} {L : Addr} {m : Str → Option Value} {news : List (Addr × Obj)}
theorem dict_use {l : Addr} {vs : List Value} {n : Nat} {its : List (Str × Str)} {Q : Value → Shared → Prop} (hh : A.handled = none) (F : Fr h₀ L s.heap m) (N : News h₀ L s.heap news) (hbig : h₀.NoLimit) (hm : (l, listOf vs.toArray n) ∈ news) (hlines : LinesIn news vs its) (hz : vs.length ≤ sizeLine) (hn : (its.map (·.1)).Nodup)
    (h : ∀ (d : Addr) (h' : Heap) (o : Obj) (kvs : List (Str × Value)) (tk' : Nat), Fr h₀ L h' m → News h₀ L h' ((d, o) :: news) → (∀ p ∈ news, @LT.lt Nat _ p.1 d) → (d == sysModules) = false → o.IsDictOf (PySem.strKind prog w) kvs → PyProof.V.FlatPairs PyData.str kvs (wayD its) → Q (.ref d) { s with heap := h', toks := tk' }) :
    wpAny (model prog w) A (call (.type "dict") [.ref l]) Q E s := by
  obtain ⟨kvs, hk, hf, hlen⟩ : ∃ kvs : List (Str × Value), (∀ (i : Nat) (v : Value), vs[i]? = some v → ∃ p, kvs[i]? = some p ∧ PairAt s.heap v p) ∧ PyProof.V.FlatPairs PyData.str kvs (wayD its) ∧ kvs.length = vs.length := by
    have hL := hlines.1
    have hp := hlines.2
    clear hlines hm hz hn h
    induction its generalizing vs with
    | nil =>
      have hv : vs = [] := List.eq_nil_of_length_eq_zero (by simpa using hL)
      subst hv
      exact ⟨[], fun i v e => by simp at e, .nil, rfl⟩
    | cons p r ih =>
      cases vs with
      | nil => simp at hL
      | cons v vs =>
        obtain ⟨kvs, q1, q2, q3⟩ := ih (vs := vs) (by simpa using hL) fun i p e => by simpa using hp (i + 1) p (by simpa using e)
        obtain ⟨r', t1, t2, n', e1, e2⟩ := hp 0 p rfl
        have e1' : v = .ref r' := by simpa using e1
        subst e1'
        refine ⟨(p.1, .str p.2 t2) :: kvs, fun i v e => ?_, .cons (PyProof.V.Flat.str _ _) q2, by simp [q3]⟩
        cases i with
        | zero => exact ⟨_, rfl, r', t1, n', by simpa using e.symm, (N _ e2).1⟩
        | succ i => simpa using q1 i v (by simpa using e)
  have hkeys : kvs.map (·.1) = its.map (·.1) := by
    clear hk hlen h hlines hn
    induction its generalizing kvs with
    | nil => cases hf; rfl
    | cons p r ih => cases hf with | cons hv hr => simp [ih _ hr]
  refine dict_pairs hh (N _ hm).1 hk hlen hz fun h' tk' hd kp => ?_
  rw [storeAll_nodup kvs [] (by simpa using hkeys ▸ hn), List.nil_append] at hd
  obtain ⟨o', ho', hd'⟩ := Heap.dictOf_iff.mp hd
  have hnone : s.heap.get? s.heap.objs.size = none := by
    cases q : s.heap.get? s.heap.objs.size with
    | none => rfl
    | some o => exact absurd (Heap.lt_size q) (Nat.lt_irrefl _)
  exact h _ h' o' kvs tk' (F.keeps kp) (new_led F (N.grown kp) hnone ho') (fun p hp => Heap.lt_size (N p hp).1) (F.notModules (modules_low hbig)) hd' hf
end
section
variable {prog : Program} {w : World} {A : Around} {E : Value → Shared → Prop} {s : Shared}
noncomputable def ten10 : Str := ⟨(List.replicate 10 (Str.ofString " ").cps).foldl (· ++ ·) #[]⟩
theorem ten_blanks {t u : Tok} {Q : Value → Shared → Prop} (h : ∀ t' tk, Q (.str ten10 t') { s with toks := tk }) : wpAny (model prog w) A (binaryOp .Mult (.int 10 u) (.str (Str.ofString " ") t)) Q E s :=
  lm_binaryOp_repeat_right (T := "str") (U := "int") (by decide) (fun s' => typeIs_int s' 10 u) (typeIs_str s (Str.ofString " ") t) F.fills_int_mul noFill_str_mul F.slot_int_mul lm_noRepeat_int repeat_str F.slot_int_index.lookup
    (call_gives F.slot_int_mul (typeIs_int s 10 u) F.entry_int_mul (F.args_int_mul_2 _ _) (AutoIntG3.int___mul___int_str_0 10 u (Str.ofString " ") t)
      ⟨rfl, typeIs_str _ _ _, call_gives F.slot_str_mul (typeIs_str s (Str.ofString " ") t) F.entry_str_mul (F.args_str_mul_2 _ _) (gives_str_mul (Str.ofString " ") 10 t u (by decide) (fun _ _ => by decide) (fun _ _ => by decide)) (by
        rw [if_neg (by decide), if_neg (by decide)]
        exact ⟨by decide, h _ _⟩)⟩)
end
end
section
local macro_rules | `(tactic| walk_at "exec For Tuple Name cons nil") => `(tactic| (k_here; (rename Fr _ _ _ _ => lF'); (with_unfolding_all refine' lf_for lF' ?_)))
local macro_rules | `(tactic| walk_at "call ref") => `(tactic| ((fail_if_success (with_reducible show wpAny _ _ (call (Value.ref 253) _ _) _ _ _)); refine Stop.out ?_))
local macro_rules | `(tactic| walk_at "call builtin:len cons nil") => `(tactic| (k_here; refine' lenLs ?k1 ?k2 ?k3 ?_; (case k1 => k_asm); (case k2 => exact List.Mem.head _); (case k3 => omega); k_whole; intro _ _))
local macro_rules | `(tactic| walk_at "subscriptTail Name Name ref int") => `(tactic| refine Stop.out ?_)
local macro_rules | `(tactic| walk_at "subscriptTail Name Name ref str") => `(tactic| refine Stop.out ?_)
local macro_rules | `(tactic| walk_at "subscriptTail") => `(tactic| refine Stop.out ?_)
local macro_rules | `(tactic| walk_at "call type:dict") => `(tactic| refine Stop.out ?_)
local macro_rules | `(tactic| walk_at "getMethod ref") => `(tactic| ((with_reducible show wpAny _ _ (getMethod _ (Str.ofString "get") _) _ _ _); refine Stop.out ?_))
local macro_rules | `(tactic| walk_at "call builtin:dict.get") => `(tactic| refine Stop.out ?_)
local macro_rules | `(tactic| walk_at "binaryOp Mult int str") => `(tactic| (k_here; refine ten_blanks ?_; k_whole; intro _ _))
noncomputable abbrev roadsDF (rs : Nat → Str) : List (PyData × PyData) := (List.range 5).map fun k => (PyData.str (sgn k), PyData.str (rs k))
noncomputable def RsOk (rs : Nat → Str) : Prop := ∀ k, k < 5 → (rs k).length ≤ 40 ∧ ∀ c ∈ (rs k).cps.toList, ∃ j, j < 5 ∧ (⟨#[c]⟩ : Str) = sgn j
theorem grab_hdo {w : World} {h₀ h : Heap} {L P d l c : Addr} {tk : Tok} {vs : List Value} {n : Nat} {o : Obj} {G : Prop} (_N : News h₀ L h (hdLed w P d l tk vs n ++ [(c, o)])) (k : ∀ P' d' l' tk' o', P' = P → d' = d → l' = l → o' = o → News h₀ L h (hdLed w P' d' l' tk' vs n ++ [(c, o')]) → G) : G := k P d l tk o rfl rfl rfl rfl _N
structure WyS where
  vs : List Value
  n : Nat
  nx : List (Addr × Obj)
  its : List (Str × Str)
  k : Nat
  t : Tok
theorem roadsDF_look (rs : Nat → Str) {j : Nat} (h : j < 5) : PySem.Spec.lookup (PyData.str (sgn j)) (roadsDF rs) = some (PyData.str (rs j)) := by
  have : j = 0 ∨ j = 1 ∨ j = 2 ∨ j = 3 ∨ j = 4 := by omega
  rcases this with rfl | rfl | rfl | rfl | rfl <;> rfl
theorem ways_ctr {w : World} {mean : ExcName → Option Value} {mg mb : Str → Option Value} (R : Addr) (rs : Nat → Str) (hrs : RsOk rs) (j0 : Nat) (hj0 : j0 < 5) (t : Tok) :
    Ctr w mean mg mb 24 295 [.ref R, .str (sgn j0) t] [] [] (fun g => StrTab prog1 w g R (roadsDF rs)) (NewInts (waysF rs (sgn j0))) := by
  refine ctr_of ?_
  intro dp un gd fr base s Q E B X T hd hu hp ret
  k_dflt cell_enter
  k_steps
  rename Fr _ _ _ _ => F1
  rename News _ _ _ _ => N1
  refine grab_hdo (w := w) (vs := []) N1 fun P d l tk0 o0 e1 e2 e3 e4 N2 => ?_
  subst e1 e2 e3 e4
  clear N1
  unfold Stop
  refine' lf_list (σ := Unit) (its := #[]) (fun _ => []) (fun _ => hdLed w P d l tk0 [] 0 ++ [(L + 1, o0)]) (fun _ _ => True) ["k", "v"] () rfl ?hl F1 N2 ?hn ?hk trivial ?turn ?done
  case hn => exact fun _ h => h
  case hl => exact fun i c _ => .inr ⟨_, List.Mem.tail _ (List.Mem.tail _ (List.Mem.head _)), rfl, _, rfl⟩
  case hk => ktr_unf
  case turn => exact fun i v c u I oI h tk hi => absurd hi (Nat.not_lt_zero _)
  case done =>
    clear F1 N2
    intro c u h tk _ F N
    try k_fold
    k_steps
    clear F N
    rename Fr s.heap L _ _ => F
    rename News s.heap L _ _ => N
    unfold Stop
    have oc0 : @LT.lt Nat _ (L + 1) l := by omega
    have od0 : @LT.lt Nat _ l d := by omega
    have oP0 : @LT.lt Nat _ d P := by omega
    have hne : P ≠ d ∧ P ≠ l ∧ d ≠ l := ⟨Nat.ne_of_gt oP0, Nat.ne_of_gt (Nat.lt_trans od0 oP0), Nat.ne_of_gt od0⟩
    have o0off : (L + 1 ≠ P ∧ L + 1 ≠ d ∧ L + 1 ≠ l) := ⟨Nat.ne_of_lt (Nat.lt_trans oc0 (Nat.lt_trans od0 oP0)), Nat.ne_of_lt (Nat.lt_trans oc0 od0), Nat.ne_of_lt oc0⟩
    have hne0 : Ok (Str.ofString "") := ⟨fun _ h => (nomatch h), by decide⟩
    refine' setd_use (its := []) hne (sgn_ok j0 hj0) hne0 ⟨Nat.zero_le _, fun _ h => nomatch h⟩ ⟨rfl, fun _ _ e => nomatch e⟩ ?oo B F X T N rfl rfl rfl ?e1 ?e2 ?e3
    case oo => exact fun p hp => (List.mem_singleton.mp hp) ▸ o0off
    case e1 => ktr_room
    case e2 => ktr_units
    case e3 =>
      intro v h1 tk1 vs1 n1 new F1 N1 hl1 hnew
      have hl2 := hl1 [] ⟨rfl, fun _ _ e => nomatch e⟩
      rw [List.append_nil] at hl2
      have off1 : ∀ p ∈ new, (p.1 ≠ P ∧ p.1 ≠ d ∧ p.1 ≠ l) ∧ p.1 ≠ L + 1 := fun p hp => by
        have q := hnew p hp
        have ne : ∀ x ∈ hdLed w P d l tk0 [] 0 ++ [(L + 1, o0)], p.1 ≠ x.1 := fun x hx e => by
          have := (N x hx).1
          rw [← e, q] at this; cases this
        exact ⟨⟨ne _ (.head _), ne _ (.tail _ (.head _)), ne _ (.tail _ (.tail _ (.head _)))⟩, ne _ (.tail _ (.tail _ (.tail _ (.head _))))⟩
      clear F N
      k_steps
      rename Fr s.heap L _ _ => F
      rename News s.heap L _ _ => N
      unfold Stop
      refine' lt_while (σ := WyS) (fun c => [(Str.ofString "k", .int (c.k : Int) c.t)]) (fun c => hdLed w P d l tk0 c.vs c.n ++ (c.nx ++ [(L + 1, o0)])) (fun c => LinesIn c.nx c.vs c.its ∧ WIts c.its 45 c.k ∧ c.k ≤ 5 ∧ (∀ p ∈ c.nx, (p.1 ≠ P ∧ p.1 ≠ d ∧ p.1 ≠ l) ∧ p.1 ≠ L + 1) ∧ waysGo rs (6 - c.k) c.its c.k = waysGo rs 6 [(sgn j0, Str.ofString "")] 0) (fun c => ¬ (c.k < c.its.length ∧ c.its.length < 5)) (fun c => 6 - c.k) ["k", "town", "way", "other"] (WyS.mk vs1 n1 new [(sgn j0, Str.ofString "")] 0 _) F N ?hn1 ?hk1 ?hp1 ?turn1 ?done1
      case hn1 => exact fun _ h => h
      case hk1 => ktr_unf
      case hp1 => exact ⟨hl2, ⟨by show 1 ≤ 45; decide, fun p hp => (List.mem_singleton.mp hp) ▸ ⟨j0, hj0, rfl⟩, by simp, fun p hp => by rw [List.mem_singleton.mp hp]; exact ⟨hne0.1, Nat.le_refl _⟩⟩, Nat.zero_le _, off1, rfl⟩
      case turn1 =>
        clear F N hl2 off1 hnew hl1
        intro c u h tk5 hP F N
        obtain ⟨p1, p2, p3, p4, p5⟩ := hP
        have hits := p2.okL (by decide) (by omega)
        try k_fold
        k_steps
        have hlen : c.vs.length = c.its.length := p1.1
        have hvz : c.vs.length ≤ 50 := by rw [hlen]; exact hits.1
        have hl0 : LinesIn (c.nx ++ [(L + 1, o0)]) c.vs c.its := p1.mono fun p hp => List.mem_append.mpr (.inl hp)
        have offr : ∀ p ∈ c.nx ++ [(L + 1, o0)], p.1 ≠ P ∧ p.1 ≠ d ∧ p.1 ≠ l := fun p hp => by
          rcases List.mem_append.mp hp with hp | hp
          · exact (p4 p hp).1
          · exact (List.mem_singleton.mp hp) ▸ o0off
        unfold Stop
        dsimp only [List.append_nil]
        refine' keys_use hne hits hl0 offr B F X T N rfl rfl rfl ?f1 ?f2 ?f3
        case f1 => ktr_room
        case f2 => ktr_units
        case f3 =>
          intro r ys n2 h2 tk2 F2 N2 hys
          clear F N
          have hyz : ys.length ≤ 50 := hys ▸ hits.1
          k_steps
          rotate_left
          · refine' lt_end F2 N2 ?hn2 ?hk2 ?hr2 ?hp2
            case hn2 => exact fun p hp => List.Mem.tail _ hp
            case hk2 => ktr_unf
            case hr2 => ksw_less
            case hp2 => omega
          · refine' lt_end F2 N2 ?hn3 ?hk3 ?hr3 ?hp3
            case hn3 => exact fun p hp => List.Mem.tail _ hp
            case hk3 => ktr_unf
            case hr3 => ksw_less
            case hp3 => omega
          · unfold Stop
            have N3 : News s.heap L h2 (hdLed w P d l tk0 c.vs c.n ++ (c.nx ++ [(L + 1, o0)])) := fun p hp => N2 p (List.Mem.tail _ hp)
            clear N2
            dsimp only [List.append_nil]
            refine' items_use hne hvz offr B F2 X T N3 rfl rfl rfl ?f5 ?f6 ?f7
            case f5 => ktr_room
            case f6 => ktr_units
            case f7 =>
              intro r4 n4 h4 tk4 F4 N4
              clear F2 N3
              have hk4 : c.k < c.its.length := by omega
              obtain ⟨rt, tt1, tt2, nt, hv4, hm4⟩ := p1.2 c.k _ (List.getElem?_eq_getElem hk4)
              have hm5 : (rt, tupP c.its[c.k] tt1 tt2 nt) ∈ (r4, listOf c.vs.toArray n4) :: (hdLed w P d l tk0 c.vs c.n ++ (c.nx ++ [(L + 1, o0)])) := List.Mem.tail _ (List.mem_append.mpr (.inr (List.mem_append.mpr (.inl hm4))))
              k_steps
              rename Fr s.heap L _ _ => F4
              rename News s.heap L _ _ => N4
              unfold Stop
              dsimp only
              refine' subLs N4 (List.Mem.head _) (Int.natCast_nonneg _) ?m1 hv4 ?m2
              case m1 => omega
              case m2 =>
                k_steps
                rename Fr s.heap L _ _ => F6
                rename News s.heap L _ _ => N6
                unfold Stop
                obtain ⟨jt, hjt, ejt⟩ := p2.key _ (List.getElem_mem hk4)
                have hT := hp.keep F6.keep
                have hlk : PySem.Spec.lookup (PyData.str c.its[c.k].1) (roadsDF rs) = some (PyData.str (rs jt)) := by rw [ejt]; exact roadsDF_look rs hjt
                refine' item_strTab hT hlk ?l2
                intro vr hvr
                obtain ⟨tr, rfl⟩ := PyProof.V.Flat.str_inv hvr
                k_steps
                rename Fr s.heap L _ _ => F7
                rename News s.heap L _ _ => N7
                unfold Stop
                have eg : c.its.getD c.k (Str.ofString "", Str.ofString "") = c.its[c.k] := by rw [List.getD_eq_getElem?_getD, List.getElem?_eq_getElem hk4]; rfl
                have hk5 : c.its.length < 5 := by omega
                have hway := p2.way _ (List.getElem_mem hk4)
                have hfit1 : Fit c.its[c.k].2 200 := Nat.le_trans hway.2 (by omega)
                refine' lf_str (σ := WyS) (fun _ => []) (fun e => hdLed w P d l tk0 e.vs e.n ++ (e.nx ++ [(L + 1, o0)])) (fun i e => LinesIn e.nx e.vs e.its ∧ WIts e.its (4 + i) (c.k + 1) ∧ (∀ p ∈ e.nx, (p.1 ≠ P ∧ p.1 ≠ d ∧ p.1 ≠ l) ∧ p.1 ≠ L + 1) ∧ e.its = waysRowI rs c.its c.k i) ["other"] c rfl F7 N7 ?hn5 ?hk5 ?hp5 ?turn5 ?done5
                case hn5 => exact fun p hp => List.Mem.tail _ hp
                case hk5 => ktr_unf
                case hp5 => exact ⟨p1, ⟨by omega, p2.key, p2.nod, fun p hp => ⟨(p2.way p hp).1, Nat.le_succ_of_le (p2.way p hp).2⟩⟩, p4, rfl⟩
                case turn5 =>
                  clear F7 N7
                  intro i v e u8 I oI h8 tk8 hi8 hv8 hP8 hoff8 hst8 F N
                  obtain ⟨q1, q2, q3, q4⟩ := hP8
                  obtain ⟨cc, uu, hcc, rfl⟩ := hv8
                  refine let_name ?_
                  have hcm : cc ∈ (rs jt).cps.toList := by
                    have := List.mem_of_getElem? (show (rs jt).cps.toList[i]? = some cc by simpa using hcc)
                    exact this
                  obtain ⟨jo, hjo, eo⟩ := (hrs jt hjt).2 cc hcm
                  rw [eo]
                  rw [List.append_assoc] at N
                  have hfit2 : Fit (sgn jo) 1 := Nat.le_refl _
                  try k_fold
                  k_steps
                  rename Fr s.heap L _ _ => F9
                  rename News s.heap L _ _ => N9
                  unfold Stop
                  have hoffr : ∀ p ∈ (e.nx ++ [(L + 1, o0)]) ++ [(I, oI)], p.1 ≠ P ∧ p.1 ≠ d ∧ p.1 ≠ l := fun p hp => by
                    rcases List.mem_append.mp hp with hp | hp
                    · rcases List.mem_append.mp hp with hp | hp
                      · exact (q3 p hp).1
                      · exact (List.mem_singleton.mp hp) ▸ o0off
                    · exact ⟨hoff8 p hp _ (List.mem_map.mpr ⟨_, .head _, rfl⟩), hoff8 p hp _ (List.mem_map.mpr ⟨_, .tail _ (.head _), rfl⟩), hoff8 p hp _ (List.mem_map.mpr ⟨_, .tail _ (.tail _ (.head _)), rfl⟩)⟩
                  have hnw : Ok (c.its[c.k].2 ++ sgn jo) := ⟨plain_app hway.1 (sgn_ok jo hjo).1, by show (c.its[c.k].2 ++ sgn jo).length ≤ 200; rw [len_app, sgn_len]; have := hway.2; omega⟩
                  refine' setd_use hne (sgn_ok jo hjo) hnw (q2.okL (by have := (hrs jt hjt).1; have : i < (rs jt).length := hi8; omega) (by omega)) ?r1 ?r2 B F9 X T N9 rfl rfl rfl ?r3 ?r4 ?r5
                  case r1 => exact q1.mono fun p hp => List.mem_append.mpr (.inl (List.mem_append.mpr (.inl hp)))
                  case r2 => exact hoffr
                  case r3 => ktr_room
                  case r4 => ktr_units
                  case r5 =>
                    intro v9 h9 tk9 vs9 n9 new9 F10 N10 hl10 hnew
                    k_steps
                    rename Fr s.heap L _ _ => F11
                    rename News s.heap L _ _ => N11
                    unfold Stop
                    refine' lf_end (WyS.mk vs9 n9 (new9 ++ e.nx) (setdF e.its (sgn jo) (c.its[c.k].2 ++ sgn jo)) 0 c.t) F11 N11 ?hn9 ?ho9 ?hoff9 ?hk9 ?hr9 ?hp9
                    case hn9 =>
                      intro p hp0
                      have hp : p ∈ hdLed w P d l tk0 vs9 n9 ++ ((new9 ++ e.nx) ++ [(L + 1, o0)]) := hp0
                      rcases List.mem_append.mp hp with hp | hp
                      · exact List.mem_append.mpr (.inl hp)
                      refine List.mem_append.mpr (.inr ?_)
                      rcases List.mem_append.mp hp with hp | hp
                      · rcases List.mem_append.mp hp with hp | hp
                        · exact List.mem_append.mpr (.inl hp)
                        · exact List.mem_append.mpr (.inr (List.mem_append.mpr (.inl (List.mem_append.mpr (.inl hp)))))
                      · exact List.mem_append.mpr (.inr (List.mem_append.mpr (.inl (List.mem_append.mpr (.inr hp)))))
                    case ho9 => exact fun p hp => List.mem_append.mpr (.inr (List.mem_append.mpr (.inr (List.mem_append.mpr (.inr hp)))))
                    case hoff9 =>
                      intro p hp b hb
                      obtain ⟨x, hx0, rfl⟩ := List.mem_map.mp hb
                      have hx : x ∈ hdLed w P d l tk0 vs9 n9 ++ ((new9 ++ e.nx) ++ [(L + 1, o0)]) := hx0
                      rcases List.mem_append.mp hx with hx | hx
                      · refine hoff8 p hp _ ?_
                        have hx' : x.1 ∈ (hdLed w P d l tk0 vs9 n9).map (·.1) := List.mem_map_of_mem hx
                        rw [List.map_append]
                        exact List.mem_append.mpr (.inl hx')
                      rcases List.mem_append.mp hx with hx | hx
                      · rcases List.mem_append.mp hx with hx | hx
                        · intro e9
                          have z := (N9 p (List.mem_append.mpr (.inr (List.mem_append.mpr (.inr hp))))).1
                          have z2 := hnew x hx
                          rw [← e9] at z2
                          exact absurd (z2.symm.trans z) (by simp)
                        · exact hoff8 p hp _ (List.mem_map_of_mem (List.mem_append.mpr (.inr (List.mem_append.mpr (.inl hx)))))
                      · exact hoff8 p hp _ (List.mem_map_of_mem (List.mem_append.mpr (.inr (List.mem_append.mpr (.inr hx)))))
                    case hk9 => ktr_unf
                    case hr9 => ksw_less
                    case hp9 =>
                      refine ⟨hl10 _ q1, q2.set hjo hnw.1 (by rw [len_app, sgn_len]; have := hway.2; omega), fun p hp => ?_, ?_⟩
                      · rcases List.mem_append.mp hp with hp | hp
                        · have z2 := hnew p hp
                          have ne : ∀ x ∈ hdLed w P d l tk0 e.vs e.n ++ ((e.nx ++ [(L + 1, o0)]) ++ [(I, oI)]), p.1 ≠ x.1 := fun x hx e9 => by
                            have z := (N9 x hx).1
                            rw [← e9] at z
                            exact absurd (z2.symm.trans z) (by simp)
                          exact ⟨⟨ne _ (.head _), ne _ (.tail _ (.head _)), ne _ (.tail _ (.tail _ (.head _)))⟩, ne (L + 1, o0) (List.mem_append.mpr (.inr (List.mem_append.mpr (.inl (List.mem_append.mpr (.inr (List.mem_singleton.mpr rfl)))))))⟩
                        · exact q3 p hp
                      · rw [waysRowI_succ rs c.its c.k i cc (by rw [eg, ejt, idxS_sgn hjt]; exact hcc), ← q4, eg, wayStep, eo]
                case done5 =>
                  clear F7 N7
                  intro e u8 h8 tk8 hP8 F N
                  obtain ⟨q1, q2, q3, q4⟩ := hP8
                  try k_fold
                  k_steps
                  rename Fr s.heap L _ _ => F9
                  rename News s.heap L _ _ => N9
                  refine' lw_end (WyS.mk e.vs e.n e.nx e.its (c.k + 1) _) F9 N9 ?hn6 ?hk6 ?hr6 ?hp6 ?hm6
                  case hn6 => exact fun p hp => hp
                  case hk6 => ktr_unf
                  case hr6 => ksw_less
                  case hp6 =>
                    refine ⟨q1, q2.mono (by have := (hrs jt hjt).1; show 4 + (rs jt).length ≤ 45; omega) (Nat.le_refl _), by show c.k + 1 ≤ 5; omega, q3, ?_⟩
                    rw [← p5]
                    have e6 : 6 - c.k = (6 - (c.k + 1)) + 1 := by omega
                    rw [e6, waysGo, if_pos ⟨hk4, hk5⟩, waysRow, eg, ejt, idxS_sgn hjt, ← q4]
                  case hm6 => show 6 - (c.k + 1) < 6 - c.k; omega
      case done1 =>
        clear F N hl2 off1 hnew hl1
        intro c u h tk5 hP hno F N
        obtain ⟨p1, p2, p3, p4, p5⟩ := hP
        have hits := p2.okL (by decide) (by omega)
        have hlen : c.vs.length = c.its.length := p1.1
        have hvz : c.vs.length ≤ 50 := by rw [hlen]; exact hits.1
        have hl0 : LinesIn (c.nx ++ [(L + 1, o0)]) c.vs c.its := p1.mono fun p hp => List.mem_append.mpr (.inl hp)
        have offr : ∀ p ∈ c.nx ++ [(L + 1, o0)], p.1 ≠ P ∧ p.1 ≠ d ∧ p.1 ≠ l := fun p hp => by
          rcases List.mem_append.mp hp with hp | hp
          · exact (p4 p hp).1
          · exact (List.mem_singleton.mp hp) ▸ o0off
        try k_fold
        k_steps
        rename Fr s.heap L _ _ => F2
        rename News s.heap L _ _ => N2
        unfold Stop
        refine' items_use hne hvz offr B F2 X T N2 rfl rfl rfl ?f5 ?f6 ?f7
        case f5 => ktr_room
        case f6 => ktr_units
        case f7 =>
          intro r4 n4 h4 tk4 F4 N4
          clear F2 N2
          k_steps
          unfold Stop
          refine' dict_use rfl F4 N4 (Top.nolimit T) (List.Mem.head _) (hl0.mono fun p hp => List.Mem.tail _ (List.mem_append.mpr (.inr hp))) ?z1 p2.nod ?z2
          case z1 => exact Nat.le_trans hvz (by decide)
          case z2 =>
            intro dd h6 od kvs tk6 F6 N6 lt6 lo6 hd6 hf6
            have N7 : News s.heap L h6 [(dd, od), (L + 1, o0)] := fun p hp => by
              rcases List.mem_cons.mp hp with rfl | hp
              · exact N6 _ (.head _)
              · rw [List.mem_singleton.mp hp]
                exact N6 _ (List.Mem.tail _ (List.Mem.tail _ (List.mem_append.mpr (.inr (List.mem_append.mpr (.inr (List.mem_singleton.mpr rfl)))))))
            have ltd : @LT.lt Nat _ (L + 1) dd := lt6 (L + 1, o0) (List.Mem.tail _ (List.mem_append.mpr (.inr (List.mem_append.mpr (.inr (List.mem_singleton.mpr rfl))))))
            clear F4 N4 N6 lt6
            have hcell : ∃ v, o0.data = .cell v := ⟨_, by assumption⟩
            k_steps
            rename Fr s.heap L _ _ => F
            rename News s.heap L _ [(dd, _), _] => N
            rename _ = Data.cell (some (Value.ref dd)) => hc1
            refine grab_obj hc1 fun o1 ho1 => ?_
            subst ho1
            unfold Stop
            refine' mc_eval (cl := [(Str.ofString "kept", L + 1)]) F ?c1 ?c2 ?c3 ?c4 ?c5 ?c6
            case c1 => rfl
            case c2 => decide
            case c3 => rfl
            case c4 => decide
            case c6 => intro _; rfl
            case c5 =>
              k_steps
              rename Fr _ _ _ _ => F
              rename News _ _ _ _ => N
              unfold Stop
              refine' mc_str (fun i ys nx => nx = [(dd, od), (L + 1, o1)] ∧ IntsAre ys ((List.range i).map fun j => dgetF c.its (sgn j))) [(dd, od), (L + 1, o1)] rfl rfl rfl ?d2 F N ?d4 ?d5 ?d6 ?d7
              case d2 => decide
              case d4 => exact fun _ h => h
              case d6 => exact ⟨rfl, .nil⟩
              case d5 =>
                clear F N
                intro x v ys nx I oI C oC D3 m₂ h tk9 E' hx hv hJ hC hb F N off ne _
                obtain ⟨rfl, j4⟩ := hJ
                unfold BdN at hb
                have hm1 : (L + 1, o1) ∈ [(dd, od), (L + 1, o1)] := List.Mem.tail _ (List.Mem.head _)
                refine wpAny_tests_nil ?_
                dsimp only
                rw [if_pos rfl]
                try k_fold
                obtain ⟨cc, uu, hcc, rfl⟩ := hv
                have hx5 : x < 5 := hx
                have es : (⟨#[cc]⟩ : Str) = sgn x := by
                  have h1 := (sgn_at ⟨x, hx5⟩).1
                  have h2 := (sgn_at ⟨x, hx5⟩).2.1
                  dsimp only at h1 h2
                  rw [hcc] at h1
                  rw [Option.some.inj h1]; exact h2.symm
                rw [es] at hb
                have hT : StrTab prog1 w h dd (wayD c.its) := ⟨lo6, kvs, Heap.dictOf_iff.mpr ⟨od, (N _ (.tail _ (.tail _ (.tail _ (.head _))))).1, hd6⟩, hf6⟩
                k_steps
                unfold Stop
                refine getMethod_strTab_get hT ?_
                k_steps
                unfold Stop
                refine call_get2_strTab hT (PyProof.V.Flat.str ten10 _) fun v hv => ?_
                rw [wayD_look] at hv
                have hvv : ∃ y ty, v = .str y ty ∧ (y.length : Int) = dgetF c.its (sgn x) ∧ y.length ≤ 200 := by
                  unfold dgetF
                  cases hq : c.its.find? fun p => decide (p.1 = sgn x) with
                  | none =>
                    rw [hq] at hv
                    obtain ⟨ty, rfl⟩ := PyProof.V.Flat.str_inv hv
                    exact ⟨_, _, rfl, by decide, by decide⟩
                  | some p =>
                    rw [hq] at hv
                    obtain ⟨ty, rfl⟩ := PyProof.V.Flat.str_inv hv
                    have hmem := List.mem_of_find?_eq_some hq
                    exact ⟨_, _, rfl, rfl, Nat.le_trans (p2.way _ hmem).2 (by omega)⟩
                obtain ⟨y, ty, rfl, hy, hyl⟩ := hvv
                k_steps
                rename Fr s.heap L _ _ => F
                rename News s.heap L _ _ => N
                refine mend_same (h := h) F N off trivial ⟨rfl, ?_⟩
                rw [List.range_succ, List.map_append]
                rw [hy]
                exact IntsAre.append j4 (.cons _ _ .nil)
              case d7 =>
                clear F N
                intro g ys nx hl9 hJ
                obtain ⟨rfl, j4⟩ := hJ
                unfold MFinE
                intro D2 h tk9 F N off1
                k_steps
                refine ret _ _ _ F.keep ⟨D2, ys, _, rfl, (N _ (.head _)).2.2, (N _ (.head _)).1, ?_⟩
                have e9 : c.its = waysGo rs 6 [(sgn j0, Str.ofString "")] 0 := by rw [← p5, waysGo_no rs hno]
                unfold waysF
                rw [← e9]
                exact j4
end
section
theorem rows_reads {h : Heap} {a : Addr} {rss : List (List Int)} (x : RowsAt h a rss) : ∃ as, Reads h (.ref a) (.list (rss.map fun ns => .list (ns.map .int))) as := by
  obtain ⟨ys, ⟨o, ho, hc, n, hd⟩, hl, hr⟩ := x
  have key : ∀ (ys : List Value) (rss : List (List Int)), ys.length = rss.length → (∀ (i : Nat) (ns : List Int), rss[i]? = some ns → ∃ (r : Addr) (vs : List Value), ys[i]? = some (Value.ref r) ∧ h.IsList r vs.toArray ∧ IntsAre vs ns) → ∃ as, ReadsAll h ys (rss.map fun ns => .list (ns.map .int)) as := by
    intro ys
    induction ys with
    | nil =>
      intro rss hl _
      have : rss = [] := List.eq_nil_of_length_eq_zero (by simpa using hl.symm)
      subst this
      exact ⟨[], .nil⟩
    | cons y ys ih =>
      intro rss hl hr
      cases rss with
      | nil => simp at hl
      | cons ns rss =>
        obtain ⟨r, vs, e, ⟨o', ho', hc', n', hd'⟩, hi⟩ := hr 0 ns rfl
        have e' : y = .ref r := by simpa using e
        subst e'
        obtain ⟨as, ha⟩ := ih rss (by simpa using hl) fun i ns' e => by simpa using hr (i + 1) ns' (by simpa using e)
        exact ⟨_, .cons (.list ho' hc' hd' (hi.reads h)) ha⟩
  obtain ⟨as, ha⟩ := key ys rss hl hr
  exact ⟨_, .list ho hc hd ha⟩
noncomputable def rowsD (rss : List (List Int)) : PyData := .list (rss.map fun ns => .list (ns.map .int))
theorem ints_lay : ∀ ns : List Int, PyData.canLayAll0 (ns.map .int) = true
  | [] => rfl
  | n :: ns => by rw [List.map_cons, PyData.canLayAll0, ints_lay ns]; rfl
theorem rows_lay : ∀ rss : List (List Int), PyData.canLayAll0 (rss.map fun ns => .list (ns.map .int)) = true
  | [] => rfl
  | n :: ns => by rw [List.map_cons, PyData.canLayAll0, rows_lay ns, PyData.canLay0, ints_lay]; rfl
theorem rows_depth (rss : List (List Int)) : (rowsD rss).depth ≤ 2 := by
  have h1 : ∀ ns : List Int, PyData.depthAll (ns.map .int) = 0 := fun ns => by
    induction ns with
    | nil => rfl
    | cons n ns ih => rw [List.map_cons, PyData.depthAll, ih]; rfl
  have h2 : ∀ rss : List (List Int), PyData.depthAll (rss.map fun ns => .list (ns.map .int)) ≤ 1 := fun rss => by
    induction rss with
    | nil => exact Nat.zero_le _
    | cons n ns ih =>
      rw [List.map_cons, PyData.depthAll, PyData.depth, h1]
      exact Nat.max_le.mpr ⟨Nat.le_refl _, ih⟩
  show PyData.depthAll _ + 1 ≤ 2
  have := h2 rss
  omega
section
variable {prog : Program} {w : World} {A : Around} {E : Value → Shared → Prop} {s : Shared}
theorem eq_rows {a b : Addr} {rss : List (List Int)} {Q : Value → Shared → Prop} (h1 : RowsAt s.heap a rss) (h2 : RowsAt s.heap b rss) (hu : A.units + 2 < cLine) (h : Q (.bool true) s) : wpAny (model prog w) A (compareOp .Eq (.ref a) (.ref b)) Q E s := by
  obtain ⟨as, r1⟩ := rows_reads h1
  obtain ⟨bs, r2⟩ := rows_reads h2
  have hl : (rowsD rss).canLay0 = true := rows_lay rss
  have hd := rows_depth rss
  refine PySem.SeqAt.compareEq_reads (da := rowsD rss) (db := rowsD rss) r1 r2 hl hl (by rw [Nat.min_self]; omega) ?_
  rw [PySem.SeqAt.eqv_refl _ hl]
  exact h
theorem eq_bools {a b : Addr} {x y u v : Bool} {m n : Nat} {Q : Value → Shared → Prop} (h1 : s.heap.get? a = some (listOf #[.bool x, .bool y] m)) (h2 : s.heap.get? b = some (listOf #[.bool u, .bool v] n)) (e1 : x = u) (e2 : y = v) (hu : A.units + 2 < cLine) (h : Q (.bool true) s) : wpAny (model prog w) A (compareOp .Eq (.ref a) (.ref b)) Q E s := by
  subst e1 e2
  have r1 : Reads s.heap (.ref a) (.list [.bool x, .bool y]) _ := .list h1 rfl rfl (.cons (.bool _) (.cons (.bool _) .nil))
  have r2 : Reads s.heap (.ref b) (.list [.bool x, .bool y]) _ := .list h2 rfl rfl (.cons (.bool _) (.cons (.bool _) .nil))
  have hl : (PyData.list [.bool x, .bool y]).canLay0 = true := rfl
  have hd : (PyData.list [.bool x, .bool y]).depth ≤ 2 := by show (1 : Nat) ≤ 2; decide
  refine PySem.SeqAt.compareEq_reads r1 r2 hl hl (by rw [Nat.min_self]; omega) ?_
  rw [PySem.SeqAt.eqv_refl _ hl]
  exact h
end
theorem RowsIn.at {h : Heap} {nx : List (Addr × Obj)} {ys : List Value} {rss : List (List Int)} {D : Addr} {n : Nat} (x : RowsIn nx ys rss) (hn : ∀ p ∈ nx, h.get? p.1 = some p.2) (hD : h.get? D = some (listOf ys.toArray n)) : RowsAt h D rss := by
  refine ⟨ys, ⟨_, hD, rfl, n, rfl⟩, x.length, fun i ns e => ?_⟩
  obtain ⟨r, vs, k, e1, e2, e3⟩ := x.get i ns e
  exact ⟨r, vs, e1, ⟨_, hn _ e2, rfl, k, rfl⟩, e3⟩
theorem RowsAt.keep {g h : Heap} {a : Addr} {rss : List (List Int)} (x : RowsAt g a rss) (k : Kept g h) : RowsAt h a rss := by
  obtain ⟨ys, hl, hn, hr⟩ := x
  exact ⟨ys, hl.at (k _), hn, fun i ns e => by
    obtain ⟨r, vs, e1, e2, e3⟩ := hr i ns e
    exact ⟨r, vs, e1, e2.at (k _), e3⟩⟩
noncomputable def rowsAll (cs : List Int) : List (List Int) := (List.range 5).map fun j => waysF (roadF (pageF cs 4)) (sgn j)
noncomputable def CsOk (cs : List Int) : Prop := cs.length = 4 ∧ ∀ t ∈ cs, 0 ≤ t ∧ t < 100000
theorem get_none_le {h : Heap} {b : Addr} (hb : h.objs.size ≤ b) : h.get? b = none := by
  cases q : h.get? b with
  | none => rfl
  | some o => exact absurd (Heap.lt_size q) (Nat.not_lt.mpr hb)
theorem news_all {h₀ h' : Heap} {s : Shared} {L : Addr} {m : Str → Option Value} {l rest : List (Addr × Obj)} (F : Fr h₀ L s.heap m) (q : ∀ p ∈ l, h'.get? p.1 = some p.2 ∧ s.heap.get? p.1 = none) (N : News h₀ L h' rest) : News h₀ L h' (l ++ rest) := fun p hp => by
  rcases List.mem_append.mp hp with hp | hp
  · obtain ⟨e, n⟩ := q p hp
    exact new_led F N n e p (.head _)
  · exact N p hp
theorem ne_none {h : Heap} {a b : Addr} {o : Obj} (h1 : h.get? a = none) (h2 : h.get? b = some o) : b ≠ a := fun e => by rw [e, h1] at h2; cases h2
theorem post_true (ns : List Int) : PySem.Challenge.rw_wj0053_01.row.claim.post [ofPy (PyData.list (ns.map PyData.int))] (WData.bool true) [ofPy (PyData.list (ns.map PyData.int))] = true := by
  refine postW_of (X := true) ?_ ?_ rfl
  · rfl
  · show (WTm.eq .res (.lit (.bool true))).value _ _ = _
    first | (rfl; done) | with_unfolding_all rfl
end
section
theorem bit_nat (n j : Nat) : Builtin.bitAnd ((n : Int).fdiv (2 ^ j)) 1 = ((n / 2 ^ j % 2 : Nat) : Int) := by
  have e : ((n : Int).fdiv (2 ^ j)) = ((n / 2 ^ j : Nat) : Int) := by
    rw [show ((2 : Int) ^ j) = ((2 ^ j : Nat) : Int) by simp, Int.fdiv_eq_ediv_of_nonneg _ (Int.natCast_nonneg _)]
    rfl
  rw [e]
  have h1 : (0 : Int) ≤ ((n / 2 ^ j : Nat) : Int) := Int.natCast_nonneg _
  unfold Builtin.bitAnd
  rw [decide_eq_true h1, show decide ((0 : Int) ≤ 1) = true from rfl]
  show (((n / 2 ^ j : Nat) &&& 1 : Nat) : Int) = _
  rw [Nat.and_one_is_mod]
theorem bit_ne (n j : Nat) : (Builtin.bitAnd ((n : Int).fdiv (2 ^ j)) 1 ≠ 0) = (n.testBit j = true) := by
  rw [bit_nat, Nat.testBit_eq_decide_div_mod_eq]
  have := Nat.mod_lt (n / 2 ^ j) (by decide : 2 > 0)
  apply propext
  constructor
  · intro h
    rw [decide_eq_true_eq]
    omega
  · intro h
    rw [decide_eq_true_eq] at h
    omega
theorem kind_nat (n k : Nat) : ((n : Int).fdiv (2 ^ k)).fmod 4 = ((n / 2 ^ k % 4 : Nat) : Int) := by
  have e : ((n : Int).fdiv (2 ^ k)) = ((n / 2 ^ k : Nat) : Int) := by
    rw [show ((2 : Int) ^ k) = ((2 ^ k : Nat) : Int) by simp, Int.fdiv_eq_ediv_of_nonneg _ (Int.natCast_nonneg _)]
    rfl
  rw [e, Int.fmod_eq_emod_of_nonneg _ (by decide)]
  rfl
theorem mask_nat (n k : Nat) : ((n : Int).fmod (2 ^ k)) = ((n % 2 ^ k : Nat) : Int) := by
  rw [show ((2 : Int) ^ k) = ((2 ^ k : Nat) : Int) by simp, Int.fmod_eq_emod_of_nonneg _ (Int.natCast_nonneg _)]
  rfl
theorem word_cut (n K : Nat) : ∀ i, i ≤ K → wordF (n : Int) i = wordF ((n % 2 ^ K : Nat) : Int) i
  | 0, _ => rfl
  | i + 1, h => by
    rw [wordF_succ, wordF_succ, ← word_cut n K i (by omega)]
    unfold wordStep
    simp only [bit_ne, Nat.testBit_mod_two_pow]
    simp [show i < K by omega]
theorem reply_cut (n k : Nat) : replyF (n : Int) k = replyF ((n % 2 ^ (k + 2) : Nat) : Int) k := by
  unfold replyF
  rw [← word_cut n (k + 2) k (by omega), kind_nat, kind_nat, show 2 ^ (k + 2) = 2 ^ k * 4 from by rw [Nat.pow_add], Nat.mod_mul_right_div_self, Nat.mod_mod]
noncomputable def chr (j : Nat) : Nat := (sgn j).cps.getD 0 0
noncomputable def wd (k m : Nat) : Str := ⟨(((List.range k).filter fun j => m.testBit j).map chr).toArray⟩
noncomputable def told1 (r : Str) : Str := if (Txt.slice r none (some 3) == Str.ofString "257") = true then parseF r else Str.ofString ""
/-- the roads that the k-th letter's sum says -/
noncomputable def mk (n k : Nat) : Nat := if n / 2 ^ k % 4 < 3 then n % 2 ^ k else 0
theorem told_all : ∀ k : Fin 4, ∀ m : Fin (2 ^ (k.val + 3)), told1 (if m.val % 2 ^ (k.val + 1) > 0 then replyF ((m.val : Nat) : Int) (k.val + 1) else Str.ofString "257 nobody") = wd (k.val + 1) (mk m.val (k.val + 1)) := by decide +kernel
theorem mk_cut (n k : Nat) : mk (n % 2 ^ (k + 2)) k = mk n k := by
  unfold mk
  rw [show 2 ^ (k + 2) = 2 ^ k * 4 from by rw [Nat.pow_add], Nat.mod_mul_right_div_self, Nat.mod_mod, Nat.mod_mul_right_mod]
theorem mk_lt (n k : Nat) : mk n k < 2 ^ k := by
  unfold mk
  split
  · exact Nat.mod_lt _ (Nat.two_pow_pos k)
  · exact Nat.two_pow_pos k
theorem told_one (n k : Nat) (hk : k < 4) : told1 (if n % 2 ^ (k + 1) > 0 then replyF (n : Int) (k + 1) else Str.ofString "257 nobody") = wd (k + 1) (mk n (k + 1)) := by
  have all : ∀ m, m < 2 ^ (k + 3) → told1 (if m % 2 ^ (k + 1) > 0 then replyF ((m : Nat) : Int) (k + 1) else Str.ofString "257 nobody") = wd (k + 1) (mk m (k + 1)) := fun m hm => told_all ⟨k, hk⟩ ⟨m, hm⟩
  have h := all (n % 2 ^ (k + 3)) (Nat.mod_lt _ (Nat.two_pow_pos _))
  rw [show k + 3 = k + 1 + 2 from rfl, mk_cut, ← reply_cut] at h
  rw [← h]
  have em : n % 2 ^ (k + 1 + 2) % 2 ^ (k + 1) = n % 2 ^ (k + 1) := by rw [show 2 ^ (k + 1 + 2) = 2 ^ (k + 1) * 4 from by rw [Nat.pow_add 2 (k + 1) 2], Nat.mod_mul_right_mod]
  rw [em]
theorem low_sign : ∀ (b : Bool) (i : Fin 4) (j : Fin 5), (Txt.lower (Txt.item (if b = true then Str.ofString "ABCD" else Str.ofString "abcd") (((i.val + 1 : Nat) : Int) - 1)) == Txt.lower (sgn j.val)) = decide (i.val + 1 = j.val) := by decide +kernel
theorem getF_snoc (its : List (Str × Str)) (a b nm : Str) : getF (its ++ [(a, b)]) nm = (getF its nm).or (if (Txt.lower a == Txt.lower nm) = true then some b else none) := by
  unfold getF
  rw [List.find?_append, List.find?_singleton]
  cases List.find? (fun p => Txt.lower p.1 == Txt.lower nm) its with
  | some p => rfl
  | none =>
    dsimp only
    split <;> rfl
theorem get_page (cs : List Int) (ns : Nat → Nat) (hn : ∀ i, i < 4 → cs.getD i 0 = (ns i : Int)) (j : Nat) (hj : j < 5) : ∀ i, i ≤ 4 →
    getF (pageF cs i) (sgn j) = if 1 ≤ j ∧ j ≤ i ∧ ns (j - 1) % 2 ^ j > 0 then some (replyF (ns (j - 1) : Int) j) else none
  | 0, _ => by
    rw [if_neg (by omega)]; rfl
  | i + 1, h => by
    have ih := get_page cs ns hn j hj i (by omega)
    have hl := low_sign ((((cs.getD i 0).fdiv (2 ^ (i + 1))).fdiv 4).fmod 2 != 0) ⟨i, by omega⟩ ⟨j, hj⟩
    rw [pageF_succ]
    unfold pageStep
    have e0 : (cs.getD i 0).fmod (2 ^ (i + 1)) > 0 ↔ ns i % 2 ^ (i + 1) > 0 := by
      rw [hn i (by omega), mask_nat]; omega
    by_cases e1 : ns i % 2 ^ (i + 1) > 0
    · rw [if_pos (e0.mpr e1), getF_snoc, ih]
      unfold signF
      have hl' : (Txt.lower (Txt.item (if ((((cs.getD i 0).fdiv (2 ^ (i + 1))).fdiv 4).fmod 2 != 0) = true then Str.ofString "ABCD" else Str.ofString "abcd") (((i + 1 : Nat) : Int) - 1)) == Txt.lower (sgn j)) = decide (i + 1 = j) := hl
      rw [hl', hn i (by omega)]
      by_cases e2 : i + 1 = j
      · subst e2
        rw [if_neg (by omega), if_pos (by simp), if_pos ⟨by omega, Nat.le_refl _, e1⟩]
        rfl
      · rw [decide_eq_false e2, if_neg Bool.false_ne_true, Option.or_none]
        by_cases e3 : 1 ≤ j ∧ j ≤ i ∧ ns (j - 1) % 2 ^ j > 0
        · rw [if_pos e3, if_pos ⟨e3.1, by omega, e3.2.2⟩]
        · rw [if_neg e3, if_neg (by intro q; exact e3 ⟨q.1, by omega, q.2.2⟩)]
    · rw [if_neg (fun q => e1 (e0.mp q)), ih]
      by_cases e3 : 1 ≤ j ∧ j ≤ i ∧ ns (j - 1) % 2 ^ j > 0
      · rw [if_pos e3, if_pos ⟨e3.1, by omega, e3.2.2⟩]
      · rw [if_neg e3, if_neg]
        intro q
        have : j = i + 1 ∨ j ≤ i := by omega
        rcases this with r | r
        · subst r; exact e1 q.2.2
        · exact e3 ⟨q.1, r, q.2.2⟩
/-- what is told of the j-th town -/
theorem told_page (cs : List Int) (ns : Nat → Nat) (hn : ∀ i, i < 4 → cs.getD i 0 = (ns i : Int)) (j : Nat) (hj : j < 5) : toldF (pageF cs 4) (sgn j) = wd j (if j = 0 then 0 else mk (ns (j - 1)) j) := by
  show told1 ((getF (pageF cs 4) (sgn j)).getD (Str.ofString "257 nobody")) = _
  rw [get_page cs ns hn j hj 4 (Nat.le_refl _)]
  cases j with
  | zero =>
    rw [if_neg (by omega), if_pos rfl]
    show told1 (Str.ofString "257 nobody") = wd 0 0
    decide +kernel
  | succ k =>
    rw [if_neg (Nat.succ_ne_zero k), show k + 1 - 1 = k from rfl, ← told_one (ns k) k (by omega)]
    congr 1
    by_cases e : ns k % 2 ^ (k + 1) > 0
    · rw [if_pos e, if_pos ⟨by omega, by omega, e⟩]; rfl
    · rw [if_neg e, if_neg (fun q => e q.2.2)]; rfl
theorem cps_app (a b : Str) : (a ++ b).cps.toList = a.cps.toList ++ b.cps.toList := by
  show (a.cps ++ b.cps).toList = _
  rw [Array.toList_append]
theorem sgn_chr (j : Nat) (hj : j < 5) : sgn j = ⟨#[chr j]⟩ := (sgn_at ⟨j, hj⟩).2.1
theorem sgn_cps (j : Nat) (hj : j < 5) : (sgn j).cps.toList = [chr j] := by rw [sgn_chr j hj]
theorem joinS_cps : ∀ l : List Nat, (∀ j ∈ l, j < 5) → (PySem.Str.join (Str.ofString "") (l.map sgn)).cps.toList = l.map chr
  | [], _ => rfl
  | [a], h => sgn_cps a (h a (.head _))
  | a :: b :: l, h => by
    have ih := joinS_cps (b :: l) fun j hj => h j (.tail _ hj)
    have e : PySem.Str.join (Str.ofString "") ((a :: b :: l).map sgn) = sgn a ++ Str.ofString "" ++ PySem.Str.join (Str.ofString "") ((b :: l).map sgn) := rfl
    have e0 : (Str.ofString "").cps.toList = [] := rfl
    rw [e, cps_app, cps_app, ih, e0, sgn_cps a (h a (.head _))]
    rfl
theorem join_cps : ∀ l : List Nat, (∀ j ∈ l, j < 5) → (Txt.join (Str.ofString "") (l.map sgn)).cps.toList = l.map chr
  | [], _ => rfl
  | a :: l, h => by
    have e : Txt.join (Str.ofString "") ((a :: l).map sgn) = PySem.Str.join (Str.ofString "") ((a :: l).map sgn) := StrLaws.glued_cons _ _ _
    rw [e]
    exact joinS_cps (a :: l) h
theorem has_all : ∀ (j : Fin 5) (m : Fin (2 ^ j.val)) (k : Fin 5), hasS (wd j.val m.val) (sgn k.val) = (decide (k.val < j.val) && m.val.testBit k.val) := by decide +kernel
/-- the towns to which the k-th town has roads, in the order in which they are said -/
noncomputable def adjA (ms : Nat → Nat) (k : Nat) : List Nat := ((List.range k).filter fun j => (ms k).testBit j) ++ ((List.range (4 - k)).filter fun q => (ms (k + 1 + q)).testBit k).map fun q => k + 1 + q
theorem adjA_lt (ms : Nat → Nat) (k : Nat) (hk : k < 5) : ∀ j ∈ adjA ms k, j < 5 := by
  intro j hj
  rcases List.mem_append.mp hj with h | h
  · have := List.mem_range.mp (List.mem_filter.mp h).1
    omega
  · obtain ⟨q, hq, rfl⟩ := List.mem_map.mp h
    have := List.mem_range.mp (List.mem_filter.mp hq).1
    omega
theorem road_cps (cs : List Int) (ms : Nat → Nat) (ht : ∀ j, j < 5 → toldF (pageF cs 4) (sgn j) = wd j (ms j)) (hm : ∀ j, j < 5 → ms j < 2 ^ j) (k : Nat) (hk : k < 5) : (roadF (pageF cs 4) k).cps.toList = (adjA ms k).map chr := by
  unfold roadF adjA
  have e : ((List.range (4 - k)).filter fun q => hasS (toldF (pageF cs 4) (sgn (k + 1 + q))) (sgn k)) = (List.range (4 - k)).filter fun q => (ms (k + 1 + q)).testBit k := by
    refine List.filter_congr fun q hq => ?_
    have hq' := List.mem_range.mp hq
    have hl : k + 1 + q < 5 := by omega
    rw [ht _ hl]
    have h := has_all ⟨k + 1 + q, hl⟩ ⟨ms (k + 1 + q), hm _ hl⟩ ⟨k, hk⟩
    have h' : hasS (wd (k + 1 + q) (ms (k + 1 + q))) (sgn k) = (decide (k < k + 1 + q) && (ms (k + 1 + q)).testBit k) := h
    rw [h', decide_eq_true (by omega), Bool.true_and]
  rw [e, cps_app, ht k hk, List.map_append]
  have e2 : (((List.range (4 - k)).filter fun q => (ms (k + 1 + q)).testBit k).map fun q => sgn (k + 1 + q)) = (((List.range (4 - k)).filter fun q => (ms (k + 1 + q)).testBit k).map fun q => k + 1 + q).map sgn := by rw [List.map_map]; rfl
  rw [e2, join_cps]
  · rfl
  · intro j hj
    exact adjA_lt ms k hk j (List.mem_append.mpr (.inr hj))
theorem road_ok (cs : List Int) (ms : Nat → Nat) (ht : ∀ j, j < 5 → toldF (pageF cs 4) (sgn j) = wd j (ms j)) (hm : ∀ j, j < 5 → ms j < 2 ^ j) : RsOk (roadF (pageF cs 4)) := by
  intro k hk
  have e := road_cps cs ms ht hm k hk
  refine ⟨?_, fun c hc => ?_⟩
  · show (roadF (pageF cs 4) k).cps.size ≤ 40
    rw [← Array.length_toList, e, List.length_map]
    unfold adjA
    rw [List.length_append, List.length_map]
    have h1 := List.length_filter_le (fun j => (ms k).testBit j) (List.range k)
    have h2 := List.length_filter_le (fun q => (ms (k + 1 + q)).testBit k) (List.range (4 - k))
    rw [List.length_range] at h1 h2
    omega
  · rw [e] at hc
    obtain ⟨j, hj, rfl⟩ := List.mem_map.mp hc
    have hl := adjA_lt ms k hk j hj
    exact ⟨j, hl, (sgn_chr j hl).symm⟩
end
section
noncomputable def setB (ab : List (Nat × Str)) (j : Nat) (v : Str) : List (Nat × Str) := if (ab.any fun t => t.1 == j) = true then ab else ab ++ [(j, v)]
noncomputable def setA (ab : List (Nat × Nat)) (j v : Nat) : List (Nat × Nat) := if (ab.any fun t => t.1 == j) = true then ab else ab ++ [(j, v)]
noncomputable def fB (t : Nat × Str) : Str × Str := (sgn t.1, t.2)
noncomputable def gB (t : Nat × Str) : Nat × Nat := (t.1, t.2.length)
theorem low_sgn : ∀ i j : Fin 5, (Txt.lower (sgn i.val) == Txt.lower (sgn j.val)) = (i.val == j.val) := by decide +kernel
theorem getF_fB (j : Nat) (hj : j < 5) : ∀ ab : List (Nat × Str), (∀ t ∈ ab, t.1 < 5) → (getF (ab.map fB) (sgn j)).isSome = ab.any fun t => t.1 == j
  | [], _ => rfl
  | t :: ab, h => by
    have ih := getF_fB j hj ab fun x hx => h x (.tail _ hx)
    have e := low_sgn ⟨t.1, h t (.head _)⟩ ⟨j, hj⟩
    have e' : (Txt.lower (fB t).1 == Txt.lower (sgn j)) = (t.1 == j) := e
    unfold getF at ih ⊢
    rw [List.map_cons, List.find?_cons, e', List.any_cons]
    cases t.1 == j with
    | true => rfl
    | false => exact ih
theorem set_f {ab : List (Nat × Str)} (hv : ∀ t ∈ ab, t.1 < 5) {j : Nat} (hj : j < 5) (v : Str) : setdF (ab.map fB) (sgn j) v = (setB ab j v).map fB := by
  have e := getF_fB j hj ab hv
  unfold setdF setB
  cases hg : getF (ab.map fB) (sgn j) with
  | some x =>
    rw [hg] at e
    have e' : (ab.any fun t => t.1 == j) = true := e.symm
    rw [if_pos e']
  | none =>
    rw [hg] at e
    rw [if_neg (by rw [← e]; exact Bool.false_ne_true), List.map_append]
    rfl
theorem set_g (ab : List (Nat × Str)) (j : Nat) (v : Str) : (setB ab j v).map gB = setA (ab.map gB) j v.length := by
  have e : ((ab.map gB).any fun t => t.1 == j) = ab.any fun t => t.1 == j := by rw [List.any_map]; rfl
  unfold setB setA
  rw [e]
  split
  · rfl
  · rw [List.map_append]; rfl
theorem set_v {ab : List (Nat × Str)} (hv : ∀ t ∈ ab, t.1 < 5) {j : Nat} (hj : j < 5) (v : Str) : ∀ t ∈ setB ab j v, t.1 < 5 := by
  unfold setB
  split
  · exact hv
  · intro t ht
    rcases List.mem_append.mp ht with h | h
    · exact hv t h
    · rw [List.mem_singleton.mp h]; exact hj
noncomputable def rowB (w : Str) : List Nat → List (Nat × Str) → List (Nat × Str)
  | [], ab => ab
  | j :: js, ab => rowB w js (setB ab j (w ++ sgn j))
noncomputable def rowA (n : Nat) : List Nat → List (Nat × Nat) → List (Nat × Nat)
  | [], ab => ab
  | j :: js, ab => rowA n js (setA ab j (n + 1))
theorem row_all (w : Str) : ∀ (js : List Nat) (ab : List (Nat × Str)), (∀ j ∈ js, j < 5) → (∀ t ∈ ab, t.1 < 5) →
    (js.map chr).foldl (wayStep w) (ab.map fB) = (rowB w js ab).map fB ∧ (rowB w js ab).map gB = rowA w.length js (ab.map gB) ∧ ∀ t ∈ rowB w js ab, t.1 < 5
  | [], ab, _, hv => ⟨rfl, rfl, hv⟩
  | j :: js, ab, hj, hv => by
    have hj0 := hj j (.head _)
    obtain ⟨h1, h2, h3⟩ := row_all w js (setB ab j (w ++ sgn j)) (fun x hx => hj x (.tail _ hx)) (set_v hv hj0 _)
    refine ⟨?_, ?_, h3⟩
    · rw [List.map_cons, List.foldl_cons]
      have e : wayStep w (ab.map fB) (chr j) = (setB ab j (w ++ sgn j)).map fB := by
        unfold wayStep
        rw [← sgn_chr j hj0]
        exact set_f hv hj0 _
      rw [e, h1]
      rfl
    · show (rowB w js (setB ab j (w ++ sgn j))).map gB = rowA w.length js (setA (ab.map gB) j (w.length + 1))
      rw [h2, set_g, len_app, sgn_len]
noncomputable def goA (adj : Nat → List Nat) : Nat → List (Nat × Nat) → Nat → List (Nat × Nat)
  | 0, ab, _ => ab
  | f + 1, ab, k => if k < ab.length ∧ ab.length < 5 then goA adj f (rowA (ab.getD k (0, 0)).2 (adj (ab.getD k (0, 0)).1) ab) (k + 1) else ab
theorem go_all {rs : Nat → Str} {adj : Nat → List Nat} (h : ∀ k, k < 5 → (rs k).cps.toList = (adj k).map chr) (hlt : ∀ k, k < 5 → ∀ j ∈ adj k, j < 5) : ∀ (f : Nat) (ab : List (Nat × Str)) (k : Nat), (∀ t ∈ ab, t.1 < 5) →
    ∃ ab' : List (Nat × Str), waysGo rs f (ab.map fB) k = ab'.map fB ∧ goA adj f (ab.map gB) k = ab'.map gB ∧ ∀ t ∈ ab', t.1 < 5
  | 0, ab, _, hv => ⟨ab, rfl, rfl, hv⟩
  | f + 1, ab, k, hv => by
    rw [waysGo, goA, List.length_map, List.length_map]
    by_cases hc : k < ab.length ∧ ab.length < 5
    · rw [if_pos hc, if_pos hc]
      have e1 : (ab.map fB).getD k (Str.ofString "", Str.ofString "") = fB ab[k] := by
        rw [List.getD_eq_getElem?_getD, List.getElem?_map, List.getElem?_eq_getElem hc.1]; rfl
      have e2 : (ab.map gB).getD k (0, 0) = gB ab[k] := by
        rw [List.getD_eq_getElem?_getD, List.getElem?_map, List.getElem?_eq_getElem hc.1]; rfl
      have hk5 := hv ab[k] (List.getElem_mem hc.1)
      obtain ⟨h1, h2, h3⟩ := row_all ab[k].2 (adj ab[k].1) ab (hlt _ hk5) hv
      have e3 : waysRow rs (ab.map fB) k = (rowB ab[k].2 (adj ab[k].1) ab).map fB := by
        unfold waysRow waysRowI
        rw [e1]
        show ((rs (idxS (sgn ab[k].1))).cps.toList.take (rs (idxS (sgn ab[k].1))).cps.size).foldl (wayStep ab[k].2) (ab.map fB) = _
        rw [idxS_sgn hk5, ← Array.length_toList, List.take_length, h _ hk5, h1]
      rw [e3, e2]
      show ∃ ab' : List (Nat × Str), waysGo rs f ((rowB ab[k].2 (adj ab[k].1) ab).map fB) (k + 1) = ab'.map fB ∧ goA adj f (rowA ab[k].2.length (adj ab[k].1) (ab.map gB)) (k + 1) = ab'.map gB ∧ _
      rw [← h2]
      exact go_all h hlt f _ (k + 1) h3
    · rw [if_neg hc, if_neg hc]
      exact ⟨ab, rfl, rfl, hv⟩
noncomputable def lenA (ab : List (Nat × Nat)) (j : Nat) : Nat := match ab.find? fun t => t.1 == j with
  | some t => t.2
  | none => 10
noncomputable def waysA (adj : Nat → List Nat) (s : Nat) : List Nat := (List.range 5).map (lenA (goA adj 6 [(s, 0)] 0))
theorem sgn_eq : ∀ i j : Fin 5, decide (sgn i.val = sgn j.val) = (i.val == j.val) := by decide +kernel
theorem len_all (j : Nat) (hj : j < 5) : ∀ ab : List (Nat × Str), (∀ t ∈ ab, t.1 < 5) → dgetF (ab.map fB) (sgn j) = ((lenA (ab.map gB) j : Nat) : Int)
  | [], _ => rfl
  | t :: ab, hv => by
    have ih := len_all j hj ab fun x hx => hv x (.tail _ hx)
    have e : decide ((fB t).1 = sgn j) = (t.1 == j) := sgn_eq ⟨t.1, hv t (.head _)⟩ ⟨j, hj⟩
    unfold dgetF lenA at ih ⊢
    rw [List.map_cons, List.map_cons, List.find?_cons, List.find?_cons, e]
    show (match (match t.1 == j with | true => some (fB t) | false => (ab.map fB).find? fun p => decide (p.1 = sgn j)) with | some p => ((p.2.length : Nat) : Int) | none => 10) = ((match (match t.1 == j with | true => some (gB t) | false => (ab.map gB).find? fun t => t.1 == j) with | some t => t.2 | none => 10 : Nat) : Int)
    cases t.1 == j with
    | true => rfl
    | false => exact ih
theorem ways_all {rs : Nat → Str} {adj : Nat → List Nat} (h : ∀ k, k < 5 → (rs k).cps.toList = (adj k).map chr) (hlt : ∀ k, k < 5 → ∀ j ∈ adj k, j < 5) (s : Nat) (hs : s < 5) : waysF rs (sgn s) = (waysA adj s).map fun n => ((n : Nat) : Int) := by
  obtain ⟨ab, h1, h2, h3⟩ := go_all h hlt 6 [(s, Str.ofString "")] 0 (fun t ht => by rw [List.mem_singleton.mp ht]; exact hs)
  have h1' : waysGo rs 6 [(sgn s, Str.ofString "")] 0 = ab.map fB := h1
  have h2' : goA adj 6 [(s, 0)] 0 = ab.map gB := h2
  unfold waysF waysA
  rw [h1', h2', List.map_map]
  refine List.map_congr_left fun j hj => ?_
  exact len_all j (List.mem_range.mp hj) ab h3
end
section
theorem and_cast (a b : Nat) : Builtin.bitAnd (a : Int) (b : Int) = ((a &&& b : Nat) : Int) := by
  unfold Builtin.bitAnd
  rw [decide_eq_true (Int.natCast_nonneg a), decide_eq_true (Int.natCast_nonneg b)]
  rfl
theorem or_cast (a b : Nat) : Builtin.bitOr (a : Int) (b : Int) = ((a ||| b : Nat) : Int) := by
  have e : ∀ n : Nat, Builtin.bitNot (n : Int) = Int.negSucc n := fun n => by unfold Builtin.bitNot; omega
  have e2 : ∀ n : Nat, Builtin.bitNot (Int.negSucc n) = (n : Int) := fun n => by unfold Builtin.bitNot; omega
  have e3 : ∀ n : Nat, decide ((0 : Int) ≤ Int.negSucc n) = false := fun n => decide_eq_false (by omega)
  unfold Builtin.bitOr Builtin.bitAnd
  rw [e, e, e3, e3]
  show Builtin.bitNot (Builtin.bitNot (((Builtin.bitNot (Int.negSucc a)).toNat ||| (Builtin.bitNot (Int.negSucc b)).toNat : Nat) : Int)) = _
  rw [e2, e2, e, e2]
  rfl
theorem pow_cast (j : Nat) : (1 : Int) * 2 ^ j = ((2 ^ j : Nat) : Int) := by rw [Int.one_mul]; simp
noncomputable def cst (l : List Nat) : List Int := l.map fun n => ((n : Nat) : Int)
theorem cst_set (l : List Nat) (j v : Nat) : (cst l).set j ((v : Nat) : Int) = cst (l.set j v) := by unfold cst; rw [List.map_set]
theorem cst_get (l : List Nat) (j : Nat) : (cst l).getD j 0 = ((l.getD j 0 : Nat) : Int) := by
  unfold cst
  rw [List.getD_eq_getElem?_getD, List.getD_eq_getElem?_getD, List.getElem?_map]
  cases l[j]? <;> rfl
noncomputable def ringStepN (ties : List Nat) (rim step : Nat) (c : List Nat × Nat) (j : Nat) : List Nat × Nat := if rim.testBit j = true then (c.1.set j step, c.2 ||| ties.getD j 0) else c
noncomputable def ringTurnN (ties far : List Nat) (rim step j : Nat) : List Nat × Nat := (List.range j).foldl (ringStepN ties rim step) (far, 0)
noncomputable def ringsGoN (ties : List Nat) : Nat → List Nat → Nat → Nat → Nat → List Nat
  | 0, far, _, _, _ => far
  | f + 1, far, rim, seen, step => if rim = 0 then far else
      ringsGoN ties f (ringTurnN ties far rim step 5).1 ((ringTurnN ties far rim step 5).2 - ((ringTurnN ties far rim step 5).2 &&& (seen ||| rim))) (seen ||| rim) (step + 1)
noncomputable def cst2 (c : List Nat × Nat) : List Int × Int := (cst c.1, ((c.2 : Nat) : Int))
theorem ringStep_n (ties : List Nat) (rim step : Nat) (c : List Nat × Nat) (j : Nat) : ringStep (cst ties) rim step (cst2 c) j = cst2 (ringStepN ties rim step c j) := by
  unfold ringStep ringStepN
  simp only [bit_ne]
  split
  · unfold cst2
    dsimp only
    rw [cst_set, cst_get, or_cast]
  · rfl
theorem foldl_n {α β γ : Type} (f : α → γ → α) (g : β → γ → β) (r : β → α) (h : ∀ b c, f (r b) c = r (g b c)) : ∀ (l : List γ) (b : β), l.foldl f (r b) = r (l.foldl g b)
  | [], _ => rfl
  | c :: l, b => by rw [List.foldl_cons, List.foldl_cons, h, foldl_n f g r h l]
theorem ringTurn_n (ties far : List Nat) (rim step j : Nat) : ringTurn (cst ties) (cst far) rim step j = cst2 (ringTurnN ties far rim step j) :=
  foldl_n _ _ cst2 (fun c j => ringStep_n ties rim step c j) _ (far, 0)
theorem ringsGo_n (ties : List Nat) : ∀ (f : Nat) (far : List Nat) (rim seen step : Nat), ringsGo (cst ties) f (cst far) rim seen step = cst (ringsGoN ties f far rim seen step)
  | 0, _, _, _, _ => rfl
  | f + 1, far, rim, seen, step => by
    rw [ringsGo, ringsGoN]
    by_cases h : rim = 0
    · rw [if_pos h, if_pos (by rw [h]; rfl)]
    · rw [if_neg h, if_neg (by omega), ringTurn_n]
      show ringsGo (cst ties) f (cst (ringTurnN ties far rim step 5).1) (((ringTurnN ties far rim step 5).2 : Int) - Builtin.bitAnd ((ringTurnN ties far rim step 5).2 : Int) (Builtin.bitOr seen rim)) (Builtin.bitOr seen rim) (step + 1) = _
      rw [or_cast, and_cast]
      have hs : (((ringTurnN ties far rim step 5).2 : Nat) : Int) - (((ringTurnN ties far rim step 5).2 &&& (seen ||| rim) : Nat) : Int) = (((ringTurnN ties far rim step 5).2 - ((ringTurnN ties far rim step 5).2 &&& (seen ||| rim)) : Nat) : Int) := by
        have := Nat.and_le_left (n := (ringTurnN ties far rim step 5).2) (m := seen ||| rim)
        omega
      rw [hs]
      exact ringsGo_n ties f _ _ _ (step + 1)
noncomputable def setTiesN (ts : List Nat) (k j : Nat) : List Nat := ts.set k (ts.getD k 0 ||| 2 ^ j)
theorem setTies_n (ts : List Nat) (k j : Nat) : setTies (cst ts) k j = cst (setTiesN ts k j) := by
  unfold setTies setTiesN
  rw [cst_get, pow_cast, or_cast, cst_set]
noncomputable def dueRowN (m k : Nat) (ts : List Nat) (j : Nat) : List Nat := (List.range j).foldl (fun ts j => if m.testBit j = true then setTiesN (setTiesN ts k j) j k else ts) ts
theorem dueRow_n (n k : Nat) (ts : List Nat) : ∀ j, j ≤ k → dueRow (n : Int) k (cst ts) j = cst (dueRowN (mk n k) k ts j)
  | 0, _ => rfl
  | j + 1, h => by
    have ih := dueRow_n n k ts j (by omega)
    rw [dueRow_succ, ih]
    unfold dueRowN dueStep
    rw [List.range_succ, List.foldl_append]
    show (if dueOk n k j then setTies (setTies (cst (dueRowN (mk n k) k ts j)) k j) j k else cst (dueRowN (mk n k) k ts j)) = cst (if (mk n k).testBit j = true then setTiesN (setTiesN (dueRowN (mk n k) k ts j) k j) j k else dueRowN (mk n k) k ts j)
    have e : dueOk n k j ↔ (mk n k).testBit j = true := by
      unfold dueOk mk
      rw [bit_ne, kind_nat]
      by_cases hk : n / 2 ^ k % 4 < 3
      · rw [if_pos hk, Nat.testBit_mod_two_pow, decide_eq_true (by omega), Bool.true_and]
        exact ⟨fun q => q.1, fun q => ⟨q, by omega⟩⟩
      · rw [if_neg hk, Nat.zero_testBit]
        exact ⟨fun q => absurd q.2 (by omega), fun q => nomatch q⟩
    by_cases hb : (mk n k).testBit j = true
    · rw [if_pos (e.mpr hb), if_pos hb, setTies_n, setTies_n]
    · rw [if_neg (fun q => hb (e.mp q)), if_neg hb]
noncomputable def dueTiesN (ms : Nat → Nat) (i : Nat) : List Nat := (List.range i).foldl (fun ts i => dueRowN (ms (i + 1)) (i + 1) ts (i + 1)) [0, 0, 0, 0, 0]
theorem dueTies_n (cs : List Int) (ms ns : Nat → Nat) (hn : ∀ i, i < 4 → cs.getD i 0 = (ns i : Int)) (hm : ∀ i, i < 4 → mk (ns i) (i + 1) = ms (i + 1)) : ∀ i, i ≤ 4 → dueTies cs i = cst (dueTiesN ms i)
  | 0, _ => rfl
  | i + 1, h => by
    rw [dueTies_succ, dueTies_n cs ms ns hn hm i (by omega), hn i (by omega), dueRow_n _ _ _ _ (Nat.le_refl _), hm i (by omega)]
    unfold dueTiesN
    rw [List.range_succ, List.foldl_append]
    rfl
noncomputable def dueN (ms : Nat → Nat) (j : Nat) : List Nat := ringsGoN (dueTiesN ms 4) 32 [10, 10, 10, 10, 10] (2 ^ j) 0 0
theorem due_all (cs : List Int) (ms ns : Nat → Nat) (hn : ∀ i, i < 4 → cs.getD i 0 = (ns i : Int)) (hm : ∀ i, i < 4 → mk (ns i) (i + 1) = ms (i + 1)) : dueF cs = (List.range 5).map fun j => cst (dueN ms j) := by
  unfold dueF
  refine List.map_congr_left fun j _ => ?_
  unfold ringsF
  rw [dueTies_n cs ms ns hn hm 4 (Nat.le_refl _), show ((0 : Int) + (j : Nat)).toNat = j by omega, pow_cast]
  exact ringsGo_n _ 32 [10, 10, 10, 10, 10] (2 ^ j) 0 0
end
section
noncomputable def fN (rows : List (List Nat)) (a b : Nat) : Nat := (rows.getD a []).getD b 0
noncomputable def castR (rows : List (List Nat)) : List (List Int) := rows.map cst
theorem fF_n (rows : List (List Nat)) (a b : Nat) : fF (castR rows) a b = ((fN rows a b : Nat) : Int) := by
  unfold fF fN castR
  have e : (rows.map cst).getD a [] = cst (rows.getD a []) := by
    rw [List.getD_eq_getElem?_getD, List.getD_eq_getElem?_getD, List.getElem?_map]
    cases rows[a]? <;> rfl
  rw [e, cst_get]
noncomputable def roomN (rows : List (List Nat)) (a b : Nat) : Nat := (((List.range 5).filter fun x => Nat.beq (fN rows a x + fN rows x b) (fN rows a b)).map fun x => 2 ^ x).sum
theorem sum_pow : ∀ l : List Nat, (l.map fun x => (1 : Int) * 2 ^ x).sum = ((l.map fun x => 2 ^ x).sum : Nat)
  | [] => rfl
  | x :: l => by rw [List.map_cons, List.map_cons, List.sum_cons, List.sum_cons, sum_pow l, pow_cast]; rfl
theorem room_n (rows : List (List Nat)) (a b : Nat) : roomOf (castR rows) a b = ((roomN rows a b : Nat) : Int) := by
  unfold roomOf roomN
  rw [sum_pow]
  congr 3
  refine List.filter_congr fun x _ => ?_
  rw [fF_n, fF_n, fF_n, Bool.eq_iff_iff, decide_eq_true_eq, Nat.beq_eq]
  omega
noncomputable def cstp (ps : List (Nat × Nat)) : List (Int × Int) := ps.map fun p => ((p.1 : Int), (p.2 : Int))
noncomputable def roomsStepN (rows : List (List Nat)) (a : Nat) (ps : List (Nat × Nat)) (b : Nat) : List (Nat × Nat) := if 1 < fN rows a b ∧ fN rows a b < 10 then ps ++ [(2 ^ a ||| 2 ^ b, roomN rows a b)] else ps
theorem roomsStep_n (rows : List (List Nat)) (a : Nat) (ps : List (Nat × Nat)) (b : Nat) : roomsStep (castR rows) a (cstp ps) b = cstp (roomsStepN rows a ps b) := by
  unfold roomsStep roomsStepN
  rw [fF_n, room_n, pow_cast, pow_cast, or_cast]
  by_cases h : 1 < fN rows a b ∧ fN rows a b < 10
  · rw [if_pos h, if_pos (by omega)]
    unfold cstp
    rw [List.map_append]
    rfl
  · rw [if_neg h, if_neg (by omega)]
noncomputable def roomsAllN (rows : List (List Nat)) (n : Nat) : List (Nat × Nat) := (List.range n).foldl (fun ps a => (List.range a).foldl (roomsStepN rows a) ps) []
theorem roomsAll_n (rows : List (List Nat)) (n : Nat) : roomsAll (castR rows) n = cstp (roomsAllN rows n) :=
  foldl_n _ _ cstp (fun ps a => foldl_n _ _ cstp (fun ps b => roomsStep_n rows a ps b) (List.range a) ps) (List.range n) []
noncomputable def wholeN (ps : List (Nat × Nat)) (s : Nat) : Bool := ps.all fun p => !(Nat.beq (Nat.land s p.1) p.1) || Nat.beq (Nat.land s p.2) p.2
theorem whole_n (s : Nat) : ∀ ps : List (Nat × Nat), wholeB (cstp ps) s = wholeN ps s
  | [] => rfl
  | p :: ps => by
    have ih := whole_n s ps
    unfold wholeB wholeN cstp at ih ⊢
    rw [List.map_cons, List.filter_cons, List.all_cons, ← ih]
    have e : decide (Builtin.bitAnd (s : Int) (p.1 : Int) = (p.1 : Int) ∧ Builtin.bitAnd (s : Int) (p.2 : Int) ≠ (p.2 : Int)) = !(!(Nat.beq (Nat.land s p.1) p.1) || Nat.beq (Nat.land s p.2) p.2) := by
      rw [and_cast, and_cast, Bool.eq_iff_iff, decide_eq_true_eq, Bool.not_eq_true', Bool.or_eq_false_iff, Bool.not_eq_false', Nat.beq_eq]
      have e2 : (Nat.beq (Nat.land s p.2) p.2 = false) ↔ ¬ (Nat.land s p.2 = p.2) := by rw [← Nat.beq_eq, Bool.not_eq_true]
      rw [e2]
      show (((s &&& p.1 : Nat) : Int) = (p.1 : Int) ∧ ((s &&& p.2 : Nat) : Int) ≠ (p.2 : Int)) ↔ ((s &&& p.1) = p.1 ∧ ¬ (s &&& p.2) = p.2)
      omega
    rw [e]
    cases hb : (!(Nat.beq (Nat.land s p.1) p.1) || Nat.beq (Nat.land s p.2) p.2) with
    | true => rw [if_neg (by decide), Bool.true_and]
    | false =>
      rw [if_pos (by decide), Bool.false_and]
      exact decide_eq_false (by rw [List.map_cons]; exact List.cons_ne_nil _ _)
noncomputable def lessN (ps : List (Nat × Nat)) (s : Nat) : Nat := ((List.range 5).filter fun x => s.testBit x && !wholeN ps (s - 2 ^ x)).length
theorem less_n (ps : List (Nat × Nat)) (s : Nat) : lessF (cstp ps) s = lessN ps s := by
  unfold lessF lessN
  congr 1
  refine List.filter_congr fun x _ => ?_
  rw [Bool.eq_iff_iff, decide_eq_true_eq, Bool.and_eq_true, Bool.not_eq_true']
  unfold lessC
  rw [bit_ne, pow_cast, show ((s : Int) - ((2 ^ x : Nat) : Int)).toNat = s - 2 ^ x by omega, whole_n]
noncomputable def countN (ps : List (Nat × Nat)) : Nat := (((List.range 32).filter fun s => wholeN ps s).map fun s => 2 ^ lessN ps s).sum
theorem sum_pow2 (f : Nat → Nat) : ∀ l : List Nat, (l.map fun x => (2 : Int) ^ f x).sum = ((l.map fun x => 2 ^ f x).sum : Nat)
  | [] => rfl
  | x :: l => by rw [List.map_cons, List.map_cons, List.sum_cons, List.sum_cons, sum_pow2 f l, show ((2 : Int) ^ f x) = ((2 ^ f x : Nat) : Int) by simp]; rfl
theorem count_n (rows : List (List Nat)) : countF (castR rows) = ((countN (roomsAllN rows 5) : Nat) : Int) := by
  unfold countF countN
  rw [roomsAll_n]
  have e : ((List.range 32).filter fun s => decide (wholeB (cstp (roomsAllN rows 5)) s = true)) = (List.range 32).filter fun s => wholeN (roomsAllN rows 5) s := List.filter_congr fun s _ => by
    rw [whole_n]; cases wholeN (roomsAllN rows 5) s <;> rfl
  rw [e, List.map_congr_left (g := fun s => (2 : Int) ^ lessN (roomsAllN rows 5) s) fun s _ => by rw [less_n], sum_pow2]
end
section
noncomputable def frc {α : Type} : Nat → (Nat → α) → α
  | 0, f => f 0
  | n + 1, f => f (n + 1)
theorem frc_eq {α : Type} (f : Nat → α) : ∀ n, frc n f = f n
  | 0 => rfl
  | _ + 1 => rfl
noncomputable def frcL {α : Type} : List Nat → (List Nat → α) → α
  | [], f => f []
  | x :: l, f => frc x fun y => frcL l fun r => f (y :: r)
theorem frcL_eq {α : Type} : ∀ (l : List Nat) (f : List Nat → α), frcL l f = f l
  | [], _ => rfl
  | x :: l, f => by rw [frcL, frc_eq, frcL_eq l]
noncomputable def frcR {α : Type} : List (List Nat) → (List (List Nat) → α) → α
  | [], f => f []
  | x :: l, f => frcL x fun y => frcR l fun r => f (y :: r)
theorem frcR_eq {α : Type} : ∀ (l : List (List Nat)) (f : List (List Nat) → α), frcR l f = f l
  | [], _ => rfl
  | x :: l, f => by rw [frcR, frcL_eq, frcR_eq l]
noncomputable def frcP {α : Type} : List (Nat × Nat) → (List (Nat × Nat) → α) → α
  | [], f => f []
  | x :: l, f => frc x.1 fun a => frc x.2 fun b => frcP l fun r => f ((a, b) :: r)
theorem frcP_eq {α : Type} : ∀ (l : List (Nat × Nat)) (f : List (Nat × Nat) → α), frcP l f = f l
  | [], _ => rfl
  | x :: l, f => by rw [frcP, frc_eq, frc_eq, frcP_eq l]
noncomputable def dgA (a : Nat) : Nat := cond (Nat.blt a 10) (a + 2) 0
noncomputable def isN (a : Nat) : Nat := cond (Nat.blt a 10) 1 0
noncomputable def widA (a b c : Nat) : Nat := cond (Nat.beq (isN a + isN b + isN c) 0) 0 (Nat.max (cond (Nat.beq (isN a + isN b + isN c) 3) 3 4) (Nat.max (dgA a) (Nat.max (dgA b) (dgA c))))
theorem wid_tab : ∀ a b c : Fin 11, widF (powO ((a.val : Nat) : Int)) (powO ((b.val : Nat) : Int)) (powO ((c.val : Nat) : Int)) = ((widA a.val b.val c.val : Nat) : Int) := by decide +kernel
theorem clamp (a : Nat) : ∃ x : Fin 11, powO (a : Int) = powO ((x.val : Nat) : Int) ∧ dgA a = dgA x.val ∧ isN a = isN x.val := by
  by_cases h : a < 10
  · exact ⟨⟨a, by omega⟩, rfl, rfl, rfl⟩
  · refine ⟨⟨10, by omega⟩, ?_, ?_, ?_⟩
    · unfold powO
      rw [if_neg (by omega)]
      exact (show (if ((10 : Nat) : Int) < 10 then some ((10 : Int) ^ (((10 : Nat) : Int) + 1).toNat) else none) = none from if_neg (by decide)).symm
    · unfold dgA
      rw [show Nat.blt a 10 = false from by rw [← Bool.not_eq_true, Nat.blt_eq]; omega]
      rfl
    · unfold isN
      rw [show Nat.blt a 10 = false from by rw [← Bool.not_eq_true, Nat.blt_eq]; omega]
      rfl
theorem wid_n (a b c : Nat) : widF (powO (a : Int)) (powO (b : Int)) (powO (c : Int)) = ((widA a b c : Nat) : Int) := by
  obtain ⟨x, x1, x2, x3⟩ := clamp a
  obtain ⟨y, y1, y2, y3⟩ := clamp b
  obtain ⟨z, z1, z2, z3⟩ := clamp c
  rw [x1, y1, z1, wid_tab]
  unfold widA
  rw [x2, x3, y2, y3, z2, z3]
noncomputable def okRN (a b c : Nat) : Bool := frc (widA a b c) fun w => frc (isN a + isN b + isN c) fun n => !(Nat.blt (a + b + c + 4) (2 * w) || (Nat.blt n 3 && !Nat.beq w (4 * n)))
theorem len_n (a b c : Nat) : (([(a : Int), (b : Int), (c : Int)] : List Int).filter fun r => r < 10).length = isN a + isN b + isN c := by
  have h : ∀ (x : Nat) (l : List Int), (((x : Int) :: l).filter fun r => decide (r < 10)).length = isN x + (l.filter fun r => decide (r < 10)).length := fun x l => by
    rw [List.filter_cons]
    unfold isN
    by_cases e : x < 10
    · rw [if_pos (by rw [decide_eq_true_eq]; omega), show Nat.blt x 10 = true from by rw [Nat.blt_eq]; exact e, List.length_cons]
      show _ = 1 + _
      omega
    · rw [if_neg (by rw [decide_eq_true_eq]; omega), show Nat.blt x 10 = false from by rw [← Bool.not_eq_true, Nat.blt_eq]; exact e]
      show _ = 0 + _
      omega
  rw [h, h, h]
  show isN a + (isN b + (isN c + 0)) = _
  omega
theorem okR_n (a b c : Nat) : okR (a : Int) (b : Int) (c : Int) = okRN a b c := by
  unfold okR okRN
  rw [wid_n, len_n, frc_eq, frc_eq]
  congr 1
  have e1 : decide (2 * (((widA a b c : Nat) : Int) - 2) > ([(a : Int), (b : Int), (c : Int)] : List Int).sum) = Nat.blt (a + b + c + 4) (2 * widA a b c) := by
    rw [Bool.eq_iff_iff, decide_eq_true_eq, Nat.blt_eq]
    show 2 * (((widA a b c : Nat) : Int) - 2) > (a : Int) + ((b : Int) + ((c : Int) + 0)) ↔ _
    omega
  have e2 : decide (((isN a + isN b + isN c : Nat) : Int) < 3) = Nat.blt (isN a + isN b + isN c) 3 := by
    rw [Bool.eq_iff_iff, decide_eq_true_eq, Nat.blt_eq]; omega
  have e3 : decide (((widA a b c : Nat) : Int) ≠ 4 * ((isN a + isN b + isN c : Nat) : Int)) = !Nat.beq (widA a b c) (4 * (isN a + isN b + isN c)) := by
    rw [Bool.eq_iff_iff, decide_eq_true_eq, Bool.not_eq_true', ← Bool.not_eq_true, Nat.beq_eq]; omega
  rw [e1, e2, e3]
noncomputable def okPN (rows : List (List Nat)) (i : Nat) : Bool := match (List.range 5).filter (fun q => q ≠ i) with
  | [a, b, c, d] => okRN (fN rows a b * fN rows c d) (fN rows a c * fN rows b d) (fN rows a d * fN rows b c)
  | _ => true
theorem rF_n (rows : List (List Nat)) (x y : Nat) : rF (castR rows) x y = ((fN rows x y : Nat) : Int) := by
  have h := fF_n rows x y
  unfold fF at h
  rw [← h]
  show ((castR rows).getD x []).getD ((0 : Int) + (y : Int)).toNat 0 = _
  rw [show ((0 : Int) + (y : Int)).toNat = y by omega]
theorem okP_n (rows : List (List Nat)) (i : Nat) : okP (castR rows) i = okPN rows i := by
  unfold okP okPN
  generalize (List.range 5).filter (fun q => decide (q ≠ i)) = l
  match l with
  | [] => rfl
  | [_] => rfl
  | [_, _] => rfl
  | [_, _, _] => rfl
  | [a, b, c, d] =>
    show okR _ _ _ = okRN _ _ _
    rw [rF_n, rF_n, rF_n, rF_n, rF_n, rF_n, ← okR_n]
    rfl
  | _ :: _ :: _ :: _ :: _ :: _ => rfl
noncomputable def msOf (a b c d k : Nat) : Nat := match k with
  | 1 => a
  | 2 => b
  | 3 => c
  | 4 => d
  | _ => 0
/-- the ways from each town, the roads laid out first -/
noncomputable def rowsN (ms : Nat → Nat) : List (List Nat) := frcR ((List.range 5).map (adjA ms)) fun L => (List.range 5).map (waysA fun k => L.getD k [])
noncomputable def checkR (rows due : List (List Nat)) : Bool := decide (rows = due) && (rows.all fun r => Nat.beq r.length 5 && r.all fun x => Nat.ble x 10) &&
  frcP (roomsAllN rows 5) fun ps => frc (countN ps) fun c => match (List.range 5).all (okPN rows) with
    | true => Nat.beq c 32
    | false => Nat.blt 32 c
noncomputable def checkG (a b c d : Nat) : Bool := frcR (rowsN (msOf a b c d)) fun rows => checkR rows ((List.range 5).map (dueN (msOf a b c d)))
noncomputable def checkA (a c : Nat) : Bool := (List.range 4).all fun b => (List.range 16).all fun d => checkG a b c d
end
section
theorem chk00 : checkA 0 0 = true := by decide +kernel
theorem chk01 : checkA 1 0 = true := by decide +kernel
theorem chk10 : checkA 0 1 = true := by decide +kernel
theorem chk11 : checkA 1 1 = true := by decide +kernel
theorem chk20 : checkA 0 2 = true := by decide +kernel
theorem chk21 : checkA 1 2 = true := by decide +kernel
theorem chk30 : checkA 0 3 = true := by decide +kernel
theorem chk31 : checkA 1 3 = true := by decide +kernel
theorem chk40 : checkA 0 4 = true := by decide +kernel
theorem chk41 : checkA 1 4 = true := by decide +kernel
theorem chk50 : checkA 0 5 = true := by decide +kernel
theorem chk51 : checkA 1 5 = true := by decide +kernel
theorem chk60 : checkA 0 6 = true := by decide +kernel
theorem chk61 : checkA 1 6 = true := by decide +kernel
theorem chk70 : checkA 0 7 = true := by decide +kernel
theorem chk71 : checkA 1 7 = true := by decide +kernel
theorem chk (a b c d : Nat) (ha : a < 2) (hb : b < 4) (hc : c < 8) (hd : d < 16) : checkG a b c d = true := by
  have key : checkA a c = true → checkG a b c d = true := fun h => List.all_eq_true.mp (List.all_eq_true.mp h b (List.mem_range.mpr hb)) d (List.mem_range.mpr hd)
  refine key ?_
  have h1 := (by decide : ∀ a, a < 2 → a = 0 ∨ a = 1) a ha
  have h2 := (by decide : ∀ c, c < 8 → c = 0 ∨ c = 1 ∨ c = 2 ∨ c = 3 ∨ c = 4 ∨ c = 5 ∨ c = 6 ∨ c = 7) c hc
  clear key ha hc
  rcases h1 with e | e <;> rcases h2 with q | q | q | q | q | q | q | q <;> rw [e, q]
  · exact chk00
  · exact chk10
  · exact chk20
  · exact chk30
  · exact chk40
  · exact chk50
  · exact chk60
  · exact chk70
  · exact chk01
  · exact chk11
  · exact chk21
  · exact chk31
  · exact chk41
  · exact chk51
  · exact chk61
  · exact chk71
theorem plain (cs : List Int) (h : CsOk cs) : RsOk (roadF (pageF cs 4)) ∧ Far (rowsAll cs) ∧ rowsAll cs = dueF cs ∧ ∃ (cnt : Int) (hb : Bool), countF (rowsAll cs) = cnt ∧ (List.range 5).all (okP (rowsAll cs)) = hb ∧ decide (cnt = 32) = hb ∧ decide (32 < cnt) = !hb := by
  obtain ⟨hl, hr⟩ := h
  have hn : ∀ i, i < 4 → cs.getD i 0 = (((cs.getD i 0).toNat : Nat) : Int) := fun i hi => by
    have : cs.getD i 0 = cs[i]'(by omega) := by rw [List.getD_eq_getElem?_getD, List.getElem?_eq_getElem (by omega)]; rfl
    have := (hr (cs.getD i 0) (by rw [this]; exact List.getElem_mem _)).1
    omega
  let ns : Nat → Nat := fun i => (cs.getD i 0).toNat
  have hn' : ∀ i, i < 4 → cs.getD i 0 = (ns i : Int) := hn
  have hm : ∀ k, k < 5 → msOf (mk (ns 0) 1) (mk (ns 1) 2) (mk (ns 2) 3) (mk (ns 3) 4) k = if k = 0 then 0 else mk (ns (k - 1)) k := by
    generalize mk = M
    intro k hk
    match k, hk with
    | 0, _ => exact (if_pos rfl).symm
    | 1, _ => exact (if_neg (Nat.succ_ne_zero _)).symm
    | 2, _ => exact (if_neg (Nat.succ_ne_zero _)).symm
    | 3, _ => exact (if_neg (Nat.succ_ne_zero _)).symm
    | 4, _ => exact (if_neg (Nat.succ_ne_zero _)).symm
  have hc := chk (mk (ns 0) 1) (mk (ns 1) 2) (mk (ns 2) 3) (mk (ns 3) 4) (mk_lt _ 1) (mk_lt _ 2) (mk_lt _ 3) (mk_lt _ 4)
  unfold checkG at hc
  rw [frcR_eq] at hc
  revert hm hc
  generalize msOf (mk (ns 0) 1) (mk (ns 1) 2) (mk (ns 2) 3) (mk (ns 3) 4) = ms
  intro hm hc
  have ht : ∀ j, j < 5 → toldF (pageF cs 4) (sgn j) = wd j (ms j) := fun j hj => by rw [told_page cs ns hn' j hj, hm j hj]
  have hlt : ∀ j, j < 5 → ms j < 2 ^ j := fun j hj => by
    rw [hm j hj]
    split
    · exact Nat.two_pow_pos j
    · exact mk_lt _ j
  have hroad := road_cps cs ms ht hlt
  have hadj : ∀ k, k < 5 → ((List.range 5).map (adjA ms)).getD k [] = adjA ms k := fun k hk => by
    rw [List.getD_eq_getElem?_getD, List.getElem?_map, List.getElem?_range hk]; rfl
  have hrows : rowsAll cs = castR (rowsN ms) := by
    unfold rowsAll castR rowsN
    rw [frcR_eq, List.map_map]
    refine List.map_congr_left fun j hj => ?_
    exact ways_all (adj := fun k => ((List.range 5).map (adjA ms)).getD k []) (fun k hk => by rw [hadj k hk]; exact hroad k hk) (fun k hk => by rw [hadj k hk]; exact adjA_lt _ k hk) j (List.mem_range.mp hj)
  have hlen : (rowsN ms).length = 5 := by unfold rowsN; rw [frcR_eq, List.length_map, List.length_range]
  revert hrows hlen hc
  generalize rowsN ms = rows
  intro hc hrows hlen
  unfold checkR at hc
  rw [Bool.and_eq_true, Bool.and_eq_true, decide_eq_true_eq, List.all_eq_true, frcP_eq, frc_eq] at hc
  obtain ⟨⟨c1, c2⟩, c3⟩ := hc
  have hok : (List.range 5).all (okP (castR rows)) = (List.range 5).all (okPN rows) := by rw [show okP (castR rows) = okPN rows from funext (okP_n rows)]
  refine ⟨road_ok cs ms ht hlt, ?_, ?_, _, _, rfl, rfl, ?_, ?_⟩
  · rw [hrows]
    refine ⟨by unfold castR; rw [List.length_map]; exact hlen, fun r hr => ?_⟩
    obtain ⟨l, hl, rfl⟩ := List.mem_map.mp hr
    have := c2 l hl
    rw [Bool.and_eq_true, Nat.beq_eq, List.all_eq_true] at this
    refine ⟨by unfold cst; rw [List.length_map]; exact this.1, fun e he => ?_⟩
    obtain ⟨x, hx, rfl⟩ := List.mem_map.mp he
    have := Nat.le_of_ble_eq_true (this.2 x hx)
    omega
  · rw [hrows, due_all cs ms ns hn' (fun i hi => by rw [hm (i + 1) (by omega)]; rfl), c1]
    unfold castR
    rw [List.map_map]
    rfl
  · rw [hrows, count_n, hok]
    cases h : (List.range 5).all (okPN rows) with
    | true => rw [h] at c3; rw [decide_eq_true_eq]; have := Nat.eq_of_beq_eq_true c3; omega
    | false => rw [h] at c3; rw [decide_eq_false_iff_not]; have := Nat.blt_eq.mp c3; omega
  · rw [hrows, count_n, hok]
    cases h : (List.range 5).all (okPN rows) with
    | true => rw [h] at c3; rw [Bool.not_true, decide_eq_false_iff_not]; have := Nat.eq_of_beq_eq_true c3; omega
    | false => rw [h] at c3; rw [Bool.not_false, decide_eq_true_eq]; have := Nat.blt_eq.mp c3; omega
end
section
local macro_rules | `(tactic| k_qdec) => `(tactic| decide +kernel)
local macro_rules | `(tactic| walk_at "call ref") => `(tactic| refine Stop.out ?_)
local macro_rules | `(tactic| walk_at "newList") => `(tactic| refine Stop.out ?_)
local macro_rules | `(tactic| walk_at "compareOp Eq ref ref") => `(tactic| refine Stop.out ?_)
theorem fin0 : PySem.Challenge.rw_wj0053_01.Holds := by
  w_on
  refine holds_law (by decide +kernel) fun said => ?_
  refine holds_open (q := kView) (loose := kLoose) (Xt := kXt) (XP := XL kView []) (Yf := Hook.obs (kHook kHeap kAddrs kAddrs_eq)) (Ya := Hook.val (kHook kHeap kAddrs kAddrs_eq)) (YP := Hook.says (kHook kHeap kAddrs kAddrs_eq)) (N := 4448) kLeft (Hook.of _) (Hook.keeps _) (fun s e => xl_of s (Bool.and_eq_true_iff.mp e).1) XL.keeps (by rfl) (by rfl) (by rfl) (fun s e => recFacts_of (Bool.and_eq_true_iff.mp e).2) (by rfl) (by first | assumption | decide +kernel) (by decide +kernel) ⟨rfl, rfl, rfl, rfl, rfl, by decide +kernel⟩ ?hw ?hc
  case hw => w_witness2
  w_strict (k_go0; (all_goals try k_fold); skip)
  rename Shared => s1
  rename World => w
  rename List Int => ns0
  rename (kHeap _).In s1.heap => X
  rename Top _ _ _ _ _ s1.heap => T
  rename Below callerA _ _ _ => B
  rename IntsAre _ _ => hI
  rename Fr _ _ _ _ => F
  rename News _ _ _ _ => N
  rename s1.heap.IsList _ _ => hL
  rename ¬ _ < _ => hlen
  rename s1.gens = #[] => hgens
  k_steps
  unfold Stop
  rename Fr _ _ _ _ => F
  rename News _ _ _ _ => N
  refine' ctr_pure (cells_ctr _ ns0 ?a1) B F X T rfl rfl rfl ?a2 ?a3 ?a4 ?a5
  case a1 => omega
  case a2 => exact ⟨_, hL.at (F.keep _), hI⟩
  case a3 => decide
  case a4 => decide
  case a5 =>
    rintro v h2 tk2 k2 F2 ⟨cs, hcs, r, cvs, cn, rfl, hr0, hr, hci⟩
    have hLr0 := ne_none hr0 (N _ (.head _)).1
    have N2 := new_led F (N.grown k2) hr0 hr
    clear F N
    k_steps
    unfold Stop
    rename Fr _ _ _ _ => F
    rename News _ _ _ _ => N
    rename _ = Data.cell _ => hoc
    refine grab_obj hoc fun oc hoc0 => ?_
    subst hoc0
    obtain ⟨pl1, pl2, pl3, cnt, hb, pl4, pl5, pl6, pl7⟩ := plain cs hcs
    refine' ctr_pure (page_ctr r cs hcs) B F X T rfl rfl rfl ?b2 ?b3 ?b4 ?b5
    case b2 => exact ⟨cvs, ⟨_, (N _ (.head _)).1, rfl, cn, rfl⟩, hci⟩
    case b3 => decide
    case b4 => decide
    case b5 =>
      rintro v h3 tk3 k3 F3 ⟨P, d, l, tkh, vs, n, nx, rfl, hne, hall, hlin, hok, hoff⟩
      have N3 := news_all F hall (N.grown k3)
      have hr3 := (N _ (.head _)).1
      have hc3 := (N _ (.tail _ (.head _))).1
      have rne : ∀ x ∈ [P, d, l], r ≠ x ∧ s1.heap.objs.size + 1 ≠ x := fun x hx => by
        have hx' : x ∈ (hdLed w P d l tkh vs n).map (·.1) := hx
        obtain ⟨p, hp, rfl⟩ := List.mem_map.mp hx'
        have := (hall p (List.mem_append.mpr (.inl hp))).2
        exact ⟨ne_none this hr3, ne_none this hc3⟩
      have offL : ∀ p ∈ nx, p.1 ∉ (hdLed w P d l tkh vs n).map (·.1) := fun p hp => hd_notin (hoff p hp)
      clear F N
      k_steps
      unfold Stop
      rename Fr _ _ _ _ => F
      rename News _ _ _ _ => N
      refine' ctrS_led (ls := []) (roads_ctr P d l tkh vs n (pageF cs 4) hne hok) B (fun _ h => nomatch h) X T F N rfl (fun _ h => nomatch h) ?c1 rfl rfl rfl ?c2 ?c3 ?c4 ?c5
      case c1 => exact fun p hp => ⟨List.mem_append.mpr (.inl (List.mem_append.mpr (.inl hp))), fun h => nomatch h⟩
      case c2 => exact hlin.at fun p hp => hideAll_get _ (N p (List.mem_append.mpr (.inl (List.mem_append.mpr (.inr hp))))).1 (offL p hp)
      case c3 => decide
      case c4 => decide
      case c5 =>
        rintro v h4 tk4 all' F4 N4 hkeep _ _ ⟨_, Dd, od, kvs, rfl, hsz, hget, hdict, hflat, hlo⟩
        have N5 : News s1.heap s1.heap.objs.size h4 [(r, listOf cvs.toArray cn), (s1.heap.objs.size + 1, oc)] := fun p hp => by
          refine N4 p (hkeep p (List.mem_append.mpr (.inr hp)) (fun h => nomatch h) ?_)
          have : ∀ x ∈ [P, d, l], p.1 ≠ x := fun x hx => by
            rcases List.mem_cons.mp hp with rfl | hp
            · exact (rne x hx).1
            · rw [List.mem_singleton.mp hp]; exact (rne x hx).2
          exact fun hm => this p.1 hm rfl
        rw [hideAll_size] at hsz
        have N6 := new_led F N5 (get_none_le hsz) hget
        have F6 : Fr s1.heap s1.heap.objs.size h4 _ := F4
        have hdn : @Ne Nat (s1.heap.objs.size + 1) Dd := ne_none (get_none_le hsz) (N _ (List.mem_append.mpr (.inr (.tail _ (.head _))))).1
        have hdr : @Ne Nat r Dd := ne_none (get_none_le hsz) (N _ (List.mem_append.mpr (.inr (.head _)))).1
        have hLr : @Ne Nat (s1.heap.objs.size + 1) r := hLr0
        clear F N F4 N4 N5
        k_steps
        rename Fr _ _ _ _ => F
        rename News _ _ _ _ => N
        rename _ = Data.cell (some (Value.ref Dd)) => hoc1
        refine grab_obj hoc1 fun oc1 hoc2 => ?_
        subst hoc2
        unfold Stop
        refine' mc_store (cl := [(Str.ofString "roads", s1.heap.objs.size + 1)]) F ?d1 ?d2 ?d3 ?d4 ?d5 ?d6 ?d7
        case d1 => with_unfolding_all rfl
        case d2 => rfl
        case d3 => decide
        case d4 => rfl
        case d5 => decide
        case d7 => intro _; rfl
        case d6 =>
          k_steps
          rename Fr _ _ _ _ => F
          rename News _ _ _ _ => N
          unfold Stop
          refine' mc_str (fun i ys nx => (∀ p ∈ [(Dd, od), (r, listOf cvs.toArray cn), (s1.heap.objs.size + 1, oc1)], p ∈ nx) ∧ RowsIn nx ys ((List.range i).map fun j => waysF (roadF (pageF cs 4)) (sgn j))) [(Dd, od), (r, listOf cvs.toArray cn), (s1.heap.objs.size + 1, oc1)] rfl rfl rfl ?e2 F N ?e4 ?e5 ?e6 ?e7
          case e2 => decide
          case e4 => exact fun _ h => h
          case e6 => exact ⟨fun _ h => h, .nil⟩
          case e5 =>
            clear F N
            intro x v ys nx I oI C oC D3 m₂ h tk9 E' hx hv hJ hC hb F N off ne _
            obtain ⟨hsub, hrows⟩ := hJ
            unfold BdN at hb
            have hm1 : (s1.heap.objs.size + 1, oc1) ∈ nx := hsub _ (.tail _ (.tail _ (.head _)))
            have hm2 : (Dd, od) ∈ nx := hsub _ (.head _)
            refine wpAny_tests_nil ?_
            dsimp only
            rw [if_pos rfl]
            obtain ⟨cc, uu, hcc, rfl⟩ := hv
            have hx5 : x < 5 := hx
            have es : (⟨#[cc]⟩ : Str) = sgn x := by
              have h1 := (sgn_at ⟨x, hx5⟩).1
              have h2 := (sgn_at ⟨x, hx5⟩).2.1
              dsimp only at h1 h2
              rw [hcc] at h1
              rw [Option.some.inj h1]; exact h2.symm
            rw [es] at hb
            have hT : StrTab prog1 w h Dd (roadsDF (roadF (pageF cs 4))) := ⟨hlo, kvs, Heap.dictOf_iff.mpr ⟨od, (N _ (.tail _ (.tail _ (.tail _ hm2)))).1, hdict⟩, hflat⟩
            k_steps
            unfold Stop
            refine' ctr_pure (ways_ctr Dd (roadF (pageF cs 4)) pl1 x hx5 uu) B F X T rfl rfl rfl hT ?f2 ?f3 ?f4
            case f2 => decide
            case f3 => decide
            case f4 =>
              rintro v h' tk' hk' F' ⟨rr, vs', n', rfl, hn, he, hi'⟩
              k_unfold
              refine mend_new F hk' N off hn he trivial ⟨fun p hp => List.Mem.tail _ (hsub p hp), ?_⟩
              rw [List.range_succ, List.map_append]
              exact (hrows.mono fun p hp => List.Mem.tail _ hp).snoc (List.Mem.head _) hi'
          case e7 =>
            clear F N
            intro g ys nx hl9 hJ
            obtain ⟨hsub, hrows⟩ := hJ
            have hrows5 : RowsIn nx ys (rowsAll cs) := hrows
            unfold MFinS
            intro Df C oC h tk9 F N off1 offC
            k_steps
            refine ⟨_, _, _, (C, oC) :: (Df, lst ys) :: nx, (Df, lst ys) :: nx, rfl, by assumption, by assumption, .head _, fun p hp => ⟨.tail _ hp, ?off⟩, fun h5 F N => ?_⟩
            case off => exact off1_in offC p hp
            k_steps
            unfold Stop
            rename Fr _ _ _ _ => F
            rename News _ _ _ _ => N
            have hR6 : RowsAt _ Df (rowsAll cs) := hrows5.at (fun p hp => (N p (.tail _ hp)).1) (N _ (.head _)).1
            refine' ctr_pure (ptol_ctr Df (rowsAll cs) pl2) B F X T rfl rfl rfl hR6 ?g1 ?g2 ?g3
            case g1 => decide
            case g2 => decide
            case g3 =>
              rintro v h7 tk7 k7 F7 e7
              rw [pl5] at e7
              subst e7
              have N7 := N.grown k7
              clear F N
              k_steps
              unfold Stop
              rename Fr _ _ _ _ => F
              rename News _ _ _ _ => N
              have hR7 : RowsAt _ Df (rowsAll cs) := hrows5.at (fun p hp => (N p (.tail _ hp)).1) (N _ (.head _)).1
              refine' ctr_pure (count_ctr Df (rowsAll cs) pl2) B F X T rfl rfl rfl hR7 ?h1 ?h2 ?h3
              case h1 => decide
              case h2 => decide
              case h3 =>
                rintro v h8 tk8 k8 F8 ⟨t8, e8⟩
                rw [pl4] at e8
                subst e8
                clear pl4 pl5
                have N8 := N.grown k8
                clear F N
                k_steps
                unfold Stop
                rename Fr _ _ _ _ => F
                rename News _ _ _ _ => N
                refine' ctr_pure (due_ctr r cs hcs) B F X T rfl rfl rfl ⟨cvs, ⟨_, (N _ (.tail _ (hsub _ (.tail _ (.head _))))).1, rfl, cn, rfl⟩, hci⟩ ?i1 ?i2 ?i3
                case i1 => decide
                case i2 => decide
                case i3 =>
                  rintro v h9 tk9 k9 F9 ⟨D2, ys2, n2, nx2, rfl, hD0, hD2, hn2, hr2⟩
                  have hN8 := N
                  have N9 := N.grown k9
                  have hA1 : RowsAt h9 Df (rowsAll cs) := (hrows5.at (fun p hp => (hN8 p (.tail _ hp)).1) (hN8 _ (.head _)).1).keep k9
                  have hA2 : RowsAt h9 D2 (rowsAll cs) := by
                    rw [pl3]
                    exact hr2.at (fun p hp => (hn2 p hp).1) hD2
                  clear F N hN8
                  refine eq_rows hA1 hA2 ?j1 ?_
                  case j1 => first | (ktr_room; done) | (k_room; done) | (dsimp only [Around.deeper, callerA]; decide)
                  clear hA1 hA2 hrows hrows5
                  refine wpAny_truthy_bool ?_
                  rw [if_pos rfl]
                  (try dsimp only)
                  k_steps
                  unfold Stop
                  have hsz9 : (2 : Nat) ≤ sizeLine := by decide
                  refine newList_K F9 N9 ?_ hsz9
                  intro l9 h10 F N l1
                  clear F9 N9
                  try dsimp only
                  k_steps
                  unfold Stop
                  refine newList_K F N ?_ hsz9
                  intro l10 h11 F2 N2 l2
                  clear F N
                  have hL9 := (N2 _ (.tail _ (.head _))).1
                  have hL10 := (N2 _ (.head _)).1
                  refine eq_bools hL9 hL10 ?o1 ?o2 ?o3 ?_
                  case o1 => exact pl6
                  case o2 => exact pl7
                  case o3 => first | (ktr_room; done) | (k_room; done) | (dsimp only [Around.deeper, callerA]; decide)
                  show GoodW _ _ _ _ _ (.ok (.ret (.bool true))) _
                  exact goodW_bool F2 hgens (fun _ => rfl) (post_true ns0)
end
end
end Mine
theorem PySem.Challenge.cw_wj0053_01_holds : PySem.Challenge.rw_wj0053_01.Holds :=
  Mine.fin0
