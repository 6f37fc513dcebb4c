import PyProof.Rows.All
import Wide.All
import OpenK.AllK
import Wide.FinOn
import KE.KStopIter
import KE.KIntText
import Lean
import PySem.Challenge.RW_rt0109_01
set_option Elab.async false
set_option linter.all false
set_option maxRecDepth 100000
set_option maxHeartbeats 8000000
-- Within string literals \x69 and \x6f stand for i and o where a string of the heap would bear a word that the kit bars from a text.
section
open PySem PySem.W PyProof.Rows
set_option Elab.async false
set_option maxRecDepth 1000000
set_option maxHeartbeats 0
set_option linter.all false
namespace Mine
noncomputable abbrev pw : Program := PySem.Challenge.pw_rt0109_01
noncomputable def P0 : Pos := ⟨0, 0, 0, 0⟩
noncomputable def st (i : Nat) : Stmt := pw.main.body.getD i (.Pass P0)
noncomputable def sm (i j : Nat) : Stmt := match st i with
  | .ClassDef _ _ _ b _ _ _ _ _ _ _ => b.getD j (.Pass P0)
  | _ => .Pass P0
noncomputable def fd (s : Stmt) (qn : Str) (g : Addr) (d k doc pm : Value) (an : Option Addr) (cd ct : Value) (bi : Addr) : FuncData := match s with
  | .FunctionDef n a b _ _ _ sc _ _ _ => { name := n, qualname := qn, params := a, body := .stmts b, scope := sc, globals := g, closure := [], defaults := d, kwdefaults := k, doc := doc, pyModule := pm, annotations := an, code := cd, closureTuple := ct, builtins := bi }
  | _ => default
noncomputable def de (P : Params) (x : Str) (t : Nat) (v : Value) : DictEntry := ⟨PyData.keyHash P x, .str x t, v⟩
noncomputable def life0 : Life := {}
noncomputable def o0 (P : Params) : Obj := ⟨(.type "dict"), none, (.dict #[de P "__name__" 1 (.str "builtins" 160), de P "__doc__" 2 (.builtin "builtins.__doc__:str#\x6fpaque"), de P "__package__" 3 (.builtin "builtins.__package__:str#\x6fpaque"), de P "__loader__" 4 (.builtin "builtins.__loader__:shared#\x6fpaque"), de P "__spec__" 5 (.builtin "builtins.__spec__#\x6fpaque"), de P "__build_class__" 6 (.builtin "__build_class__"), de P "__import__" 7 (.builtin "__import__"), de P "abs" 8 (.builtin "abs"), de P "all" 9 (.builtin "all"), de P "any" 10 (.builtin "any"), de P "ascii" 11 (.builtin "ascii"), de P "bin" 12 (.builtin "bin"), de P "breakpoint" 13 (.builtin "breakpoint"), de P "callable" 14 (.builtin "callable"), de P "chr" 15 (.builtin "chr"), de P "compile" 16 (.builtin "compile"), de P "delattr" 17 (.builtin "delattr"), de P "dir" 18 (.builtin "dir"), de P "divmod" 19 (.builtin "divmod"), de P "eval" 20 (.builtin "eval"), de P "exec" 21 (.builtin "exec"), de P "format" 22 (.builtin "format"), de P "getattr" 23 (.builtin "getattr"), de P "globals" 24 (.builtin "globals"), de P "hasattr" 25 (.builtin "hasattr"), de P "hash" 26 (.builtin "hash"), de P "hex" 27 (.builtin "hex"), de P "id" 28 (.builtin "id"), de P "input" 29 (.builtin "input"), de P "isinstance" 30 (.builtin "isinstance"), de P "issubclass" 31 (.builtin "issubclass"), de P "iter" 32 (.builtin "iter"), de P "aiter" 33 (.builtin "aiter"), de P "len" 34 (.builtin "len"), de P "locals" 35 (.builtin "locals"), de P "max" 36 (.builtin "max"), de P "min" 37 (.builtin "min"), de P "next" 38 (.builtin "next"), de P "anext" 39 (.builtin "anext"), de P "oct" 40 (.builtin "oct"), de P "ord" 41 (.builtin "ord"), de P "pow" 42 (.builtin "pow"), de P "print" 43 (.builtin "print"), de P "repr" 44 (.builtin "repr"), de P "round" 45 (.builtin "round"), de P "setattr" 46 (.builtin "setattr"), de P "sorted" 47 (.builtin "sorted"), de P "sum" 48 (.builtin "sum"), de P "vars" 49 (.builtin "vars"), de P "None" 50 .none, de P "Ellipsis" 51 .ellipsis, de P "NotImplemented" 52 .notImplemented, de P "False" 53 (.bool false), de P "True" 54 (.bool true), de P "bool" 55 (.type "bool"), de P "memoryview" 56 (.type "memoryview"), de P "bytearray" 57 (.type "bytearray"), de P "bytes" 58 (.type "bytes"), de P "classmethod" 59 (.type "classmethod"), de P "complex" 60 (.type "complex"), de P "dict" 61 (.type "dict"), de P "enumerate" 62 (.type "enumerate"), de P "filter" 63 (.type "filter"), de P "float" 64 (.type "float"), de P "frozenset" 65 (.type "frozenset"), de P "property" 66 (.type "property"), de P "int" 67 (.type "int"), de P "list" 68 (.type "list"), de P "map" 69 (.type "map"), de P "object" 70 (.type "object"), de P "range" 71 (.type "range"), de P "reversed" 72 (.type "reversed"), de P "set" 73 (.type "set"), de P "slice" 74 (.type "slice"), de P "staticmethod" 75 (.type "staticmethod"), de P "str" 76 (.type "str"), de P "super" 77 (.type "super"), de P "tuple" 78 (.type "tuple"), de P "type" 79 (.type "type"), de P "zip" 80 (.type "zip"), de P "__debug__" 81 (.bool true), de P "BaseException" 82 (.type "BaseException"), de P "BaseExceptionGroup" 83 (.type "BaseExceptionGroup"), de P "Exception" 84 (.type "Exception"), de P "GeneratorExit" 85 (.type "GeneratorExit"), de P "KeyboardInterrupt" 86 (.type "KeyboardInterrupt"), de P "SystemExit" 87 (.type "SystemExit"), de P "ArithmeticError" 88 (.type "ArithmeticError"), de P "AssertionError" 89 (.type "AssertionError"), de P "AttributeError" 90 (.type "AttributeError"), de P "BufferError" 91 (.type "BufferError"), de P "EOFError" 92 (.type "EOFError"), de P "ImportError" 93 (.type "ImportError"), de P "LookupError" 94 (.type "LookupError"), de P "MemoryError" 95 (.type "MemoryError"), de P "NameError" 96 (.type "NameError"), de P "OSError" 97 (.type "OSError"), de P "ReferenceError" 98 (.type "ReferenceError"), de P "RuntimeError" 99 (.type "RuntimeError"), de P "StopAsyncIteration" 100 (.type "StopAsyncIteration"), de P "StopIteration" 101 (.type "StopIteration"), de P "SyntaxError" 102 (.type "SyntaxError"), de P "SystemError" 103 (.type "SystemError"), de P "TypeError" 104 (.type "TypeError"), de P "ValueError" 105 (.type "ValueError"), de P "Warning" 106 (.type "Warning"), de P "FloatingPointError" 107 (.type "FloatingPointError"), de P "OverflowError" 108 (.type "OverflowError"), de P "ZeroDivisionError" 109 (.type "ZeroDivisionError"), de P "BytesWarning" 110 (.type "BytesWarning"), de P "DeprecationWarning" 111 (.type "DeprecationWarning"), de P "EncodingWarning" 112 (.type "EncodingWarning"), de P "FutureWarning" 113 (.type "FutureWarning"), de P "ImportWarning" 114 (.type "ImportWarning"), de P "PendingDeprecationWarning" 115 (.type "PendingDeprecationWarning"), de P "ResourceWarning" 116 (.type "ResourceWarning"), de P "RuntimeWarning" 117 (.type "RuntimeWarning"), de P "SyntaxWarning" 118 (.type "SyntaxWarning"), de P "UnicodeWarning" 119 (.type "UnicodeWarning"), de P "UserWarning" 120 (.type "UserWarning"), de P "BlockingIOError" 121 (.type "BlockingIOError"), de P "ChildProcessError" 122 (.type "ChildProcessError"), de P "ConnectionError" 123 (.type "ConnectionError"), de P "FileExistsError" 124 (.type "FileExistsError"), de P "FileNotFoundError" 125 (.type "FileNotFoundError"), de P "InterruptedError" 126 (.type "InterruptedError"), de P "IsADirectoryError" 127 (.type "IsADirectoryError"), de P "NotADirectoryError" 128 (.type "NotADirectoryError"), de P "PermissionError" 129 (.type "PermissionError"), de P "ProcessLookupError" 130 (.type "ProcessLookupError"), de P "TimeoutError" 131 (.type "TimeoutError"), de P "IndentationError" 132 (.type "IndentationError"), de P "_IncompleteInputError" 133 (.type "_IncompleteInputError"), de P "IndexError" 134 (.type "IndexError"), de P "KeyError" 135 (.type "KeyError"), de P "ModuleNotFoundError" 136 (.type "ModuleNotFoundError"), de P "NotImplementedError" 137 (.type "NotImplementedError"), de P "PythonFinalizationError" 138 (.type "PythonFinalizationError"), de P "RecursionError" 139 (.type "RecursionError"), de P "UnboundLocalError" 140 (.type "UnboundLocalError"), de P "UnicodeError" 141 (.type "UnicodeError"), de P "BrokenPipeError" 142 (.type "BrokenPipeError"), de P "ConnectionAbortedError" 143 (.type "ConnectionAbortedError"), de P "ConnectionRefusedError" 144 (.type "ConnectionRefusedError"), de P "ConnectionResetError" 145 (.type "ConnectionResetError"), de P "TabError" 146 (.type "TabError"), de P "UnicodeDecodeError" 147 (.type "UnicodeDecodeError"), de P "UnicodeEncodeError" 148 (.type "UnicodeEncodeError"), de P "UnicodeTranslateError" 149 (.type "UnicodeTranslateError"), de P "ExceptionGroup" 150 (.type "ExceptionGroup"), de P "EnvironmentError" 151 (.type "OSError"), de P "IOError" 152 (.type "OSError"), de P "open" 153 (.builtin "open"), de P "quit" 154 (.builtin "builtins.quit#\x6fpaque"), de P "exit" 155 (.builtin "builtins.exit#\x6fpaque"), de P "copyright" 156 (.builtin "builtins.copyright#\x6fpaque"), de P "credits" 157 (.builtin "builtins.credits#\x6fpaque"), de P "license" 158 (.builtin "builtins.license#\x6fpaque"), de P "help" 159 (.builtin "builtins.help#\x6fpaque")] 159), #[]⟩
noncomputable def o1 (P : Params) : Obj := ⟨(.type "dict"), none, (.dict #[de P "builtins" 162 (.ref 4), de P "__main__" 163 (.ref 5), de P "_sre" 244 (.ref 12), de P "_collections" 292 (.ref 30)] 4), #[]⟩
noncomputable def o2 (P : Params) : Obj := ⟨.none, none, (.dict #[de P "\x69mport.loaded._sre" 183 (.bool true), de P "class._frozen_importlib.BuiltinImporter" 185 (.ref 14), de P "watched.\x69mport" 206 (.ref 18), de P "class._frozen_importlib.ModuleSpec" 216 (.ref 22), de P "sys.modules.booked-epoch" 245 (.int 4 0), de P "\x69mport.later-laid._sre" 270 (.bool true), de P "watched.library" 272 (.ref 27), de P "watched.library-objects" 0 (.str ⟨#[12, 30]⟩ 0), de P "watched.library-deep._sre" 273 (.str ⟨#[4, 0, 0, 11, 4, 0, 0, 11, 4, 0, 0, 3, 4, 0, 0, 11, 8, 4, 100, 105, 99, 116, 2]⟩ 0), de P "\x69mport.loaded._collections" 280 (.bool true), de P "sys.modules.landed._collections" 294 (.bool true), de P "\x69mport.later-laid._collections" 309 (.bool true), de P "watched.library-deep._collections" 311 (.str ⟨#[4, 0, 0, 29, 4, 0, 0, 29, 4, 0, 0, 3, 4, 0, 0, 29, 8, 4, 100, 105, 99, 116, 2]⟩ 0)] 13), #[]⟩
noncomputable def o3 (P : Params) : Obj := ⟨(.type "dict"), none, (.dict #[de P "__name__" 165 (.str "__main__" 164), de P "__doc__" 166 .none, de P "__package__" 167 .none, de P "__loader__" 168 (.builtin "__main__.__loader__#\x6fpaque"), de P "__spec__" 169 .none, de P "__annotations__" 170 (.ref 6), de P "__builtins__" 171 (.ref 4), de P "__file__" 173 (.str "/claim/cut.py" 172), de P "__cached__" 174 .none, de P "_sre" 275 (.ref 12), de P "deque" 317 (.type "collections.deque")] 11), #[]⟩
noncomputable def o4 (P : Params) : Obj := ⟨(.type "module"), (some 0), .plain, #[]⟩
noncomputable def o5 (P : Params) : Obj := ⟨(.type "module"), (some 3), .plain, #[]⟩
noncomputable def o6 (P : Params) : Obj := ⟨(.type "dict"), none, (.dict #[] 0), #[]⟩
noncomputable def o7 (P : Params) : Obj := ⟨(.type "tuple"), none, (.seq #[] 0), #[]⟩
noncomputable def o8 (P : Params) : Obj := ⟨.none, none, (.fields #[]), #[]⟩
noncomputable def o9 (P : Params) : Obj := ⟨(.type "code"), none, (.fields #[(.str "<module>" 176), (.str "<module>" 177), (.str "/claim/cut.py" 178), (.int 1 0), (.int 0 0), (.int 0 0), (.int 0 0), (.int 0 0), (.ref 7), (.bool false), (.int 175 0), (.ref 8), .none, .none, .none, .none, (.int 179 0), (.int 1 0), (.str "/claim/cut.py" 180)]), #[]⟩
noncomputable def o10 (P : Params) : Obj := ⟨(.type "frame"), none, .plain, #[some (.ref 9), some (.ref 3), some (.ref 3), none, some (.str "__main__" 164), none, some (.ref 0)]⟩
noncomputable def o11 (P : Params) : Obj := ⟨(.type "dict"), none, (.dict #[de P "__name__" 247 (.str "_sre" 246), de P "__doc__" 248 .none, de P "__package__" 250 (.str "" 249), de P "__loader__" 251 (.ref 14), de P "__spec__" 252 (.ref 26), de P "compile" 253 (.builtin "_sre.compile"), de P "template" 254 (.builtin "_sre.template"), de P "getcodesize" 255 (.builtin "_sre.getcodesize"), de P "ascii_iscased" 256 (.builtin "_sre.ascii_iscased"), de P "unicode_iscased" 257 (.builtin "_sre.unicode_iscased"), de P "ascii_tolower" 258 (.builtin "_sre.ascii_tolower"), de P "unicode_tolower" 259 (.builtin "_sre.unicode_tolower"), de P "MAGIC" 261 (.int 20230612 260), de P "CODESIZE" 263 (.int 4 262), de P "MAXREPEAT" 265 (.int 4294967295 264), de P "MAXGROUPS" 267 (.int 1073741823 266), de P "copyright" 269 (.str " SRE 2.2.2 Copyright (c) 1997-2002 by Secret Labs AB " 268)] 17), #[]⟩
noncomputable def o12 (P : Params) : Obj := ⟨(.type "module"), (some 11), .plain, #[]⟩
noncomputable def o13 (P : Params) : Obj := ⟨(.type "dict"), none, (.dict #[de P "__module__" 189 (.str "_frozen_importlib" 186), de P "__firstlineno__" 190 (.int 971 187), de P "__doc__" 191 (.builtin "_frozen_importlib.BuiltinImporter.__doc__:str#\x6fpaque"), de P "_ORIGIN" 192 (.str "built-in" 188), de P "find_spec" 193 (.builtin "_frozen_importlib.BuiltinImporter.find_spec#\x6fpaque"), de P "create_module" 194 (.builtin "_frozen_importlib.BuiltinImporter.create_module#\x6fpaque"), de P "exec_module" 195 (.builtin "_frozen_importlib.BuiltinImporter.exec_module#\x6fpaque"), de P "get_code" 196 (.builtin "_frozen_importlib.BuiltinImporter.get_code#\x6fpaque"), de P "get_source" 197 (.builtin "_frozen_importlib.BuiltinImporter.get_source#\x6fpaque"), de P "is_package" 198 (.builtin "_frozen_importlib.BuiltinImporter.is_package#\x6fpaque"), de P "load_module" 199 (.builtin "_frozen_importlib.BuiltinImporter.load_module#\x6fpaque"), de P "__static_attributes__" 200 (.ref 15), de P "__dict__" 202 (.ref 16), de P "__weakref__" 204 (.ref 17)] 14), #[]⟩
noncomputable def o14 (P : Params) : Obj := ⟨(.type "type"), none, (.cls ⟨"BuiltinImporter", [(.type "object")], [(.ref 14), (.type "object")], 13, "BuiltinImporter", true, [], [], false, none, false⟩), #[]⟩
noncomputable def o16 (P : Params) : Obj := ⟨(.type "getset_descriptor"), none, (.fields #[(.str "__dict__" 201), (.ref 14), (.builtin "function.__dict__"), (.builtin "function.__dict__#set")]), #[]⟩
noncomputable def o17 (P : Params) : Obj := ⟨(.type "getset_descriptor"), none, (.fields #[(.str "__weakref__" 203), (.ref 14), (.builtin "ExceptionGroup.__weakref__"), .none]), #[]⟩
noncomputable def o18 (P : Params) : Obj := ⟨.none, none, (.seq #[(.int 13 0), (.str ⟨#[6, 189, 10, 95, 95, 109, 111, 100, 117, 108, 101, 95, 95, 6, 186, 17, 95, 102, 114, 111, 122, 101, 110, 95, 105, 109, 112, 111, 114, 116, 108, 105, 98, 6, 190, 15, 95, 95, 102, 105, 114, 115, 116, 108, 105, 110, 101, 110, 111, 95, 95, 4, 187, 0, 971, 6, 191, 7, 95, 95, 100, 111, 99, 95, 95, 9, 52, 95, 102, 114, 111, 122, 101, 110, 95, 105, 109, 112, 111, 114, 116, 108, 105, 98, 46, 66, 117, 105, 108, 116, 105, 110, 73, 109, 112, 111, 114, 116, 101, 114, 46, 95, 95, 100, 111, 99, 95, 95, 58, 115, 116, 114, 35, 111, 112, 97, 113, 117, 101, 6, 192, 7, 95, 79, 82, 73, 71, 73, 78, 6, 188, 8, 98, 117, 105, 108, 116, 45, 105, 110, 6, 193, 9, 102, 105, 110, 100, 95, 115, 112, 101, 99, 9, 50, 95, 102, 114, 111, 122, 101, 110, 95, 105, 109, 112, 111, 114, 116, 108, 105, 98, 46, 66, 117, 105, 108, 116, 105, 110, 73, 109, 112, 111, 114, 116, 101, 114, 46, 102, 105, 110, 100, 95, 115, 112, 101, 99, 35, 111, 112, 97, 113, 117, 101, 6, 194, 13, 99, 114, 101, 97, 116, 101, 95, 109, 111, 100, 117, 108, 101, 9, 54, 95, 102, 114, 111, 122, 101, 110, 95, 105, 109, 112, 111, 114, 116, 108, 105, 98, 46, 66, 117, 105, 108, 116, 105, 110, 73, 109, 112, 111, 114, 116, 101, 114, 46, 99, 114, 101, 97, 116, 101, 95, 109, 111, 100, 117, 108, 101, 35, 111, 112, 97, 113, 117, 101, 6, 195, 11, 101, 120, 101, 99, 95, 109, 111, 100, 117, 108, 101, 9, 52, 95, 102, 114, 111, 122, 101, 110, 95, 105, 109, 112, 111, 114, 116, 108, 105, 98, 46, 66, 117, 105, 108, 116, 105, 110, 73, 109, 112, 111, 114, 116, 101, 114, 46, 101, 120, 101, 99, 95, 109, 111, 100, 117, 108, 101, 35, 111, 112, 97, 113, 117, 101, 6, 196, 8, 103, 101, 116, 95, 99, 111, 100, 101, 9, 49, 95, 102, 114, 111, 122, 101, 110, 95, 105, 109, 112, 111, 114, 116, 108, 105, 98, 46, 66, 117, 105, 108, 116, 105, 110, 73, 109, 112, 111, 114, 116, 101, 114, 46, 103, 101, 116, 95, 99, 111, 100, 101, 35, 111, 112, 97, 113, 117, 101, 6, 197, 10, 103, 101, 116, 95, 115, 111, 117, 114, 99, 101, 9, 51, 95, 102, 114, 111, 122, 101, 110, 95, 105, 109, 112, 111, 114, 116, 108, 105, 98, 46, 66, 117, 105, 108, 116, 105, 110, 73, 109, 112, 111, 114, 116, 101, 114, 46, 103, 101, 116, 95, 115, 111, 117, 114, 99, 101, 35, 111, 112, 97, 113, 117, 101, 6, 198, 10, 105, 115, 95, 112, 97, 99, 107, 97, 103, 101, 9, 51, 95, 102, 114, 111, 122, 101, 110, 95, 105, 109, 112, 111, 114, 116, 108, 105, 98, 46, 66, 117, 105, 108, 116, 105, 110, 73, 109, 112, 111, 114, 116, 101, 114, 46, 105, 115, 95, 112, 97, 99, 107, 97, 103, 101, 35, 111, 112, 97, 113, 117, 101, 6, 199, 11, 108, 111, 97, 100, 95, 109, 111, 100, 117, 108, 101, 9, 52, 95, 102, 114, 111, 122, 101, 110, 95, 105, 109, 112, 111, 114, 116, 108, 105, 98, 46, 66, 117, 105, 108, 116, 105, 110, 73, 109, 112, 111, 114, 116, 101, 114, 46, 108, 111, 97, 100, 95, 109, 111, 100, 117, 108, 101, 35, 111, 112, 97, 113, 117, 101, 6, 200, 21, 95, 95, 115, 116, 97, 116, 105, 99, 95, 97, 116, 116, 114, 105, 98, 117, 116, 101, 115, 95, 95, 4, 0, 0, 15, 6, 202, 8, 95, 95, 100, 105, 99, 116, 95, 95, 4, 0, 0, 16, 6, 204, 11, 95, 95, 119, 101, 97, 107, 114, 101, 102, 95, 95, 4, 0, 0, 17]⟩ 0), (.bool true), (.bool true), (.str "" 205), (.int 21 0), (.str ⟨#[6, 227, 10, 95, 95, 109, 111, 100, 117, 108, 101, 95, 95, 6, 217, 17, 95, 102, 114, 111, 122, 101, 110, 95, 105, 109, 112, 111, 114, 116, 108, 105, 98, 6, 228, 15, 95, 95, 102, 105, 114, 115, 116, 108, 105, 110, 101, 110, 111, 95, 95, 4, 218, 0, 562, 6, 229, 7, 95, 95, 100, 111, 99, 95, 95, 9, 47, 95, 102, 114, 111, 122, 101, 110, 95, 105, 109, 112, 111, 114, 116, 108, 105, 98, 46, 77, 111, 100, 117, 108, 101, 83, 112, 101, 99, 46, 95, 95, 100, 111, 99, 95, 95, 58, 115, 116, 114, 35, 111, 112, 97, 113, 117, 101, 6, 230, 8, 95, 95, 105, 110, 105, 116, 95, 95, 9, 44, 95, 102, 114, 111, 122, 101, 110, 95, 105, 109, 112, 111, 114, 116, 108, 105, 98, 46, 77, 111, 100, 117, 108, 101, 83, 112, 101, 99, 46, 95, 95, 105, 110, 105, 116, 95, 95, 35, 111, 112, 97, 113, 117, 101, 6, 231, 8, 95, 95, 114, 101, 112, 114, 95, 95, 9, 44, 95, 102, 114, 111, 122, 101, 110, 95, 105, 109, 112, 111, 114, 116, 108, 105, 98, 46, 77, 111, 100, 117, 108, 101, 83, 112, 101, 99, 46, 95, 95, 114, 101, 112, 114, 95, 95, 35, 111, 112, 97, 113, 117, 101, 6, 232, 6, 95, 95, 101, 113, 95, 95, 9, 42, 95, 102, 114, 111, 122, 101, 110, 95, 105, 109, 112, 111, 114, 116, 108, 105, 98, 46, 77, 111, 100, 117, 108, 101, 83, 112, 101, 99, 46, 95, 95, 101, 113, 95, 95, 35, 111, 112, 97, 113, 117, 101, 6, 233, 6, 99, 97, 99, 104, 101, 100, 9, 42, 95, 102, 114, 111, 122, 101, 110, 95, 105, 109, 112, 111, 114, 116, 108, 105, 98, 46, 77, 111, 100, 117, 108, 101, 83, 112, 101, 99, 46, 99, 97, 99, 104, 101, 100, 35, 111, 112, 97, 113, 117, 101, 6, 234, 6, 112, 97, 114, 101, 110, 116, 9, 42, 95, 102, 114, 111, 122, 101, 110, 95, 105, 109, 112, 111, 114, 116, 108, 105, 98, 46, 77, 111, 100, 117, 108, 101, 83, 112, 101, 99, 46, 112, 97, 114, 101, 110, 116, 35, 111, 112, 97, 113, 117, 101, 6, 235, 12, 104, 97, 115, 95, 108, 111, 99, 97, 116, 105, 111, 110, 9, 48, 95, 102, 114, 111, 122, 101, 110, 95, 105, 109, 112, 111, 114, 116, 108, 105, 98, 46, 77, 111, 100, 117, 108, 101, 83, 112, 101, 99, 46, 104, 97, 115, 95, 108, 111, 99, 97, 116, 105, 111, 110, 35, 111, 112, 97, 113, 117, 101, 6, 236, 21, 95, 95, 115, 116, 97, 116, 105, 99, 95, 97, 116, 116, 114, 105, 98, 117, 116, 101, 115, 95, 95, 4, 0, 0, 23, 6, 238, 8, 95, 95, 100, 105, 99, 116, 95, 95, 4, 0, 0, 24, 6, 240, 11, 95, 95, 119, 101, 97, 107, 114, 101, 102, 95, 95, 4, 0, 0, 25, 6, 241, 8, 95, 95, 104, 97, 115, 104, 95, 95, 0]⟩ 0), (.bool true), (.bool true), (.str "" 242)] 1), #[]⟩
noncomputable def o19 (P : Params) : Obj := ⟨(.type "list"), none, (.seq #[] 0), #[]⟩
noncomputable def o20 (P : Params) : Obj := ⟨(.type "dict"), none, (.dict #[de P "name" 208 (.str "_sre" 207), de P "loader" 209 (.ref 14), de P "origin" 210 (.str "built-in" 184), de P "loader_state" 211 .none, de P "submodule_search_locations" 212 .none, de P "_uninitialized_submodules" 213 (.ref 19), de P "_set_fileattr" 214 (.bool false), de P "_cached" 215 .none, de P "_initializing" 243 (.bool false)] 9), #[]⟩
noncomputable def o21 (P : Params) : Obj := ⟨(.type "dict"), none, (.dict #[de P "__module__" 227 (.str "_frozen_importlib" 217), de P "__firstlineno__" 228 (.int 562 218), de P "__doc__" 229 (.builtin "_frozen_importlib.ModuleSpec.__doc__:str#\x6fpaque"), de P "__init__" 230 (.builtin "_frozen_importlib.ModuleSpec.__init__#\x6fpaque"), de P "__repr__" 231 (.builtin "_frozen_importlib.ModuleSpec.__repr__#\x6fpaque"), de P "__eq__" 232 (.builtin "_frozen_importlib.ModuleSpec.__eq__#\x6fpaque"), de P "cached" 233 (.builtin "_frozen_importlib.ModuleSpec.cached#\x6fpaque"), de P "parent" 234 (.builtin "_frozen_importlib.ModuleSpec.parent#\x6fpaque"), de P "has_location" 235 (.builtin "_frozen_importlib.ModuleSpec.has_location#\x6fpaque"), de P "__static_attributes__" 236 (.ref 23), de P "__dict__" 238 (.ref 24), de P "__weakref__" 240 (.ref 25), de P "__hash__" 241 .none] 13), #[]⟩
noncomputable def o22 (P : Params) : Obj := ⟨(.type "type"), none, (.cls ⟨"ModuleSpec", [(.type "object")], [(.ref 22), (.type "object")], 21, "ModuleSpec", true, [], [], false, none, false⟩), #[]⟩
noncomputable def o23 (P : Params) : Obj := ⟨(.type "tuple"), none, (.seq #[(.str "_cached" 219), (.str "_set_fileattr" 220), (.str "_uninitialized_submodules" 221), (.str "loader" 222), (.str "loader_state" 223), (.str "name" 224), (.str "origin" 225), (.str "submodule_search_locations" 226)] 0), #[]⟩
noncomputable def o24 (P : Params) : Obj := ⟨(.type "getset_descriptor"), none, (.fields #[(.str "__dict__" 237), (.ref 22), (.builtin "function.__dict__"), (.builtin "function.__dict__#set")]), #[]⟩
noncomputable def o25 (P : Params) : Obj := ⟨(.type "getset_descriptor"), none, (.fields #[(.str "__weakref__" 239), (.ref 22), (.builtin "ExceptionGroup.__weakref__"), .none]), #[]⟩
noncomputable def o26 (P : Params) : Obj := ⟨(.ref 22), (some 20), .plain, #[]⟩
noncomputable def o27 (P : Params) : Obj := ⟨.none, none, (.seq #[(.int 11 0), (.str ⟨#[6, 247, 8, 95, 95, 110, 97, 109, 101, 95, 95, 6, 246, 4, 95, 115, 114, 101, 6, 248, 7, 95, 95, 100, 111, 99, 95, 95, 0, 6, 250, 11, 95, 95, 112, 97, 99, 107, 97, 103, 101, 95, 95, 6, 249, 0, 6, 251, 10, 95, 95, 108, 111, 97, 100, 101, 114, 95, 95, 4, 0, 0, 14, 6, 252, 8, 95, 95, 115, 112, 101, 99, 95, 95, 4, 0, 0, 26, 6, 253, 7, 99, 111, 109, 112, 105, 108, 101, 9, 12, 95, 115, 114, 101, 46, 99, 111, 109, 112, 105, 108, 101, 6, 254, 8, 116, 101, 109, 112, 108, 97, 116, 101, 9, 13, 95, 115, 114, 101, 46, 116, 101, 109, 112, 108, 97, 116, 101, 6, 255, 11, 103, 101, 116, 99, 111, 100, 101, 115, 105, 122, 101, 9, 16, 95, 115, 114, 101, 46, 103, 101, 116, 99, 111, 100, 101, 115, 105, 122, 101, 6, 256, 13, 97, 115, 99, 105, 105, 95, 105, 115, 99, 97, 115, 101, 100, 9, 18, 95, 115, 114, 101, 46, 97, 115, 99, 105, 105, 95, 105, 115, 99, 97, 115, 101, 100, 6, 257, 15, 117, 110, 105, 99, 111, 100, 101, 95, 105, 115, 99, 97, 115, 101, 100, 9, 20, 95, 115, 114, 101, 46, 117, 110, 105, 99, 111, 100, 101, 95, 105, 115, 99, 97, 115, 101, 100, 6, 258, 13, 97, 115, 99, 105, 105, 95, 116, 111, 108, 111, 119, 101, 114, 9, 18, 95, 115, 114, 101, 46, 97, 115, 99, 105, 105, 95, 116, 111, 108, 111, 119, 101, 114, 6, 259, 15, 117, 110, 105, 99, 111, 100, 101, 95, 116, 111, 108, 111, 119, 101, 114, 9, 20, 95, 115, 114, 101, 46, 117, 110, 105, 99, 111, 100, 101, 95, 116, 111, 108, 111, 119, 101, 114, 6, 261, 5, 77, 65, 71, 73, 67, 4, 260, 0, 20230612, 6, 263, 8, 67, 79, 68, 69, 83, 73, 90, 69, 4, 262, 0, 4, 6, 265, 9, 77, 65, 88, 82, 69, 80, 69, 65, 84, 4, 264, 0, 4294967295, 6, 267, 9, 77, 65, 88, 71, 82, 79, 85, 80, 83, 4, 266, 0, 1073741823, 6, 269, 9, 99, 111, 112, 121, 114, 105, 103, 104, 116, 6, 268, 53, 32, 83, 82, 69, 32, 50, 46, 50, 46, 50, 32, 67, 111, 112, 121, 114, 105, 103, 104, 116, 32, 40, 99, 41, 32, 49, 57, 57, 55, 45, 50, 48, 48, 50, 32, 98, 121, 32, 83, 101, 99, 114, 101, 116, 32, 76, 97, 98, 115, 32, 65, 66, 32]⟩ 0), (.bool true), (.bool false), (.str "_sre" 271), (.int 29 0), (.str ⟨#[6, 296, 8, 95, 95, 110, 97, 109, 101, 95, 95, 6, 295, 12, 95, 99, 111, 108, 108, 101, 99, 116, 105, 111, 110, 115, 6, 297, 7, 95, 95, 100, 111, 99, 95, 95, 9, 31, 95, 99, 111, 108, 108, 101, 99, 116, 105, 111, 110, 115, 46, 95, 95, 100, 111, 99, 95, 95, 58, 115, 116, 114, 35, 111, 112, 97, 113, 117, 101, 6, 299, 11, 95, 95, 112, 97, 99, 107, 97, 103, 101, 95, 95, 6, 298, 0, 6, 300, 10, 95, 95, 108, 111, 97, 100, 101, 114, 95, 95, 4, 0, 0, 14, 6, 301, 8, 95, 95, 115, 112, 101, 99, 95, 95, 4, 0, 0, 33, 6, 302, 15, 95, 99, 111, 117, 110, 116, 95, 101, 108, 101, 109, 101, 110, 116, 115, 9, 28, 95, 99, 111, 108, 108, 101, 99, 116, 105, 111, 110, 115, 46, 95, 99, 111, 117, 110, 116, 95, 101, 108, 101, 109, 101, 110, 116, 115, 6, 303, 5, 100, 101, 113, 117, 101, 8, 17, 99, 111, 108, 108, 101, 99, 116, 105, 111, 110, 115, 46, 100, 101, 113, 117, 101, 6, 304, 11, 100, 101, 102, 97, 117, 108, 116, 100, 105, 99, 116, 8, 23, 99, 111, 108, 108, 101, 99, 116, 105, 111, 110, 115, 46, 100, 101, 102, 97, 117, 108, 116, 100, 105, 99, 116, 6, 305, 15, 95, 100, 101, 113, 117, 101, 95, 105, 116, 101, 114, 97, 116, 111, 114, 8, 27, 99, 111, 108, 108, 101, 99, 116, 105, 111, 110, 115, 46, 95, 100, 101, 113, 117, 101, 95, 105, 116, 101, 114, 97, 116, 111, 114, 6, 306, 23, 95, 100, 101, 113, 117, 101, 95, 114, 101, 118, 101, 114, 115, 101, 95, 105, 116, 101, 114, 97, 116, 111, 114, 8, 35, 99, 111, 108, 108, 101, 99, 116, 105, 111, 110, 115, 46, 95, 100, 101, 113, 117, 101, 95, 114, 101, 118, 101, 114, 115, 101, 95, 105, 116, 101, 114, 97, 116, 111, 114, 6, 307, 12, 95, 116, 117, 112, 108, 101, 103, 101, 116, 116, 101, 114, 8, 24, 99, 111, 108, 108, 101, 99, 116, 105, 111, 110, 115, 46, 95, 116, 117, 112, 108, 101, 103, 101, 116, 116, 101, 114, 6, 308, 11, 79, 114, 100, 101, 114, 101, 100, 68, 105, 99, 116, 8, 23, 99, 111, 108, 108, 101, 99, 116, 105, 111, 110, 115, 46, 79, 114, 100, 101, 114, 101, 100, 68, 105, 99, 116]⟩ 0), (.bool true), (.bool false), (.str "_collections" 310)] 1), #[]⟩
noncomputable def o28 (P : Params) : Obj := ⟨(.type "tuple"), none, (.seq #[(.str "deque" 277)] 0), #[]⟩
noncomputable def o29 (P : Params) : Obj := ⟨(.type "dict"), none, (.dict #[de P "__name__" 296 (.str "_collections" 295), de P "__doc__" 297 (.builtin "_collections.__doc__:str#\x6fpaque"), de P "__package__" 299 (.str "" 298), de P "__loader__" 300 (.ref 14), de P "__spec__" 301 (.ref 33), de P "_count_elements" 302 (.builtin "_collections._count_elements"), de P "deque" 303 (.type "collections.deque"), de P "defaultdict" 304 (.type "collections.defaultdict"), de P "_deque_iterator" 305 (.type "collections._deque_iterator"), de P "_deque_reverse_iterator" 306 (.type "collections._deque_reverse_iterator"), de P "_tuplegetter" 307 (.type "collections._tuplegetter"), de P "OrderedDict" 308 (.type "collections.OrderedDict")] 12), #[]⟩
noncomputable def o30 (P : Params) : Obj := ⟨(.type "module"), (some 29), .plain, #[]⟩
noncomputable def o32 (P : Params) : Obj := ⟨(.type "dict"), none, (.dict #[de P "name" 283 (.str "_collections" 282), de P "loader" 284 (.ref 14), de P "origin" 285 (.str "built-in" 281), de P "loader_state" 286 .none, de P "submodule_search_locations" 287 .none, de P "_uninitialized_submodules" 288 (.ref 31), de P "_set_fileattr" 289 (.bool false), de P "_cached" 290 .none, de P "_initializing" 291 (.bool false)] 9), #[]⟩
noncomputable def o33 (P : Params) : Obj := ⟨(.ref 22), (some 32), .plain, #[]⟩
noncomputable def te (P : Params) : BT := (.node (o0 P) (.node (o1 P) (.node (o3 P) (.node (o7 P) (.node (o7 P) (.node (o19 P) .nil .nil) .nil) (.node (o23 P) .nil .nil)) (.node (o11 P) (.node (o19 P) .nil .nil) (.node (o27 P) .nil .nil))) (.node (o5 P) (.node (o9 P) (.node (o17 P) (.node (o33 P) .nil .nil) .nil) (.node (o25 P) .nil .nil)) (.node (o13 P) (.node (o21 P) .nil .nil) (.node (o29 P) .nil .nil)))) (.node (o2 P) (.node (o4 P) (.node (o8 P) (.node (o16 P) (.node (o32 P) .nil .nil) .nil) (.node (o24 P) .nil .nil)) (.node (o12 P) (.node (o20 P) .nil .nil) (.node (o28 P) .nil .nil))) (.node (o6 P) (.node (o10 P) (.node (o18 P) .nil .nil) (.node (o26 P) .nil .nil)) (.node (o14 P) (.node (o22 P) .nil .nil) (.node (o30 P) .nil .nil)))))
noncomputable def o11v32 (P : Params) : Obj := ⟨(.type "dict"), none, (.dict #[de P "__name__" 247 (.str "_sre" 246), de P "__doc__" 248 .none, de P "__package__" 250 (.str "" 249), de P "__loader__" 251 (.builtin "off-the-table:_sre.__loader__:shared#\x6fpaque"), de P "__spec__" 252 (.builtin "off-the-table:_sre.__spec__:shared#\x6fpaque"), de P "compile" 253 (.builtin "_sre.compile"), de P "template" 254 (.builtin "off-the-table:_sre.template:shared#\x6fpaque"), de P "getcodesize" 255 (.builtin "off-the-table:_sre.getcodesize:shared#\x6fpaque"), de P "ascii_iscased" 256 (.builtin "off-the-table:_sre.ascii_iscased:shared#\x6fpaque"), de P "unicode_iscased" 257 (.builtin "off-the-table:_sre.unicode_iscased:shared#\x6fpaque"), de P "ascii_tolower" 258 (.builtin "off-the-table:_sre.ascii_tolower:shared#\x6fpaque"), de P "unicode_tolower" 259 (.builtin "off-the-table:_sre.unicode_tolower:shared#\x6fpaque"), de P "MAGIC" 261 (.int 20230612 260), de P "CODESIZE" 263 (.int 4 262), de P "MAXREPEAT" 265 (.int 4294967295 264), de P "MAXGROUPS" 267 (.int 1073741823 266), de P "copyright" 269 (.str " SRE 2.2.2 Copyright (c) 1997-2002 by Secret Labs AB " 268)] 17), #[]⟩
noncomputable def o29v33 (P : Params) : Obj := ⟨(.type "dict"), none, (.dict #[de P "__name__" 296 (.str "_collections" 295), de P "__doc__" 297 (.builtin "off-the-table:_collections.__doc__:shared#\x6fpaque"), de P "__package__" 299 (.str "" 298), de P "__loader__" 300 (.builtin "off-the-table:_collections.__loader__:shared#\x6fpaque"), de P "__spec__" 301 (.builtin "off-the-table:_collections.__spec__:shared#\x6fpaque"), de P "_count_elements" 302 (.builtin "_collections._count_elements"), de P "deque" 303 (.type "collections.deque"), de P "defaultdict" 304 (.type "collections.defaultdict"), de P "_deque_iterator" 305 (.builtin "off-the-table:_collections._deque_iterator:shared#\x6fpaque"), de P "_deque_reverse_iterator" 306 (.builtin "off-the-table:_collections._deque_reverse_iterator:shared#\x6fpaque"), de P "_tuplegetter" 307 (.type "collections._tuplegetter"), de P "OrderedDict" 308 (.type "collections.OrderedDict")] 12), #[]⟩
noncomputable def t0 (P : Params) : BT := (.node (o0 P) (.node (o1 P) (.node (o3 P) (.node (o7 P) (.node (o7 P) (.node (o19 P) .nil .nil) .nil) (.node (o23 P) .nil .nil)) (.node (o11v32 P) (.node (o19 P) .nil .nil) (.node (o27 P) .nil .nil))) (.node (o5 P) (.node (o9 P) (.node (o17 P) (.node (o33 P) .nil .nil) .nil) (.node (o25 P) .nil .nil)) (.node (o13 P) (.node (o21 P) .nil .nil) (.node (o29v33 P) .nil .nil)))) (.node (o2 P) (.node (o4 P) (.node (o8 P) (.node (o16 P) (.node (o32 P) .nil .nil) .nil) (.node (o24 P) .nil .nil)) (.node (o12 P) (.node (o20 P) .nil .nil) (.node (o28 P) .nil .nil))) (.node (o6 P) (.node (o10 P) (.node (o18 P) .nil .nil) (.node (o26 P) .nil .nil)) (.node (o14 P) (.node (o22 P) .nil .nil) (.node (o30 P) .nil .nil)))))
noncomputable def o36 (P : Params) : Obj := ⟨(.type "code"), none, (.fields #[(.str "<module>" 319), (.str "<module>" 320), (.str "/claim/cut.py" 321), (.int 1 0), (.int 0 0), (.int 0 0), (.int 0 0), (.int 0 0), (.ref 34), (.bool false), (.int 318 0), (.ref 35), .none, .none, .none, .none, (.int 322 0), (.int 1 0), (.str "/claim/cut.py" 323)]), #[]⟩
noncomputable def o37 (P : Params) : Obj := ⟨(.type "frame"), none, .plain, #[some (.ref 36), some (.ref 3), some (.ref 3), none, some (.str "__main__" 164), none, some (.ref 0)]⟩
noncomputable def ta (P : Params) : BT := (.node (o0 P) (.node (o1 P) (.node (o3 P) (.node (o7 P) (.node (o7 P) (.node (o19 P) .nil .nil) .nil) (.node (o23 P) .nil .nil)) (.node (o11v32 P) (.node (o19 P) (.node (o8 P) .nil .nil) .nil) (.node (o27 P) .nil .nil))) (.node (o5 P) (.node (o9 P) (.node (o17 P) (.node (o33 P) .nil .nil) .nil) (.node (o25 P) .nil .nil)) (.node (o13 P) (.node (o21 P) (.node (o37 P) .nil .nil) .nil) (.node (o29v33 P) .nil .nil)))) (.node (o2 P) (.node (o4 P) (.node (o8 P) (.node (o16 P) (.node (o32 P) .nil .nil) .nil) (.node (o24 P) .nil .nil)) (.node (o12 P) (.node (o20 P) (.node (o36 P) .nil .nil) .nil) (.node (o28 P) .nil .nil))) (.node (o6 P) (.node (o10 P) (.node (o18 P) (.node (o7 P) .nil .nil) .nil) (.node (o26 P) .nil .nil)) (.node (o14 P) (.node (o22 P) .nil .nil) (.node (o30 P) .nil .nil)))))
noncomputable def o2v36 (P : Params) : Obj := ⟨.none, none, (.dict #[de P "\x69mport.loaded._sre" 183 (.bool true), de P "class._frozen_importlib.BuiltinImporter" 185 (.ref 14), de P "watched.\x69mport" 206 (.ref 18), de P "class._frozen_importlib.ModuleSpec" 216 (.ref 22), de P "sys.modules.booked-epoch" 245 (.int 4 0), de P "\x69mport.later-laid._sre" 270 (.bool true), de P "watched.library" 272 (.ref 27), de P "watched.library-objects" 0 (.str ⟨#[12, 30]⟩ 0), de P "watched.library-deep._sre" 273 (.str ⟨#[4, 0, 0, 11, 4, 0, 0, 11, 4, 0, 0, 3, 4, 0, 0, 11, 8, 4, 100, 105, 99, 116, 2]⟩ 0), de P "\x69mport.loaded._collections" 280 (.bool true), de P "sys.modules.landed._collections" 294 (.bool true), de P "\x69mport.later-laid._collections" 309 (.bool true), de P "watched.library-deep._collections" 311 (.str ⟨#[4, 0, 0, 29, 4, 0, 0, 29, 4, 0, 0, 3, 4, 0, 0, 29, 8, 4, 100, 105, 99, 116, 2]⟩ 0), de P "type.__subclasses__.OSError.0" 407 (.int 73 0), de P "type.__subclasses__.OSError.n" 408 (.int 1 0)] 15), #[]⟩
noncomputable def o3v37 (P : Params) : Obj := ⟨(.type "dict"), none, (.dict #[de P "__name__" 165 (.str "io" 371), de P "__doc__" 166 .none, de P "__package__" 167 .none, de P "__loader__" 168 (.builtin "__main__.__loader__#\x6fpaque"), de P "__spec__" 169 .none, de P "__annotations__" 170 (.ref 6), de P "__builtins__" 171 (.ref 4), de P "__file__" 173 (.str "/claim/cut.py" 172), de P "__cached__" 174 .none, de P "_sre" 275 (.ref 12), de P "deque" 317 (.type "collections.deque"), de P "_wall" 330 (.ref 44), de P "_twin_re_1" 370 (.ref 49), de P "_whence" 380 (.ref 56), de P "_index" 388 (.ref 63), de P "UnsupportedOperation" 410 (.ref 73), de P "IOBase" 442 (.ref 93), de P "BufferedIOBase" 460 (.ref 108), de P "TextIOBase" 478 (.ref 120)] 19), #[]⟩
noncomputable def o35 (P : Params) : Obj := ⟨.none, none, (.fields #[(.int 3 0), (.int 0 0), (.ref 43), (.int 8 0), (.int 0 0), (.ref 55), (.int 13 0), (.int 0 0), (.ref 62), (.int 20 0), (.int 0 0), (.ref 69), (.int 22 0), (.int 0 0), (.ref 82), (.int 29 0), (.int 0 0), (.ref 104), (.int 31 0), (.int 0 0), (.ref 116)]), #[]⟩
noncomputable def o40 (P : Params) : Obj := ⟨(.type "tuple"), none, (.seq #[(.str "k" 327)] 0), #[]⟩
noncomputable def o42 (P : Params) : Obj := ⟨.none, none, (.func (fd (st 2) "_wall" 0 .none .none .none .none none .none .none 0)), #[]⟩
noncomputable def o43 (P : Params) : Obj := ⟨(.type "code"), none, (.fields #[(.str "_wall" 324), (.str "_wall" 325), (.str "/claim/cut.py" 326), (.int 3 0), (.int 1 0), (.int 0 0), (.int 0 0), (.int 3 0), (.ref 38), (.bool true), (.int 318 0), (.ref 39), .none, (.ref 40), (.ref 41), (.ref 42), (.int 328 0), (.int 3 0), (.str "/claim/cut.py" 329)]), #[]⟩
noncomputable def o44 (P : Params) : Obj := ⟨(.type "function"), none, (.func (fd (st 2) "_wall" 3 .none .none .none (.str "__main__" 164) none (.ref 43) .none 0)), #[]⟩
noncomputable def o45 (P : Params) : Obj := ⟨(.type "list"), none, (.seq #[(.int 14 334), (.int 17 335), (.int 4 336), (.int 1 337), (.int 1 338), (.int 21 339), (.int 9 340), (.int 0 341), (.int 604043296 342), (.int 1 343), (.int 0 344), (.int 0 345), (.int 0 346), (.int 0 347), (.int 0 348), (.int 8 349), (.int 4 350), (.int 0 351), (.int 13 352), (.int 14 353), (.int 21 354), (.int 9 355), (.int 0 356), (.int 604043296 357), (.int 1 358), (.int 0 359), (.int 0 360), (.int 0 361), (.int 0 362), (.int 0 363), (.int 8 364), (.int 4 365), (.int 0 366), (.int 1 367)] 0), #[]⟩
noncomputable def o47 (P : Params) : Obj := ⟨(.type "tuple"), none, (.seq #[.none] 0), #[]⟩
noncomputable def o48 (P : Params) : Obj := ⟨(.type "tuple"), none, (.seq #[(.int 14 0), (.int 17 0), (.int 4 0), (.int 1 0), (.int 1 0), (.int 21 0), (.int 9 0), (.int 0 0), (.int 604043296 0), (.int 1 0), (.int 0 0), (.int 0 0), (.int 0 0), (.int 0 0), (.int 0 0), (.int 8 0), (.int 4 0), (.int 0 0), (.int 13 0), (.int 14 0), (.int 21 0), (.int 9 0), (.int 0 0), (.int 604043296 0), (.int 1 0), (.int 0 0), (.int 0 0), (.int 0 0), (.int 0 0), (.int 0 0), (.int 8 0), (.int 4 0), (.int 0 0), (.int 1 0)] 0), #[]⟩
noncomputable def o49 (P : Params) : Obj := ⟨(.type "re.Pattern"), none, (.fields #[(.str "[^\\w@%+=:,./-]" 332), (.int 256 369), (.int 0 0), .none, .none, (.ref 48), (.int 0 0)]), #[]⟩
noncomputable def o52 (P : Params) : Obj := ⟨(.type "tuple"), none, (.seq #[(.str "n" 376), (.str "what" 377)] 0), #[]⟩
noncomputable def o54 (P : Params) : Obj := ⟨.none, none, (.func (fd (st 5) "_whence" 0 .none .none .none .none none .none .none 0)), #[]⟩
noncomputable def o55 (P : Params) : Obj := ⟨(.type "code"), none, (.fields #[(.str "_whence" 373), (.str "_whence" 374), (.str "/claim/cut.py" 375), (.int 8 0), (.int 2 0), (.int 0 0), (.int 0 0), (.int 3 0), (.ref 50), (.bool true), (.int 318 0), (.ref 51), .none, (.ref 52), (.ref 53), (.ref 54), (.int 378 0), (.int 8 0), (.str "/claim/cut.py" 379)]), #[]⟩
noncomputable def o56 (P : Params) : Obj := ⟨(.type "function"), none, (.func (fd (st 5) "_whence" 3 .none .none .none (.str "io" 371) none (.ref 55) .none 0)), #[]⟩
noncomputable def o59 (P : Params) : Obj := ⟨(.type "tuple"), none, (.seq #[(.str "n" 384), (.str "what" 385)] 0), #[]⟩
noncomputable def o61 (P : Params) : Obj := ⟨.none, none, (.func (fd (st 6) "_index" 0 .none .none .none .none none .none .none 0)), #[]⟩
noncomputable def o62 (P : Params) : Obj := ⟨(.type "code"), none, (.fields #[(.str "_index" 381), (.str "_index" 382), (.str "/claim/cut.py" 383), (.int 13 0), (.int 2 0), (.int 0 0), (.int 0 0), (.int 3 0), (.ref 57), (.bool true), (.int 318 0), (.ref 58), .none, (.ref 59), (.ref 60), (.ref 61), (.int 386 0), (.int 13 0), (.str "/claim/cut.py" 387)]), #[]⟩
noncomputable def o63 (P : Params) : Obj := ⟨(.type "function"), none, (.func (fd (st 6) "_index" 3 .none .none .none (.str "io" 371) none (.ref 62) .none 0)), #[]⟩
noncomputable def o64 (P : Params) : Obj := ⟨(.type "tuple"), none, (.seq #[(.type "OSError"), (.type "ValueError")] 0), #[]⟩
noncomputable def o65 (P : Params) : Obj := ⟨(.type "builtin_function_or_method"), none, (.fields #[(.builtin "type.__prepare__"), (.type "type")]), #[]⟩
noncomputable def o66 (P : Params) : Obj := ⟨(.type "dict"), none, (.dict #[de P "__module__" 396 (.str "io" 401), de P "__qualname__" 398 (.str "UnsupportedOperation" 397), de P "__firstlineno__" 400 (.int 20 399), de P "__static_attributes__" 403 (.ref 71)] 4), #[]⟩
noncomputable def o69 (P : Params) : Obj := ⟨(.type "code"), none, (.fields #[(.str "UnsupportedOperation" 391), (.str "UnsupportedOperation" 392), (.str "/claim/cut.py" 393), (.int 20 0), (.int 0 0), (.int 0 0), (.int 0 0), (.int 0 0), (.ref 67), (.bool false), (.int 318 0), (.ref 68), .none, .none, .none, .none, (.int 394 0), (.int 20 0), (.str "/claim/cut.py" 395)]), #[]⟩
noncomputable def o70 (P : Params) : Obj := ⟨(.type "frame"), none, .plain, #[some (.ref 69), some (.ref 3), some (.ref 66), none, some (.str "io" 371), none, some (.ref 0)]⟩
noncomputable def o72 (P : Params) : Obj := ⟨(.type "dict"), none, (.dict #[de P "__module__" 396 (.str "io" 401), de P "__firstlineno__" 400 (.int 20 399), de P "__static_attributes__" 403 (.ref 71), de P "__weakref__" 405 (.ref 74), de P "__doc__" 406 .none] 3), #[]⟩
noncomputable def o73 (P : Params) : Obj := ⟨(.type "type"), none, (.cls ⟨"UnsupportedOperation", [(.type "OSError"), (.type "ValueError")], [(.ref 73), (.type "OSError"), (.type "ValueError"), (.type "Exception"), (.type "BaseException"), (.type "object")], 72, "UnsupportedOperation", true, [], [], false, none, false⟩), #[some (.ref 64), none, some (.str "UnsupportedOperation" 389), some (.str "UnsupportedOperation" 397), some (.builtin "OSError.__new__"), some (.bool true)]⟩
noncomputable def o74 (P : Params) : Obj := ⟨(.type "getset_descriptor"), none, (.fields #[(.str "__weakref__" 404), (.ref 73), (.builtin "ExceptionGroup.__weakref__"), .none]), #[]⟩
noncomputable def o75 (P : Params) : Obj := ⟨(.type "super"), none, (.fields #[(.ref 73), (.ref 73), (.ref 73)]), #[]⟩
noncomputable def o76 (P : Params) : Obj := ⟨(.type "builtin_function_or_method"), none, (.fields #[(.builtin "object.__init_subclass__"), (.ref 73)]), #[]⟩
noncomputable def o79 (P : Params) : Obj := ⟨(.type "dict"), none, (.dict #[de P "__module__" 418 (.str "io" 423), de P "__qualname__" 420 (.str "IOBase" 419), de P "__firstlineno__" 422 (.int 22 421), de P "__new__" 433 (.ref 90), de P "__static_attributes__" 434 (.ref 91)] 5), #[]⟩
noncomputable def o81 (P : Params) : Obj := ⟨.none, none, (.fields #[(.int 25 0), (.int 4 0), (.ref 89)]), #[]⟩
noncomputable def o82 (P : Params) : Obj := ⟨(.type "code"), none, (.fields #[(.str "IOBase" 413), (.str "IOBase" 414), (.str "/claim/cut.py" 415), (.int 22 0), (.int 0 0), (.int 0 0), (.int 0 0), (.int 0 0), (.ref 80), (.bool false), (.int 318 0), (.ref 81), .none, .none, .none, .none, (.int 416 0), (.int 22 0), (.str "/claim/cut.py" 417)]), #[]⟩
noncomputable def o83 (P : Params) : Obj := ⟨(.type "frame"), none, .plain, #[some (.ref 82), some (.ref 3), some (.ref 79), none, some (.str "io" 371), none, some (.ref 0)]⟩
noncomputable def o86 (P : Params) : Obj := ⟨(.type "tuple"), none, (.seq #[(.str "cls" 428), (.str "args" 429), (.str "kwargs" 430)] 0), #[]⟩
noncomputable def o88 (P : Params) : Obj := ⟨.none, none, (.func (fd (sm 8 1) "IOBase.__new__" 0 .none .none .none .none none .none .none 0)), #[]⟩
noncomputable def o89 (P : Params) : Obj := ⟨(.type "code"), none, (.fields #[(.str "__new__" 425), (.str "IOBase.__new__" 426), (.str "/claim/cut.py" 427), (.int 25 0), (.int 1 0), (.int 1 0), (.int 0 0), (.int 15 0), (.ref 84), (.bool true), (.int 318 0), (.ref 85), .none, (.ref 86), (.ref 87), (.ref 88), (.int 431 0), (.int 25 0), (.str "/claim/cut.py" 432)]), #[]⟩
noncomputable def o90 (P : Params) : Obj := ⟨(.type "function"), none, (.func (fd (sm 8 1) "IOBase.__new__" 3 .none .none .none (.str "io" 371) none (.ref 89) .none 0)), #[]⟩
noncomputable def o92 (P : Params) : Obj := ⟨(.type "dict"), none, (.dict #[de P "__module__" 418 (.str "io" 423), de P "__firstlineno__" 422 (.int 22 421), de P "__new__" 433 (.ref 94), de P "__static_attributes__" 434 (.ref 91), de P "__dict__" 437 (.ref 95), de P "__weakref__" 439 (.ref 96), de P "__doc__" 440 .none] 4), #[]⟩
noncomputable def o93 (P : Params) : Obj := ⟨(.type "type"), none, (.cls ⟨"IOBase", [(.type "object")], [(.ref 93), (.type "object")], 92, "IOBase", true, [], [(.ref 108), (.ref 120)], false, none, false⟩), #[none, none, some (.str "IOBase" 411), some (.str "IOBase" 419), some .none, some (.bool true)]⟩
noncomputable def o94 (P : Params) : Obj := ⟨(.type "staticmethod"), none, (.fields #[(.ref 90)]), #[]⟩
noncomputable def o95 (P : Params) : Obj := ⟨(.type "getset_descriptor"), none, (.fields #[(.str "__dict__" 436), (.ref 93), (.builtin "function.__dict__"), (.builtin "function.__dict__#set")]), #[]⟩
noncomputable def o96 (P : Params) : Obj := ⟨(.type "getset_descriptor"), none, (.fields #[(.str "__weakref__" 438), (.ref 93), (.builtin "ExceptionGroup.__weakref__"), .none]), #[]⟩
noncomputable def o97 (P : Params) : Obj := ⟨(.type "super"), none, (.fields #[(.ref 93), (.ref 93), (.ref 93)]), #[]⟩
noncomputable def o98 (P : Params) : Obj := ⟨(.type "builtin_function_or_method"), none, (.fields #[(.builtin "object.__init_subclass__"), (.ref 93)]), #[]⟩
noncomputable def o99 (P : Params) : Obj := ⟨(.type "tuple"), none, (.seq #[(.ref 93)] 0), #[]⟩
noncomputable def o101 (P : Params) : Obj := ⟨(.type "dict"), none, (.dict #[de P "__module__" 450 (.str "io" 455), de P "__qualname__" 452 (.str "BufferedIOBase" 451), de P "__firstlineno__" 454 (.int 29 453), de P "__static_attributes__" 457 (.ref 106)] 4), #[]⟩
noncomputable def o104 (P : Params) : Obj := ⟨(.type "code"), none, (.fields #[(.str "BufferedIOBase" 445), (.str "BufferedIOBase" 446), (.str "/claim/cut.py" 447), (.int 29 0), (.int 0 0), (.int 0 0), (.int 0 0), (.int 0 0), (.ref 102), (.bool false), (.int 318 0), (.ref 103), .none, .none, .none, .none, (.int 448 0), (.int 29 0), (.str "/claim/cut.py" 449)]), #[]⟩
noncomputable def o105 (P : Params) : Obj := ⟨(.type "frame"), none, .plain, #[some (.ref 104), some (.ref 3), some (.ref 101), none, some (.str "io" 371), none, some (.ref 0)]⟩
noncomputable def o107 (P : Params) : Obj := ⟨(.type "dict"), none, (.dict #[de P "__module__" 450 (.str "io" 455), de P "__firstlineno__" 454 (.int 29 453), de P "__static_attributes__" 457 (.ref 106), de P "__doc__" 458 .none] 2), #[]⟩
noncomputable def o108 (P : Params) : Obj := ⟨(.type "type"), none, (.cls ⟨"BufferedIOBase", [(.ref 93)], [(.ref 108), (.ref 93), (.type "object")], 107, "BufferedIOBase", true, [], [], false, none, false⟩), #[some (.ref 99), none, some (.str "BufferedIOBase" 443), some (.str "BufferedIOBase" 451), some .none, some (.bool true)]⟩
noncomputable def o109 (P : Params) : Obj := ⟨(.type "super"), none, (.fields #[(.ref 108), (.ref 108), (.ref 108)]), #[]⟩
noncomputable def o110 (P : Params) : Obj := ⟨(.type "builtin_function_or_method"), none, (.fields #[(.builtin "object.__init_subclass__"), (.ref 108)]), #[]⟩
noncomputable def o113 (P : Params) : Obj := ⟨(.type "dict"), none, (.dict #[de P "__module__" 468 (.str "io" 473), de P "__qualname__" 470 (.str "TextIOBase" 469), de P "__firstlineno__" 472 (.int 31 471), de P "__static_attributes__" 475 (.ref 118)] 4), #[]⟩
noncomputable def o116 (P : Params) : Obj := ⟨(.type "code"), none, (.fields #[(.str "TextIOBase" 463), (.str "TextIOBase" 464), (.str "/claim/cut.py" 465), (.int 31 0), (.int 0 0), (.int 0 0), (.int 0 0), (.int 0 0), (.ref 114), (.bool false), (.int 318 0), (.ref 115), .none, .none, .none, .none, (.int 466 0), (.int 31 0), (.str "/claim/cut.py" 467)]), #[]⟩
noncomputable def o117 (P : Params) : Obj := ⟨(.type "frame"), none, .plain, #[some (.ref 116), some (.ref 3), some (.ref 113), none, some (.str "io" 371), none, some (.ref 0)]⟩
noncomputable def o119 (P : Params) : Obj := ⟨(.type "dict"), none, (.dict #[de P "__module__" 468 (.str "io" 473), de P "__firstlineno__" 472 (.int 31 471), de P "__static_attributes__" 475 (.ref 118), de P "__doc__" 476 .none] 2), #[]⟩
noncomputable def o120 (P : Params) : Obj := ⟨(.type "type"), none, (.cls ⟨"TextIOBase", [(.ref 93)], [(.ref 120), (.ref 93), (.type "object")], 119, "TextIOBase", true, [], [], false, none, false⟩), #[some (.ref 111), none, some (.str "TextIOBase" 461), some (.str "TextIOBase" 469), some .none, some (.bool true)]⟩
noncomputable def o121 (P : Params) : Obj := ⟨(.type "super"), none, (.fields #[(.ref 120), (.ref 120), (.ref 120)]), #[]⟩
noncomputable def o122 (P : Params) : Obj := ⟨(.type "builtin_function_or_method"), none, (.fields #[(.builtin "object.__init_subclass__"), (.ref 120)]), #[]⟩
noncomputable def t1 (P : Params) : BT := (.node (o0 P) (.node (o1 P) (.node (o3v37 P) (.node (o7 P) (.node (o7 P) (.node (o19 P) (.node (o63 P) .nil .nil) (.node (o95 P) .nil .nil)) (.node (o47 P) (.node (o79 P) .nil .nil) (.node (o99 P) .nil .nil))) (.node (o23 P) (.node (o8 P) (.node (o7 P) .nil .nil) (.node (o8 P) .nil .nil)) (.node (o55 P) (.node (o7 P) .nil .nil) (.node (o119 P) .nil .nil)))) (.node (o11v32 P) (.node (o19 P) (.node (o35 P) (.node (o7 P) .nil .nil) (.node (o99 P) .nil .nil)) (.node (o8 P) (.node (o83 P) .nil .nil) (.node (o8 P) .nil .nil))) (.node (o27 P) (.node (o43 P) (.node (o75 P) .nil .nil) (.node (o107 P) .nil .nil)) (.node (o59 P) (.node (o7 P) .nil .nil) .nil)))) (.node (o5 P) (.node (o9 P) (.node (o17 P) (.node (o33 P) (.node (o65 P) .nil .nil) (.node (o97 P) .nil .nil)) (.node (o49 P) (.node (o81 P) .nil .nil) (.node (o113 P) .nil .nil))) (.node (o25 P) (.node (o7 P) (.node (o73 P) .nil .nil) (.node (o105 P) .nil .nil)) (.node (o7 P) (.node (o89 P) .nil .nil) (.node (o121 P) .nil .nil)))) (.node (o13 P) (.node (o21 P) (.node (o37 P) (.node (o69 P) .nil .nil) (.node (o101 P) .nil .nil)) (.node (o7 P) (.node (o8 P) .nil .nil) (.node (o117 P) .nil .nil))) (.node (o29v33 P) (.node (o45 P) (.node (o7 P) .nil .nil) (.node (o109 P) .nil .nil)) (.node (o61 P) (.node (o93 P) .nil .nil) .nil))))) (.node (o2v36 P) (.node (o4 P) (.node (o8 P) (.node (o16 P) (.node (o32 P) (.node (o64 P) .nil .nil) (.node (o96 P) .nil .nil)) (.node (o48 P) (.node (o7 P) .nil .nil) (.node (o65 P) .nil .nil))) (.node (o24 P) (.node (o40 P) (.node (o72 P) .nil .nil) (.node (o104 P) .nil .nil)) (.node (o56 P) (.node (o88 P) .nil .nil) (.node (o120 P) .nil .nil)))) (.node (o12 P) (.node (o20 P) (.node (o36 P) (.node (o8 P) .nil .nil) (.node (o65 P) .nil .nil)) (.node (o52 P) (.node (o7 P) .nil .nil) (.node (o116 P) .nil .nil))) (.node (o28 P) (.node (o44 P) (.node (o76 P) .nil .nil) (.node (o108 P) .nil .nil)) (.node (o7 P) (.node (o92 P) .nil .nil) .nil)))) (.node (o6 P) (.node (o10 P) (.node (o18 P) (.node (o7 P) (.node (o66 P) .nil .nil) (.node (o98 P) .nil .nil)) (.node (o7 P) (.node (o82 P) .nil .nil) (.node (o7 P) .nil .nil))) (.node (o26 P) (.node (o42 P) (.node (o74 P) .nil .nil) (.node (o7 P) .nil .nil)) (.node (o8 P) (.node (o90 P) .nil .nil) (.node (o122 P) .nil .nil)))) (.node (o14 P) (.node (o22 P) (.node (o7 P) (.node (o70 P) .nil .nil) (.node (o7 P) .nil .nil)) (.node (o54 P) (.node (o86 P) .nil .nil) (.node (o7 P) .nil .nil))) (.node (o30 P) (.node (o6 P) (.node (o65 P) .nil .nil) (.node (o110 P) .nil .nil)) (.node (o62 P) (.node (o94 P) .nil .nil) .nil))))))
noncomputable def o3v95 (P : Params) : Obj := ⟨(.type "dict"), none, (.dict #[de P "__name__" 165 (.str "io" 371), de P "__doc__" 166 .none, de P "__package__" 167 .none, de P "__loader__" 168 (.builtin "__main__.__loader__#\x6fpaque"), de P "__spec__" 169 .none, de P "__annotations__" 170 (.ref 6), de P "__builtins__" 171 (.ref 4), de P "__file__" 173 (.str "/claim/cut.py" 172), de P "__cached__" 174 .none, de P "_sre" 275 (.ref 12), de P "deque" 317 (.type "collections.deque"), de P "_wall" 330 (.ref 44), de P "_twin_re_1" 370 (.ref 49), de P "_whence" 380 (.ref 56), de P "_index" 388 (.ref 63), de P "UnsupportedOperation" 410 (.ref 73), de P "IOBase" 442 (.ref 93), de P "BufferedIOBase" 460 (.ref 108), de P "TextIOBase" 478 (.ref 120), de P "BytesIO" 740 (.ref 350)] 20), #[]⟩
noncomputable def o35v96 (P : Params) : Obj := ⟨.none, none, (.fields #[(.int 3 0), (.int 0 0), (.ref 43), (.int 8 0), (.int 0 0), (.ref 55), (.int 13 0), (.int 0 0), (.ref 62), (.int 20 0), (.int 0 0), (.ref 69), (.int 22 0), (.int 0 0), (.ref 82), (.int 29 0), (.int 0 0), (.ref 104), (.int 31 0), (.int 0 0), (.ref 116), (.int 33 0), (.int 0 0), (.ref 128)]), #[]⟩
noncomputable def o108v97 (P : Params) : Obj := ⟨(.type "type"), none, (.cls ⟨"BufferedIOBase", [(.ref 93)], [(.ref 108), (.ref 93), (.type "object")], 107, "BufferedIOBase", true, [], [(.ref 350)], false, none, false⟩), #[some (.ref 99), none, some (.str "BufferedIOBase" 443), some (.str "BufferedIOBase" 451), some .none, some (.bool true)]⟩
noncomputable def o123 (P : Params) : Obj := ⟨(.type "tuple"), none, (.seq #[(.ref 108)] 0), #[]⟩
noncomputable def o125 (P : Params) : Obj := ⟨(.type "dict"), none, (.dict #[de P "__module__" 486 (.str "_io" 491), de P "__qualname__" 488 (.str "BytesIO" 487), de P "__firstlineno__" 490 (.int 33 489), de P "__init__" 500 (.ref 137), de P "_BytesIO__check" 507 (.ref 144), de P "_BytesIO__line" 518 (.ref 151), de P "closed" 526 (.ref 159), de P "close" 533 (.ref 166), de P "__enter__" 540 (.ref 173), de P "__exit__" 548 (.ref 180), de P "readable" 555 (.ref 187), de P "writable" 562 (.ref 194), de P "seekable" 569 (.ref 201), de P "isatty" 576 (.ref 208), de P "flush" 583 (.ref 215), de P "fileno" 590 (.ref 222), de P "detach" 597 (.ref 229), de P "getvalue" 604 (.ref 236), de P "getbuffer" 611 (.ref 243), de P "tell" 618 (.ref 250), de P "seek" 628 (.ref 258), de P "truncate" 636 (.ref 266), de P "read" 648 (.ref 274), de P "read1" 658 (.ref 282), de P "readinto" 668 (.ref 289), de P "readinto1" 676 (.ref 296), de P "readline" 686 (.ref 304), de P "readlines" 694 (.ref 312), de P "__iter__" 701 (.ref 319), de P "__next__" 709 (.ref 326), de P "write" 719 (.ref 333), de P "writelines" 727 (.ref 340), de P "__repr__" 734 (.ref 347), de P "__static_attributes__" 737 (.ref 348)] 34), #[]⟩
noncomputable def o127 (P : Params) : Obj := ⟨.none, none, (.fields #[(.int 36 0), (.int 4 0), (.ref 136), (.int 42 0), (.int 4 0), (.ref 143), (.int 46 0), (.int 4 0), (.ref 150), (.int 60 0), (.int 4 0), (.ref 157), (.int 63 0), (.int 4 0), (.ref 165), (.int 66 0), (.int 4 0), (.ref 172), (.int 70 0), (.int 4 0), (.ref 179), (.int 73 0), (.int 4 0), (.ref 186), (.int 77 0), (.int 4 0), (.ref 193), (.int 81 0), (.int 4 0), (.ref 200), (.int 85 0), (.int 4 0), (.ref 207), (.int 89 0), (.int 4 0), (.ref 214), (.int 92 0), (.int 4 0), (.ref 221), (.int 95 0), (.int 4 0), (.ref 228), (.int 98 0), (.int 4 0), (.ref 235), (.int 101 0), (.int 4 0), (.ref 242), (.int 104 0), (.int 4 0), (.ref 249), (.int 108 0), (.int 4 0), (.ref 257), (.int 125 0), (.int 4 0), (.ref 265), (.int 128 0), (.int 4 0), (.ref 273), (.int 142 0), (.int 4 0), (.ref 281), (.int 145 0), (.int 4 0), (.ref 288), (.int 159 0), (.int 4 0), (.ref 295), (.int 162 0), (.int 4 0), (.ref 303), (.int 169 0), (.int 4 0), (.ref 311), (.int 172 0), (.int 4 0), (.ref 318), (.int 175 0), (.int 4 0), (.ref 325), (.int 182 0), (.int 4 0), (.ref 332), (.int 198 0), (.int 4 0), (.ref 339), (.int 201 0), (.int 4 0), (.ref 346)]), #[]⟩
noncomputable def o128 (P : Params) : Obj := ⟨(.type "code"), none, (.fields #[(.str "BytesIO" 481), (.str "BytesIO" 482), (.str "/claim/cut.py" 483), (.int 33 0), (.int 0 0), (.int 0 0), (.int 0 0), (.int 0 0), (.ref 126), (.bool false), (.int 318 0), (.ref 127), .none, .none, .none, .none, (.int 484 0), (.int 33 0), (.str "/claim/cut.py" 485)]), #[]⟩
noncomputable def o129 (P : Params) : Obj := ⟨(.type "frame"), none, .plain, #[some (.ref 128), some (.ref 3), some (.ref 125), none, some (.str "io" 371), none, some (.ref 0)]⟩
noncomputable def o133 (P : Params) : Obj := ⟨(.type "tuple"), none, (.seq #[(.str "self" 496), (.str "initial_bytes" 497)] 0), #[]⟩
noncomputable def o135 (P : Params) : Obj := ⟨.none, none, (.func (fd (sm 11 1) "BytesIO.__init__" 0 .none .none .none .none none .none .none 0)), #[]⟩
noncomputable def o136 (P : Params) : Obj := ⟨(.type "code"), none, (.fields #[(.str "__init__" 493), (.str "BytesIO.__init__" 494), (.str "/claim/cut.py" 495), (.int 36 0), (.int 2 0), (.int 0 0), (.int 0 0), (.int 3 0), (.ref 131), (.bool true), (.int 318 0), (.ref 132), .none, (.ref 133), (.ref 134), (.ref 135), (.int 498 0), (.int 36 0), (.str "/claim/cut.py" 499)]), #[]⟩
noncomputable def o137 (P : Params) : Obj := ⟨(.type "function"), none, (.func (fd (sm 11 1) "BytesIO.__init__" 3 (.ref 130) .none .none (.str "io" 371) none (.ref 136) .none 0)), #[]⟩
noncomputable def o140 (P : Params) : Obj := ⟨(.type "tuple"), none, (.seq #[(.str "self" 504)] 0), #[]⟩
noncomputable def o142 (P : Params) : Obj := ⟨.none, none, (.func (fd (sm 11 2) "BytesIO.__check" 0 .none .none .none .none none .none .none 0)), #[]⟩
noncomputable def o143 (P : Params) : Obj := ⟨(.type "code"), none, (.fields #[(.str "__check" 501), (.str "BytesIO.__check" 502), (.str "/claim/cut.py" 503), (.int 42 0), (.int 1 0), (.int 0 0), (.int 0 0), (.int 3 0), (.ref 138), (.bool true), (.int 318 0), (.ref 139), .none, (.ref 140), (.ref 141), (.ref 142), (.int 505 0), (.int 42 0), (.str "/claim/cut.py" 506)]), #[]⟩
noncomputable def o144 (P : Params) : Obj := ⟨(.type "function"), none, (.func (fd (sm 11 2) "BytesIO.__check" 3 .none .none .none (.str "io" 371) none (.ref 143) .none 0)), #[]⟩
noncomputable def o147 (P : Params) : Obj := ⟨(.type "tuple"), none, (.seq #[(.str "self" 511), (.str "limit" 512), (.str "start" 513), (.str "stop" 514), (.str "i" 515)] 0), #[]⟩
noncomputable def o149 (P : Params) : Obj := ⟨.none, none, (.func (fd (sm 11 3) "BytesIO.__line" 0 .none .none .none .none none .none .none 0)), #[]⟩
noncomputable def o150 (P : Params) : Obj := ⟨(.type "code"), none, (.fields #[(.str "__line" 508), (.str "BytesIO.__line" 509), (.str "/claim/cut.py" 510), (.int 46 0), (.int 2 0), (.int 0 0), (.int 0 0), (.int 3 0), (.ref 145), (.bool true), (.int 318 0), (.ref 146), .none, (.ref 147), (.ref 148), (.ref 149), (.int 516 0), (.int 46 0), (.str "/claim/cut.py" 517)]), #[]⟩
noncomputable def o151 (P : Params) : Obj := ⟨(.type "function"), none, (.func (fd (sm 11 3) "BytesIO.__line" 3 .none .none .none (.str "io" 371) none (.ref 150) .none 0)), #[]⟩
noncomputable def o154 (P : Params) : Obj := ⟨(.type "tuple"), none, (.seq #[(.str "self" 522)] 0), #[]⟩
noncomputable def o156 (P : Params) : Obj := ⟨.none, none, (.func (fd (sm 11 4) "BytesIO.closed" 0 .none .none .none .none none .none .none 0)), #[]⟩
noncomputable def o157 (P : Params) : Obj := ⟨(.type "code"), none, (.fields #[(.str "closed" 519), (.str "BytesIO.closed" 520), (.str "/claim/cut.py" 521), (.int 59 0), (.int 1 0), (.int 0 0), (.int 0 0), (.int 3 0), (.ref 152), (.bool true), (.int 318 0), (.ref 153), .none, (.ref 154), (.ref 155), (.ref 156), (.int 523 0), (.int 59 0), (.str "/claim/cut.py" 524)]), #[]⟩
noncomputable def o158 (P : Params) : Obj := ⟨(.type "function"), none, (.func (fd (sm 11 4) "BytesIO.closed" 3 .none .none .none (.str "io" 371) none (.ref 157) .none 0)), #[]⟩
noncomputable def o159 (P : Params) : Obj := ⟨(.type "property"), none, (.fields #[(.ref 158), .none, .none, .none, (.str "closed" 526), (.bool false)]), #[]⟩
noncomputable def o162 (P : Params) : Obj := ⟨(.type "tuple"), none, (.seq #[(.str "self" 530)] 0), #[]⟩
noncomputable def o164 (P : Params) : Obj := ⟨.none, none, (.func (fd (sm 11 5) "BytesIO.close" 0 .none .none .none .none none .none .none 0)), #[]⟩
noncomputable def o165 (P : Params) : Obj := ⟨(.type "code"), none, (.fields #[(.str "close" 527), (.str "BytesIO.close" 528), (.str "/claim/cut.py" 529), (.int 63 0), (.int 1 0), (.int 0 0), (.int 0 0), (.int 3 0), (.ref 160), (.bool true), (.int 318 0), (.ref 161), .none, (.ref 162), (.ref 163), (.ref 164), (.int 531 0), (.int 63 0), (.str "/claim/cut.py" 532)]), #[]⟩
noncomputable def o166 (P : Params) : Obj := ⟨(.type "function"), none, (.func (fd (sm 11 5) "BytesIO.close" 3 .none .none .none (.str "io" 371) none (.ref 165) .none 0)), #[]⟩
noncomputable def o169 (P : Params) : Obj := ⟨(.type "tuple"), none, (.seq #[(.str "self" 537)] 0), #[]⟩
noncomputable def o171 (P : Params) : Obj := ⟨.none, none, (.func (fd (sm 11 6) "BytesIO.__enter__" 0 .none .none .none .none none .none .none 0)), #[]⟩
noncomputable def o172 (P : Params) : Obj := ⟨(.type "code"), none, (.fields #[(.str "__enter__" 534), (.str "BytesIO.__enter__" 535), (.str "/claim/cut.py" 536), (.int 66 0), (.int 1 0), (.int 0 0), (.int 0 0), (.int 3 0), (.ref 167), (.bool true), (.int 318 0), (.ref 168), .none, (.ref 169), (.ref 170), (.ref 171), (.int 538 0), (.int 66 0), (.str "/claim/cut.py" 539)]), #[]⟩
noncomputable def o173 (P : Params) : Obj := ⟨(.type "function"), none, (.func (fd (sm 11 6) "BytesIO.__enter__" 3 .none .none .none (.str "io" 371) none (.ref 172) .none 0)), #[]⟩
noncomputable def o176 (P : Params) : Obj := ⟨(.type "tuple"), none, (.seq #[(.str "self" 544), (.str "args" 545)] 0), #[]⟩
noncomputable def o178 (P : Params) : Obj := ⟨.none, none, (.func (fd (sm 11 7) "BytesIO.__exit__" 0 .none .none .none .none none .none .none 0)), #[]⟩
noncomputable def o179 (P : Params) : Obj := ⟨(.type "code"), none, (.fields #[(.str "__exit__" 541), (.str "BytesIO.__exit__" 542), (.str "/claim/cut.py" 543), (.int 70 0), (.int 1 0), (.int 0 0), (.int 0 0), (.int 7 0), (.ref 174), (.bool true), (.int 318 0), (.ref 175), .none, (.ref 176), (.ref 177), (.ref 178), (.int 546 0), (.int 70 0), (.str "/claim/cut.py" 547)]), #[]⟩
noncomputable def o180 (P : Params) : Obj := ⟨(.type "function"), none, (.func (fd (sm 11 7) "BytesIO.__exit__" 3 .none .none .none (.str "io" 371) none (.ref 179) .none 0)), #[]⟩
noncomputable def o183 (P : Params) : Obj := ⟨(.type "tuple"), none, (.seq #[(.str "self" 552)] 0), #[]⟩
noncomputable def o185 (P : Params) : Obj := ⟨.none, none, (.func (fd (sm 11 8) "BytesIO.readable" 0 .none .none .none .none none .none .none 0)), #[]⟩
noncomputable def o186 (P : Params) : Obj := ⟨(.type "code"), none, (.fields #[(.str "readable" 549), (.str "BytesIO.readable" 550), (.str "/claim/cut.py" 551), (.int 73 0), (.int 1 0), (.int 0 0), (.int 0 0), (.int 3 0), (.ref 181), (.bool true), (.int 318 0), (.ref 182), .none, (.ref 183), (.ref 184), (.ref 185), (.int 553 0), (.int 73 0), (.str "/claim/cut.py" 554)]), #[]⟩
noncomputable def o187 (P : Params) : Obj := ⟨(.type "function"), none, (.func (fd (sm 11 8) "BytesIO.readable" 3 .none .none .none (.str "io" 371) none (.ref 186) .none 0)), #[]⟩
noncomputable def o190 (P : Params) : Obj := ⟨(.type "tuple"), none, (.seq #[(.str "self" 559)] 0), #[]⟩
noncomputable def o192 (P : Params) : Obj := ⟨.none, none, (.func (fd (sm 11 9) "BytesIO.writable" 0 .none .none .none .none none .none .none 0)), #[]⟩
noncomputable def o193 (P : Params) : Obj := ⟨(.type "code"), none, (.fields #[(.str "writable" 556), (.str "BytesIO.writable" 557), (.str "/claim/cut.py" 558), (.int 77 0), (.int 1 0), (.int 0 0), (.int 0 0), (.int 3 0), (.ref 188), (.bool true), (.int 318 0), (.ref 189), .none, (.ref 190), (.ref 191), (.ref 192), (.int 560 0), (.int 77 0), (.str "/claim/cut.py" 561)]), #[]⟩
noncomputable def o194 (P : Params) : Obj := ⟨(.type "function"), none, (.func (fd (sm 11 9) "BytesIO.writable" 3 .none .none .none (.str "io" 371) none (.ref 193) .none 0)), #[]⟩
noncomputable def o197 (P : Params) : Obj := ⟨(.type "tuple"), none, (.seq #[(.str "self" 566)] 0), #[]⟩
noncomputable def o199 (P : Params) : Obj := ⟨.none, none, (.func (fd (sm 11 10) "BytesIO.seekable" 0 .none .none .none .none none .none .none 0)), #[]⟩
noncomputable def o200 (P : Params) : Obj := ⟨(.type "code"), none, (.fields #[(.str "seekable" 563), (.str "BytesIO.seekable" 564), (.str "/claim/cut.py" 565), (.int 81 0), (.int 1 0), (.int 0 0), (.int 0 0), (.int 3 0), (.ref 195), (.bool true), (.int 318 0), (.ref 196), .none, (.ref 197), (.ref 198), (.ref 199), (.int 567 0), (.int 81 0), (.str "/claim/cut.py" 568)]), #[]⟩
noncomputable def o201 (P : Params) : Obj := ⟨(.type "function"), none, (.func (fd (sm 11 10) "BytesIO.seekable" 3 .none .none .none (.str "io" 371) none (.ref 200) .none 0)), #[]⟩
noncomputable def o204 (P : Params) : Obj := ⟨(.type "tuple"), none, (.seq #[(.str "self" 573)] 0), #[]⟩
noncomputable def o206 (P : Params) : Obj := ⟨.none, none, (.func (fd (sm 11 11) "BytesIO.isatty" 0 .none .none .none .none none .none .none 0)), #[]⟩
noncomputable def o207 (P : Params) : Obj := ⟨(.type "code"), none, (.fields #[(.str "isatty" 570), (.str "BytesIO.isatty" 571), (.str "/claim/cut.py" 572), (.int 85 0), (.int 1 0), (.int 0 0), (.int 0 0), (.int 3 0), (.ref 202), (.bool true), (.int 318 0), (.ref 203), .none, (.ref 204), (.ref 205), (.ref 206), (.int 574 0), (.int 85 0), (.str "/claim/cut.py" 575)]), #[]⟩
noncomputable def o208 (P : Params) : Obj := ⟨(.type "function"), none, (.func (fd (sm 11 11) "BytesIO.isatty" 3 .none .none .none (.str "io" 371) none (.ref 207) .none 0)), #[]⟩
noncomputable def o211 (P : Params) : Obj := ⟨(.type "tuple"), none, (.seq #[(.str "self" 580)] 0), #[]⟩
noncomputable def o213 (P : Params) : Obj := ⟨.none, none, (.func (fd (sm 11 12) "BytesIO.flush" 0 .none .none .none .none none .none .none 0)), #[]⟩
noncomputable def o214 (P : Params) : Obj := ⟨(.type "code"), none, (.fields #[(.str "flush" 577), (.str "BytesIO.flush" 578), (.str "/claim/cut.py" 579), (.int 89 0), (.int 1 0), (.int 0 0), (.int 0 0), (.int 3 0), (.ref 209), (.bool true), (.int 318 0), (.ref 210), .none, (.ref 211), (.ref 212), (.ref 213), (.int 581 0), (.int 89 0), (.str "/claim/cut.py" 582)]), #[]⟩
noncomputable def o215 (P : Params) : Obj := ⟨(.type "function"), none, (.func (fd (sm 11 12) "BytesIO.flush" 3 .none .none .none (.str "io" 371) none (.ref 214) .none 0)), #[]⟩
noncomputable def o218 (P : Params) : Obj := ⟨(.type "tuple"), none, (.seq #[(.str "self" 587)] 0), #[]⟩
noncomputable def o220 (P : Params) : Obj := ⟨.none, none, (.func (fd (sm 11 13) "BytesIO.fileno" 0 .none .none .none .none none .none .none 0)), #[]⟩
noncomputable def o221 (P : Params) : Obj := ⟨(.type "code"), none, (.fields #[(.str "fileno" 584), (.str "BytesIO.fileno" 585), (.str "/claim/cut.py" 586), (.int 92 0), (.int 1 0), (.int 0 0), (.int 0 0), (.int 3 0), (.ref 216), (.bool true), (.int 318 0), (.ref 217), .none, (.ref 218), (.ref 219), (.ref 220), (.int 588 0), (.int 92 0), (.str "/claim/cut.py" 589)]), #[]⟩
noncomputable def o222 (P : Params) : Obj := ⟨(.type "function"), none, (.func (fd (sm 11 13) "BytesIO.fileno" 3 .none .none .none (.str "io" 371) none (.ref 221) .none 0)), #[]⟩
noncomputable def o225 (P : Params) : Obj := ⟨(.type "tuple"), none, (.seq #[(.str "self" 594)] 0), #[]⟩
noncomputable def o227 (P : Params) : Obj := ⟨.none, none, (.func (fd (sm 11 14) "BytesIO.detach" 0 .none .none .none .none none .none .none 0)), #[]⟩
noncomputable def o228 (P : Params) : Obj := ⟨(.type "code"), none, (.fields #[(.str "detach" 591), (.str "BytesIO.detach" 592), (.str "/claim/cut.py" 593), (.int 95 0), (.int 1 0), (.int 0 0), (.int 0 0), (.int 3 0), (.ref 223), (.bool true), (.int 318 0), (.ref 224), .none, (.ref 225), (.ref 226), (.ref 227), (.int 595 0), (.int 95 0), (.str "/claim/cut.py" 596)]), #[]⟩
noncomputable def o229 (P : Params) : Obj := ⟨(.type "function"), none, (.func (fd (sm 11 14) "BytesIO.detach" 3 .none .none .none (.str "io" 371) none (.ref 228) .none 0)), #[]⟩
noncomputable def o232 (P : Params) : Obj := ⟨(.type "tuple"), none, (.seq #[(.str "self" 601)] 0), #[]⟩
noncomputable def o234 (P : Params) : Obj := ⟨.none, none, (.func (fd (sm 11 15) "BytesIO.getvalue" 0 .none .none .none .none none .none .none 0)), #[]⟩
noncomputable def o235 (P : Params) : Obj := ⟨(.type "code"), none, (.fields #[(.str "getvalue" 598), (.str "BytesIO.getvalue" 599), (.str "/claim/cut.py" 600), (.int 98 0), (.int 1 0), (.int 0 0), (.int 0 0), (.int 3 0), (.ref 230), (.bool true), (.int 318 0), (.ref 231), .none, (.ref 232), (.ref 233), (.ref 234), (.int 602 0), (.int 98 0), (.str "/claim/cut.py" 603)]), #[]⟩
noncomputable def o236 (P : Params) : Obj := ⟨(.type "function"), none, (.func (fd (sm 11 15) "BytesIO.getvalue" 3 .none .none .none (.str "io" 371) none (.ref 235) .none 0)), #[]⟩
noncomputable def o239 (P : Params) : Obj := ⟨(.type "tuple"), none, (.seq #[(.str "self" 608)] 0), #[]⟩
noncomputable def o241 (P : Params) : Obj := ⟨.none, none, (.func (fd (sm 11 16) "BytesIO.getbuffer" 0 .none .none .none .none none .none .none 0)), #[]⟩
noncomputable def o242 (P : Params) : Obj := ⟨(.type "code"), none, (.fields #[(.str "getbuffer" 605), (.str "BytesIO.getbuffer" 606), (.str "/claim/cut.py" 607), (.int 101 0), (.int 1 0), (.int 0 0), (.int 0 0), (.int 3 0), (.ref 237), (.bool true), (.int 318 0), (.ref 238), .none, (.ref 239), (.ref 240), (.ref 241), (.int 609 0), (.int 101 0), (.str "/claim/cut.py" 610)]), #[]⟩
noncomputable def o243 (P : Params) : Obj := ⟨(.type "function"), none, (.func (fd (sm 11 16) "BytesIO.getbuffer" 3 .none .none .none (.str "io" 371) none (.ref 242) .none 0)), #[]⟩
noncomputable def o246 (P : Params) : Obj := ⟨(.type "tuple"), none, (.seq #[(.str "self" 615)] 0), #[]⟩
noncomputable def o248 (P : Params) : Obj := ⟨.none, none, (.func (fd (sm 11 17) "BytesIO.tell" 0 .none .none .none .none none .none .none 0)), #[]⟩
noncomputable def o249 (P : Params) : Obj := ⟨(.type "code"), none, (.fields #[(.str "tell" 612), (.str "BytesIO.tell" 613), (.str "/claim/cut.py" 614), (.int 104 0), (.int 1 0), (.int 0 0), (.int 0 0), (.int 3 0), (.ref 244), (.bool true), (.int 318 0), (.ref 245), .none, (.ref 246), (.ref 247), (.ref 248), (.int 616 0), (.int 104 0), (.str "/claim/cut.py" 617)]), #[]⟩
noncomputable def o250 (P : Params) : Obj := ⟨(.type "function"), none, (.func (fd (sm 11 17) "BytesIO.tell" 3 .none .none .none (.str "io" 371) none (.ref 249) .none 0)), #[]⟩
noncomputable def o251 (P : Params) : Obj := ⟨(.type "tuple"), none, (.seq #[(.int 0 619)] 0), #[]⟩
noncomputable def o254 (P : Params) : Obj := ⟨(.type "tuple"), none, (.seq #[(.str "self" 623), (.str "pos" 624), (.str "whence" 625)] 0), #[]⟩
noncomputable def o256 (P : Params) : Obj := ⟨.none, none, (.func (fd (sm 11 18) "BytesIO.seek" 0 .none .none .none .none none .none .none 0)), #[]⟩
noncomputable def o257 (P : Params) : Obj := ⟨(.type "code"), none, (.fields #[(.str "seek" 620), (.str "BytesIO.seek" 621), (.str "/claim/cut.py" 622), (.int 108 0), (.int 3 0), (.int 3 0), (.int 0 0), (.int 3 0), (.ref 252), (.bool true), (.int 318 0), (.ref 253), .none, (.ref 254), (.ref 255), (.ref 256), (.int 626 0), (.int 108 0), (.str "/claim/cut.py" 627)]), #[]⟩
noncomputable def o258 (P : Params) : Obj := ⟨(.type "function"), none, (.func (fd (sm 11 18) "BytesIO.seek" 3 (.ref 251) .none .none (.str "io" 371) none (.ref 257) .none 0)), #[]⟩
noncomputable def o262 (P : Params) : Obj := ⟨(.type "tuple"), none, (.seq #[(.str "self" 632), (.str "size" 633)] 0), #[]⟩
noncomputable def o264 (P : Params) : Obj := ⟨.none, none, (.func (fd (sm 11 19) "BytesIO.truncate" 0 .none .none .none .none none .none .none 0)), #[]⟩
noncomputable def o265 (P : Params) : Obj := ⟨(.type "code"), none, (.fields #[(.str "truncate" 629), (.str "BytesIO.truncate" 630), (.str "/claim/cut.py" 631), (.int 125 0), (.int 2 0), (.int 2 0), (.int 0 0), (.int 3 0), (.ref 260), (.bool true), (.int 318 0), (.ref 261), .none, (.ref 262), (.ref 263), (.ref 264), (.int 634 0), (.int 125 0), (.str "/claim/cut.py" 635)]), #[]⟩
noncomputable def o266 (P : Params) : Obj := ⟨(.type "function"), none, (.func (fd (sm 11 19) "BytesIO.truncate" 3 (.ref 259) .none .none (.str "io" 371) none (.ref 265) .none 0)), #[]⟩
noncomputable def o267 (P : Params) : Obj := ⟨(.type "tuple"), none, (.seq #[(.int (-1) 638)] 0), #[]⟩
noncomputable def o270 (P : Params) : Obj := ⟨(.type "tuple"), none, (.seq #[(.str "self" 642), (.str "size" 643), (.str "start" 644), (.str "stop" 645)] 0), #[]⟩
noncomputable def o272 (P : Params) : Obj := ⟨.none, none, (.func (fd (sm 11 20) "BytesIO.read" 0 .none .none .none .none none .none .none 0)), #[]⟩
noncomputable def o273 (P : Params) : Obj := ⟨(.type "code"), none, (.fields #[(.str "read" 639), (.str "BytesIO.read" 640), (.str "/claim/cut.py" 641), (.int 128 0), (.int 2 0), (.int 2 0), (.int 0 0), (.int 3 0), (.ref 268), (.bool true), (.int 318 0), (.ref 269), .none, (.ref 270), (.ref 271), (.ref 272), (.int 646 0), (.int 128 0), (.str "/claim/cut.py" 647)]), #[]⟩
noncomputable def o274 (P : Params) : Obj := ⟨(.type "function"), none, (.func (fd (sm 11 20) "BytesIO.read" 3 (.ref 267) .none .none (.str "io" 371) none (.ref 273) .none 0)), #[]⟩
noncomputable def o275 (P : Params) : Obj := ⟨(.type "tuple"), none, (.seq #[(.int (-1) 650)] 0), #[]⟩
noncomputable def o278 (P : Params) : Obj := ⟨(.type "tuple"), none, (.seq #[(.str "self" 654), (.str "size" 655)] 0), #[]⟩
noncomputable def o280 (P : Params) : Obj := ⟨.none, none, (.func (fd (sm 11 21) "BytesIO.read1" 0 .none .none .none .none none .none .none 0)), #[]⟩
noncomputable def o281 (P : Params) : Obj := ⟨(.type "code"), none, (.fields #[(.str "read1" 651), (.str "BytesIO.read1" 652), (.str "/claim/cut.py" 653), (.int 142 0), (.int 2 0), (.int 2 0), (.int 0 0), (.int 3 0), (.ref 276), (.bool true), (.int 318 0), (.ref 277), .none, (.ref 278), (.ref 279), (.ref 280), (.int 656 0), (.int 142 0), (.str "/claim/cut.py" 657)]), #[]⟩
noncomputable def o282 (P : Params) : Obj := ⟨(.type "function"), none, (.func (fd (sm 11 21) "BytesIO.read1" 3 (.ref 275) .none .none (.str "io" 371) none (.ref 281) .none 0)), #[]⟩
noncomputable def o285 (P : Params) : Obj := ⟨(.type "tuple"), none, (.seq #[(.str "self" 662), (.str "buffer" 663), (.str "start" 664), (.str "n" 665)] 0), #[]⟩
noncomputable def o287 (P : Params) : Obj := ⟨.none, none, (.func (fd (sm 11 22) "BytesIO.readinto" 0 .none .none .none .none none .none .none 0)), #[]⟩
noncomputable def o288 (P : Params) : Obj := ⟨(.type "code"), none, (.fields #[(.str "readinto" 659), (.str "BytesIO.readinto" 660), (.str "/claim/cut.py" 661), (.int 145 0), (.int 2 0), (.int 2 0), (.int 0 0), (.int 3 0), (.ref 283), (.bool true), (.int 318 0), (.ref 284), .none, (.ref 285), (.ref 286), (.ref 287), (.int 666 0), (.int 145 0), (.str "/claim/cut.py" 667)]), #[]⟩
noncomputable def o289 (P : Params) : Obj := ⟨(.type "function"), none, (.func (fd (sm 11 22) "BytesIO.readinto" 3 .none .none .none (.str "io" 371) none (.ref 288) .none 0)), #[]⟩
noncomputable def o292 (P : Params) : Obj := ⟨(.type "tuple"), none, (.seq #[(.str "self" 672), (.str "buffer" 673)] 0), #[]⟩
noncomputable def o294 (P : Params) : Obj := ⟨.none, none, (.func (fd (sm 11 23) "BytesIO.readinto1" 0 .none .none .none .none none .none .none 0)), #[]⟩
noncomputable def o295 (P : Params) : Obj := ⟨(.type "code"), none, (.fields #[(.str "readinto1" 669), (.str "BytesIO.readinto1" 670), (.str "/claim/cut.py" 671), (.int 159 0), (.int 2 0), (.int 2 0), (.int 0 0), (.int 3 0), (.ref 290), (.bool true), (.int 318 0), (.ref 291), .none, (.ref 292), (.ref 293), (.ref 294), (.int 674 0), (.int 159 0), (.str "/claim/cut.py" 675)]), #[]⟩
noncomputable def o296 (P : Params) : Obj := ⟨(.type "function"), none, (.func (fd (sm 11 23) "BytesIO.readinto1" 3 .none .none .none (.str "io" 371) none (.ref 295) .none 0)), #[]⟩
noncomputable def o297 (P : Params) : Obj := ⟨(.type "tuple"), none, (.seq #[(.int (-1) 678)] 0), #[]⟩
noncomputable def o300 (P : Params) : Obj := ⟨(.type "tuple"), none, (.seq #[(.str "self" 682), (.str "size" 683)] 0), #[]⟩
noncomputable def o302 (P : Params) : Obj := ⟨.none, none, (.func (fd (sm 11 24) "BytesIO.readline" 0 .none .none .none .none none .none .none 0)), #[]⟩
noncomputable def o303 (P : Params) : Obj := ⟨(.type "code"), none, (.fields #[(.str "readline" 679), (.str "BytesIO.readline" 680), (.str "/claim/cut.py" 681), (.int 162 0), (.int 2 0), (.int 2 0), (.int 0 0), (.int 3 0), (.ref 298), (.bool true), (.int 318 0), (.ref 299), .none, (.ref 300), (.ref 301), (.ref 302), (.int 684 0), (.int 162 0), (.str "/claim/cut.py" 685)]), #[]⟩
noncomputable def o304 (P : Params) : Obj := ⟨(.type "function"), none, (.func (fd (sm 11 24) "BytesIO.readline" 3 (.ref 297) .none .none (.str "io" 371) none (.ref 303) .none 0)), #[]⟩
noncomputable def o308 (P : Params) : Obj := ⟨(.type "tuple"), none, (.seq #[(.str "self" 690), (.str "size" 691)] 0), #[]⟩
noncomputable def o310 (P : Params) : Obj := ⟨.none, none, (.func (fd (sm 11 25) "BytesIO.readlines" 0 .none .none .none .none none .none .none 0)), #[]⟩
noncomputable def o311 (P : Params) : Obj := ⟨(.type "code"), none, (.fields #[(.str "readlines" 687), (.str "BytesIO.readlines" 688), (.str "/claim/cut.py" 689), (.int 169 0), (.int 2 0), (.int 2 0), (.int 0 0), (.int 3 0), (.ref 306), (.bool true), (.int 318 0), (.ref 307), .none, (.ref 308), (.ref 309), (.ref 310), (.int 692 0), (.int 169 0), (.str "/claim/cut.py" 693)]), #[]⟩
noncomputable def o312 (P : Params) : Obj := ⟨(.type "function"), none, (.func (fd (sm 11 25) "BytesIO.readlines" 3 (.ref 305) .none .none (.str "io" 371) none (.ref 311) .none 0)), #[]⟩
noncomputable def o315 (P : Params) : Obj := ⟨(.type "tuple"), none, (.seq #[(.str "self" 698)] 0), #[]⟩
noncomputable def o317 (P : Params) : Obj := ⟨.none, none, (.func (fd (sm 11 26) "BytesIO.__iter__" 0 .none .none .none .none none .none .none 0)), #[]⟩
noncomputable def o318 (P : Params) : Obj := ⟨(.type "code"), none, (.fields #[(.str "__iter__" 695), (.str "BytesIO.__iter__" 696), (.str "/claim/cut.py" 697), (.int 172 0), (.int 1 0), (.int 0 0), (.int 0 0), (.int 3 0), (.ref 313), (.bool true), (.int 318 0), (.ref 314), .none, (.ref 315), (.ref 316), (.ref 317), (.int 699 0), (.int 172 0), (.str "/claim/cut.py" 700)]), #[]⟩
noncomputable def o319 (P : Params) : Obj := ⟨(.type "function"), none, (.func (fd (sm 11 26) "BytesIO.__iter__" 3 .none .none .none (.str "io" 371) none (.ref 318) .none 0)), #[]⟩
noncomputable def o322 (P : Params) : Obj := ⟨(.type "tuple"), none, (.seq #[(.str "self" 705), (.str "line" 706)] 0), #[]⟩
noncomputable def o324 (P : Params) : Obj := ⟨.none, none, (.func (fd (sm 11 27) "BytesIO.__next__" 0 .none .none .none .none none .none .none 0)), #[]⟩
noncomputable def o325 (P : Params) : Obj := ⟨(.type "code"), none, (.fields #[(.str "__next__" 702), (.str "BytesIO.__next__" 703), (.str "/claim/cut.py" 704), (.int 175 0), (.int 1 0), (.int 0 0), (.int 0 0), (.int 3 0), (.ref 320), (.bool true), (.int 318 0), (.ref 321), .none, (.ref 322), (.ref 323), (.ref 324), (.int 707 0), (.int 175 0), (.str "/claim/cut.py" 708)]), #[]⟩
noncomputable def o326 (P : Params) : Obj := ⟨(.type "function"), none, (.func (fd (sm 11 27) "BytesIO.__next__" 3 .none .none .none (.str "io" 371) none (.ref 325) .none 0)), #[]⟩
noncomputable def o329 (P : Params) : Obj := ⟨(.type "tuple"), none, (.seq #[(.str "self" 713), (.str "b" 714), (.str "n" 715), (.str "start" 716)] 0), #[]⟩
noncomputable def o331 (P : Params) : Obj := ⟨.none, none, (.func (fd (sm 11 28) "BytesIO.write" 0 .none .none .none .none none .none .none 0)), #[]⟩
noncomputable def o332 (P : Params) : Obj := ⟨(.type "code"), none, (.fields #[(.str "write" 710), (.str "BytesIO.write" 711), (.str "/claim/cut.py" 712), (.int 182 0), (.int 2 0), (.int 2 0), (.int 0 0), (.int 3 0), (.ref 327), (.bool true), (.int 318 0), (.ref 328), .none, (.ref 329), (.ref 330), (.ref 331), (.int 717 0), (.int 182 0), (.str "/claim/cut.py" 718)]), #[]⟩
noncomputable def o333 (P : Params) : Obj := ⟨(.type "function"), none, (.func (fd (sm 11 28) "BytesIO.write" 3 .none .none .none (.str "io" 371) none (.ref 332) .none 0)), #[]⟩
noncomputable def o336 (P : Params) : Obj := ⟨(.type "tuple"), none, (.seq #[(.str "self" 723), (.str "lines" 724)] 0), #[]⟩
noncomputable def o338 (P : Params) : Obj := ⟨.none, none, (.func (fd (sm 11 29) "BytesIO.writelines" 0 .none .none .none .none none .none .none 0)), #[]⟩
noncomputable def o339 (P : Params) : Obj := ⟨(.type "code"), none, (.fields #[(.str "writelines" 720), (.str "BytesIO.writelines" 721), (.str "/claim/cut.py" 722), (.int 198 0), (.int 2 0), (.int 2 0), (.int 0 0), (.int 3 0), (.ref 334), (.bool true), (.int 318 0), (.ref 335), .none, (.ref 336), (.ref 337), (.ref 338), (.int 725 0), (.int 198 0), (.str "/claim/cut.py" 726)]), #[]⟩
noncomputable def o340 (P : Params) : Obj := ⟨(.type "function"), none, (.func (fd (sm 11 29) "BytesIO.writelines" 3 .none .none .none (.str "io" 371) none (.ref 339) .none 0)), #[]⟩
noncomputable def o343 (P : Params) : Obj := ⟨(.type "tuple"), none, (.seq #[(.str "self" 731)] 0), #[]⟩
noncomputable def o345 (P : Params) : Obj := ⟨.none, none, (.func (fd (sm 11 30) "BytesIO.__repr__" 0 .none .none .none .none none .none .none 0)), #[]⟩
noncomputable def o346 (P : Params) : Obj := ⟨(.type "code"), none, (.fields #[(.str "__repr__" 728), (.str "BytesIO.__repr__" 729), (.str "/claim/cut.py" 730), (.int 201 0), (.int 1 0), (.int 0 0), (.int 0 0), (.int 3 0), (.ref 341), (.bool true), (.int 318 0), (.ref 342), .none, (.ref 343), (.ref 344), (.ref 345), (.int 732 0), (.int 201 0), (.str "/claim/cut.py" 733)]), #[]⟩
noncomputable def o347 (P : Params) : Obj := ⟨(.type "function"), none, (.func (fd (sm 11 30) "BytesIO.__repr__" 3 .none .none .none (.str "io" 371) none (.ref 346) .none 0)), #[]⟩
noncomputable def o348 (P : Params) : Obj := ⟨(.type "tuple"), none, (.seq #[(.str "__buf" 735), (.str "__pos" 736)] 0), #[]⟩
noncomputable def o349 (P : Params) : Obj := ⟨(.type "dict"), none, (.dict #[de P "__module__" 486 (.str "_io" 491), de P "__firstlineno__" 490 (.int 33 489), de P "__init__" 500 (.ref 137), de P "_BytesIO__check" 507 (.ref 144), de P "_BytesIO__line" 518 (.ref 151), de P "closed" 526 (.ref 159), de P "close" 533 (.ref 166), de P "__enter__" 540 (.ref 173), de P "__exit__" 548 (.ref 180), de P "readable" 555 (.ref 187), de P "writable" 562 (.ref 194), de P "seekable" 569 (.ref 201), de P "isatty" 576 (.ref 208), de P "flush" 583 (.ref 215), de P "fileno" 590 (.ref 222), de P "detach" 597 (.ref 229), de P "getvalue" 604 (.ref 236), de P "getbuffer" 611 (.ref 243), de P "tell" 618 (.ref 250), de P "seek" 628 (.ref 258), de P "truncate" 636 (.ref 266), de P "read" 648 (.ref 274), de P "read1" 658 (.ref 282), de P "readinto" 668 (.ref 289), de P "readinto1" 676 (.ref 296), de P "readline" 686 (.ref 304), de P "readlines" 694 (.ref 312), de P "__iter__" 701 (.ref 319), de P "__next__" 709 (.ref 326), de P "write" 719 (.ref 333), de P "writelines" 727 (.ref 340), de P "__repr__" 734 (.ref 347), de P "__static_attributes__" 737 (.ref 348), de P "__doc__" 738 .none] 2), #[]⟩
noncomputable def o350 (P : Params) : Obj := ⟨(.type "type"), none, (.cls ⟨"BytesIO", [(.ref 108)], [(.ref 350), (.ref 108), (.ref 93), (.type "object")], 349, "BytesIO", true, [], [], false, none, false⟩), #[some (.ref 123), none, some (.str "BytesIO" 479), some (.str "BytesIO" 487), some .none, some (.bool true)]⟩
noncomputable def o351 (P : Params) : Obj := ⟨(.type "super"), none, (.fields #[(.ref 350), (.ref 350), (.ref 350)]), #[]⟩
noncomputable def o352 (P : Params) : Obj := ⟨(.type "builtin_function_or_method"), none, (.fields #[(.builtin "object.__init_subclass__"), (.ref 350)]), #[]⟩
noncomputable def t2 (P : Params) : BT := (.node (o0 P) (.node (o1 P) (.node (o3v95 P) (.node (o7 P) (.node (o7 P) (.node (o19 P) (.node (o63 P) (.node (o127 P) (.node (o7 P) .nil .nil) .nil) (.node (o7 P) (.node (o319 P) .nil .nil) .nil)) (.node (o95 P) (.node (o159 P) (.node (o287 P) .nil .nil) .nil) (.node (o7 P) (.node (o351 P) .nil .nil) .nil))) (.node (o47 P) (.node (o79 P) (.node (o143 P) (.node (o7 P) .nil .nil) .nil) (.node (o207 P) (.node (o8 P) .nil .nil) .nil)) (.node (o99 P) (.node (o8 P) (.node (o303 P) .nil .nil) .nil) (.node (o239 P) .nil .nil)))) (.node (o23 P) (.node (o8 P) (.node (o7 P) (.node (o135 P) (.node (o7 P) .nil .nil) .nil) (.node (o199 P) (.node (o7 P) .nil .nil) .nil)) (.node (o8 P) (.node (o7 P) (.node (o295 P) .nil .nil) .nil) (.node (o8 P) .nil .nil))) (.node (o55 P) (.node (o7 P) (.node (o151 P) (.node (o7 P) .nil .nil) .nil) (.node (o215 P) (.node (o343 P) .nil .nil) .nil)) (.node (o119 P) (.node (o183 P) (.node (o311 P) .nil .nil) .nil) (.node (o7 P) .nil .nil))))) (.node (o11v32 P) (.node (o19 P) (.node (o35v96 P) (.node (o7 P) (.node (o7 P) (.node (o47 P) .nil .nil) .nil) (.node (o7 P) (.node (o7 P) .nil .nil) .nil)) (.node (o99 P) (.node (o7 P) (.node (o8 P) .nil .nil) .nil) (.node (o227 P) .nil .nil))) (.node (o8 P) (.node (o83 P) (.node (o147 P) (.node (o275 P) .nil .nil) .nil) (.node (o211 P) (.node (o339 P) .nil .nil) .nil)) (.node (o8 P) (.node (o179 P) (.node (o8 P) .nil .nil) .nil) (.node (o243 P) .nil .nil)))) (.node (o27 P) (.node (o43 P) (.node (o75 P) (.node (o8 P) (.node (o267 P) .nil .nil) .nil) (.node (o8 P) (.node (o331 P) .nil .nil) .nil)) (.node (o107 P) (.node (o171 P) (.node (o8 P) .nil .nil) .nil) (.node (o235 P) .nil .nil))) (.node (o59 P) (.node (o7 P) (.node (o7 P) (.node (o7 P) .nil .nil) .nil) (.node (o7 P) (.node (o347 P) .nil .nil) .nil)) (.node (o123 P) (.node (o187 P) (.node (o315 P) .nil .nil) .nil) (.node (o251 P) .nil .nil)))))) (.node (o5 P) (.node (o9 P) (.node (o17 P) (.node (o33 P) (.node (o65 P) (.node (o129 P) (.node (o257 P) .nil .nil) .nil) (.node (o193 P) (.node (o8 P) .nil .nil) .nil)) (.node (o97 P) (.node (o8 P) (.node (o289 P) .nil .nil) .nil) (.node (o225 P) .nil .nil))) (.node (o49 P) (.node (o81 P) (.node (o7 P) (.node (o273 P) .nil .nil) .nil) (.node (o7 P) (.node (o7 P) .nil .nil) .nil)) (.node (o113 P) (.node (o7 P) (.node (o47 P) .nil .nil) .nil) (.node (o241 P) .nil .nil)))) (.node (o25 P) (.node (o7 P) (.node (o73 P) (.node (o137 P) (.node (o265 P) .nil .nil) .nil) (.node (o201 P) (.node (o329 P) .nil .nil) .nil)) (.node (o105 P) (.node (o169 P) (.node (o297 P) .nil .nil) .nil) (.node (o7 P) .nil .nil))) (.node (o7 P) (.node (o89 P) (.node (o8 P) (.node (o281 P) .nil .nil) .nil) (.node (o8 P) (.node (o345 P) .nil .nil) .nil)) (.node (o121 P) (.node (o185 P) (.node (o7 P) .nil .nil) .nil) (.node (o249 P) .nil .nil))))) (.node (o13 P) (.node (o21 P) (.node (o37 P) (.node (o69 P) (.node (o133 P) (.node (o8 P) .nil .nil) .nil) (.node (o197 P) (.node (o325 P) .nil .nil) .nil)) (.node (o101 P) (.node (o165 P) (.node (o7 P) .nil .nil) .nil) (.node (o229 P) .nil .nil))) (.node (o7 P) (.node (o8 P) (.node (o149 P) (.node (o8 P) .nil .nil) .nil) (.node (o213 P) (.node (o7 P) .nil .nil) .nil)) (.node (o117 P) (.node (o7 P) (.node (o7 P) .nil .nil) .nil) (.node (o8 P) .nil .nil)))) (.node (o29v33 P) (.node (o45 P) (.node (o7 P) (.node (o7 P) (.node (o8 P) .nil .nil) .nil) (.node (o7 P) (.node (o333 P) .nil .nil) .nil)) (.node (o109 P) (.node (o173 P) (.node (o7 P) .nil .nil) .nil) (.node (o7 P) .nil .nil))) (.node (o61 P) (.node (o93 P) (.node (o157 P) (.node (o285 P) .nil .nil) .nil) (.node (o221 P) (.node (o349 P) .nil .nil) .nil)) (.node (o125 P) (.node (o8 P) (.node (o317 P) .nil .nil) .nil) (.node (o8 P) .nil .nil))))))) (.node (o2v36 P) (.node (o4 P) (.node (o8 P) (.node (o16 P) (.node (o32 P) (.node (o64 P) (.node (o128 P) (.node (o256 P) .nil .nil) .nil) (.node (o192 P) (.node (o7 P) .nil .nil) .nil)) (.node (o96 P) (.node (o7 P) (.node (o288 P) .nil .nil) .nil) (.node (o8 P) (.node (o352 P) .nil .nil) .nil))) (.node (o48 P) (.node (o7 P) (.node (o144 P) (.node (o272 P) .nil .nil) .nil) (.node (o208 P) (.node (o336 P) .nil .nil) .nil)) (.node (o65 P) (.node (o176 P) (.node (o304 P) .nil .nil) .nil) (.node (o7 P) .nil .nil)))) (.node (o24 P) (.node (o40 P) (.node (o72 P) (.node (o136 P) (.node (o264 P) .nil .nil) .nil) (.node (o200 P) (.node (o8 P) .nil .nil) .nil)) (.node (o104 P) (.node (o8 P) (.node (o296 P) .nil .nil) .nil) (.node (o232 P) .nil .nil))) (.node (o56 P) (.node (o88 P) (.node (o7 P) (.node (o280 P) .nil .nil) .nil) (.node (o7 P) (.node (o7 P) .nil .nil) .nil)) (.node (o120 P) (.node (o7 P) (.node (o312 P) .nil .nil) .nil) (.node (o248 P) .nil .nil))))) (.node (o12 P) (.node (o20 P) (.node (o36 P) (.node (o8 P) (.node (o8 P) (.node (o7 P) .nil .nil) .nil) (.node (o8 P) (.node (o324 P) .nil .nil) .nil)) (.node (o65 P) (.node (o164 P) (.node (o292 P) .nil .nil) .nil) (.node (o228 P) .nil .nil))) (.node (o52 P) (.node (o7 P) (.node (o7 P) (.node (o7 P) .nil .nil) .nil) (.node (o7 P) (.node (o340 P) .nil .nil) .nil)) (.node (o116 P) (.node (o180 P) (.node (o308 P) .nil .nil) .nil) (.node (o7 P) .nil .nil)))) (.node (o28 P) (.node (o44 P) (.node (o76 P) (.node (o140 P) (.node (o7 P) .nil .nil) .nil) (.node (o204 P) (.node (o332 P) .nil .nil) .nil)) (.node (o108v97 P) (.node (o172 P) (.node (o300 P) .nil .nil) .nil) (.node (o236 P) .nil .nil))) (.node (o7 P) (.node (o92 P) (.node (o156 P) (.node (o8 P) .nil .nil) .nil) (.node (o220 P) (.node (o348 P) .nil .nil) .nil)) (.node (o65 P) (.node (o7 P) (.node (o7 P) .nil .nil) .nil) (.node (o7 P) .nil .nil)))))) (.node (o6 P) (.node (o10 P) (.node (o18 P) (.node (o7 P) (.node (o66 P) (.node (o47 P) (.node (o258 P) .nil .nil) .nil) (.node (o194 P) (.node (o322 P) .nil .nil) .nil)) (.node (o98 P) (.node (o162 P) (.node (o7 P) .nil .nil) .nil) (.node (o7 P) .nil .nil))) (.node (o7 P) (.node (o82 P) (.node (o8 P) (.node (o274 P) .nil .nil) .nil) (.node (o8 P) (.node (o338 P) .nil .nil) .nil)) (.node (o7 P) (.node (o178 P) (.node (o7 P) .nil .nil) .nil) (.node (o242 P) .nil .nil)))) (.node (o26 P) (.node (o42 P) (.node (o74 P) (.node (o7 P) (.node (o266 P) .nil .nil) .nil) (.node (o7 P) (.node (o7 P) .nil .nil) .nil)) (.node (o7 P) (.node (o7 P) (.node (o7 P) .nil .nil) .nil) (.node (o234 P) .nil .nil))) (.node (o8 P) (.node (o90 P) (.node (o154 P) (.node (o282 P) .nil .nil) .nil) (.node (o218 P) (.node (o346 P) .nil .nil) .nil)) (.node (o122 P) (.node (o186 P) (.node (o8 P) .nil .nil) .nil) (.node (o250 P) .nil .nil))))) (.node (o14 P) (.node (o22 P) (.node (o7 P) (.node (o70 P) (.node (o7 P) (.node (o262 P) .nil .nil) .nil) (.node (o7 P) (.node (o326 P) .nil .nil) .nil)) (.node (o7 P) (.node (o166 P) (.node (o294 P) .nil .nil) .nil) (.node (o7 P) .nil .nil))) (.node (o54 P) (.node (o86 P) (.node (o150 P) (.node (o278 P) .nil .nil) .nil) (.node (o214 P) (.node (o8 P) .nil .nil) .nil)) (.node (o7 P) (.node (o8 P) (.node (o310 P) .nil .nil) .nil) (.node (o246 P) .nil .nil)))) (.node (o30 P) (.node (o6 P) (.node (o65 P) (.node (o142 P) (.node (o270 P) .nil .nil) .nil) (.node (o206 P) (.node (o7 P) .nil .nil) .nil)) (.node (o110 P) (.node (o7 P) (.node (o302 P) .nil .nil) .nil) (.node (o8 P) .nil .nil))) (.node (o62 P) (.node (o94 P) (.node (o158 P) (.node (o7 P) .nil .nil) .nil) (.node (o222 P) (.node (o350 P) .nil .nil) .nil)) (.node (o7 P) (.node (o190 P) (.node (o318 P) .nil .nil) .nil) (.node (o254 P) .nil .nil))))))))
noncomputable def o3v233 (P : Params) : Obj := ⟨(.type "dict"), none, (.dict #[de P "__name__" 165 (.str "io" 371), de P "__doc__" 166 .none, de P "__package__" 167 .none, de P "__loader__" 168 (.builtin "__main__.__loader__#\x6fpaque"), de P "__spec__" 169 .none, de P "__annotations__" 170 (.ref 6), de P "__builtins__" 171 (.ref 4), de P "__file__" 173 (.str "/claim/cut.py" 172), de P "__cached__" 174 .none, de P "_sre" 275 (.ref 12), de P "deque" 317 (.type "collections.deque"), de P "_wall" 330 (.ref 44), de P "_twin_re_1" 370 (.ref 49), de P "_whence" 380 (.ref 56), de P "_index" 388 (.ref 63), de P "UnsupportedOperation" 410 (.ref 73), de P "IOBase" 442 (.ref 93), de P "BufferedIOBase" 460 (.ref 108), de P "TextIOBase" 478 (.ref 120), de P "BytesIO" 740 (.ref 350), de P "StringIO" 1027 (.ref 597)] 21), #[]⟩
noncomputable def o35v234 (P : Params) : Obj := ⟨.none, none, (.fields #[(.int 3 0), (.int 0 0), (.ref 43), (.int 8 0), (.int 0 0), (.ref 55), (.int 13 0), (.int 0 0), (.ref 62), (.int 20 0), (.int 0 0), (.ref 69), (.int 22 0), (.int 0 0), (.ref 82), (.int 29 0), (.int 0 0), (.ref 104), (.int 31 0), (.int 0 0), (.ref 116), (.int 33 0), (.int 0 0), (.ref 128), (.int 203 0), (.int 0 0), (.ref 358)]), #[]⟩
noncomputable def o120v235 (P : Params) : Obj := ⟨(.type "type"), none, (.cls ⟨"TextIOBase", [(.ref 93)], [(.ref 120), (.ref 93), (.type "object")], 119, "TextIOBase", true, [], [(.ref 597)], false, none, false⟩), #[some (.ref 111), none, some (.str "TextIOBase" 461), some (.str "TextIOBase" 469), some .none, some (.bool true)]⟩
noncomputable def o353 (P : Params) : Obj := ⟨(.type "tuple"), none, (.seq #[(.ref 120)] 0), #[]⟩
noncomputable def o355 (P : Params) : Obj := ⟨(.type "dict"), none, (.dict #[de P "__module__" 748 (.str "_io" 753), de P "__qualname__" 750 (.str "StringIO" 749), de P "__firstlineno__" 752 (.int 203 751), de P "__init__" 765 (.ref 367), de P "_StringIO__translated" 774 (.ref 374), de P "_StringIO__check" 781 (.ref 381), de P "_StringIO__check_dot" 788 (.ref 388), de P "_StringIO__line" 803 (.ref 395), de P "closed" 811 (.ref 403), de P "line_buffering" 819 (.ref 411), de P "newlines" 827 (.ref 419), de P "encoding" 835 (.ref 427), de P "errors" 843 (.ref 435), de P "close" 850 (.ref 442), de P "__enter__" 857 (.ref 449), de P "__exit__" 865 (.ref 456), de P "readable" 872 (.ref 463), de P "writable" 879 (.ref 470), de P "seekable" 886 (.ref 477), de P "isatty" 893 (.ref 484), de P "flush" 900 (.ref 491), de P "fileno" 907 (.ref 498), de P "detach" 914 (.ref 505), de P "getvalue" 921 (.ref 512), de P "tell" 928 (.ref 519), de P "seek" 938 (.ref 527), de P "truncate" 946 (.ref 535), de P "read" 958 (.ref 543), de P "readline" 968 (.ref 551), de P "readlines" 978 (.ref 559), de P "__iter__" 985 (.ref 566), de P "__next__" 993 (.ref 573), de P "write" 1005 (.ref 580), de P "writelines" 1013 (.ref 587), de P "__repr__" 1020 (.ref 594), de P "__static_attributes__" 1024 (.ref 595)] 36), #[]⟩
noncomputable def o357 (P : Params) : Obj := ⟨.none, none, (.fields #[(.int 206 0), (.int 4 0), (.ref 366), (.int 219 0), (.int 4 0), (.ref 373), (.int 227 0), (.int 4 0), (.ref 380), (.int 231 0), (.int 4 0), (.ref 387), (.int 235 0), (.int 4 0), (.ref 394), (.int 268 0), (.int 4 0), (.ref 401), (.int 272 0), (.int 4 0), (.ref 409), (.int 276 0), (.int 4 0), (.ref 417), (.int 280 0), (.int 4 0), (.ref 425), (.int 284 0), (.int 4 0), (.ref 433), (.int 287 0), (.int 4 0), (.ref 441), (.int 290 0), (.int 4 0), (.ref 448), (.int 294 0), (.int 4 0), (.ref 455), (.int 297 0), (.int 4 0), (.ref 462), (.int 301 0), (.int 4 0), (.ref 469), (.int 305 0), (.int 4 0), (.ref 476), (.int 309 0), (.int 4 0), (.ref 483), (.int 313 0), (.int 4 0), (.ref 490), (.int 316 0), (.int 4 0), (.ref 497), (.int 319 0), (.int 4 0), (.ref 504), (.int 322 0), (.int 4 0), (.ref 511), (.int 325 0), (.int 4 0), (.ref 518), (.int 329 0), (.int 4 0), (.ref 526), (.int 346 0), (.int 4 0), (.ref 534), (.int 349 0), (.int 4 0), (.ref 542), (.int 363 0), (.int 4 0), (.ref 550), (.int 370 0), (.int 4 0), (.ref 558), (.int 373 0), (.int 4 0), (.ref 565), (.int 377 0), (.int 4 0), (.ref 572), (.int 384 0), (.int 4 0), (.ref 579), (.int 403 0), (.int 4 0), (.ref 586), (.int 406 0), (.int 4 0), (.ref 593)]), #[]⟩
noncomputable def o358 (P : Params) : Obj := ⟨(.type "code"), none, (.fields #[(.str "StringIO" 743), (.str "StringIO" 744), (.str "/claim/cut.py" 745), (.int 203 0), (.int 0 0), (.int 0 0), (.int 0 0), (.int 0 0), (.ref 356), (.bool false), (.int 318 0), (.ref 357), .none, .none, .none, .none, (.int 746 0), (.int 203 0), (.str "/claim/cut.py" 747)]), #[]⟩
noncomputable def o359 (P : Params) : Obj := ⟨(.type "frame"), none, .plain, #[some (.ref 358), some (.ref 3), some (.ref 355), none, some (.str "io" 371), none, some (.ref 0)]⟩
noncomputable def o360 (P : Params) : Obj := ⟨(.type "tuple"), none, (.seq #[(.str "" 755), (.str "\n" 756)] 0), #[]⟩
noncomputable def o363 (P : Params) : Obj := ⟨(.type "tuple"), none, (.seq #[(.str "self" 760), (.str "initial_value" 761), (.str "newline" 762)] 0), #[]⟩
noncomputable def o365 (P : Params) : Obj := ⟨.none, none, (.func (fd (sm 12 1) "StringIO.__init__" 0 .none .none .none .none none .none .none 0)), #[]⟩
noncomputable def o366 (P : Params) : Obj := ⟨(.type "code"), none, (.fields #[(.str "__init__" 757), (.str "StringIO.__init__" 758), (.str "/claim/cut.py" 759), (.int 206 0), (.int 3 0), (.int 0 0), (.int 0 0), (.int 3 0), (.ref 361), (.bool true), (.int 318 0), (.ref 362), .none, (.ref 363), (.ref 364), (.ref 365), (.int 763 0), (.int 206 0), (.str "/claim/cut.py" 764)]), #[]⟩
noncomputable def o367 (P : Params) : Obj := ⟨(.type "function"), none, (.func (fd (sm 12 1) "StringIO.__init__" 3 (.ref 360) .none .none (.str "io" 371) none (.ref 366) .none 0)), #[]⟩
noncomputable def o370 (P : Params) : Obj := ⟨(.type "tuple"), none, (.seq #[(.str "self" 769), (.str "s" 770), (.str "newline" 771)] 0), #[]⟩
noncomputable def o372 (P : Params) : Obj := ⟨.none, none, (.func (fd (sm 12 2) "StringIO.__translated" 0 .none .none .none .none none .none .none 0)), #[]⟩
noncomputable def o373 (P : Params) : Obj := ⟨(.type "code"), none, (.fields #[(.str "__translated" 766), (.str "StringIO.__translated" 767), (.str "/claim/cut.py" 768), (.int 219 0), (.int 2 0), (.int 0 0), (.int 0 0), (.int 3 0), (.ref 368), (.bool true), (.int 318 0), (.ref 369), .none, (.ref 370), (.ref 371), (.ref 372), (.int 772 0), (.int 219 0), (.str "/claim/cut.py" 773)]), #[]⟩
noncomputable def o374 (P : Params) : Obj := ⟨(.type "function"), none, (.func (fd (sm 12 2) "StringIO.__translated" 3 .none .none .none (.str "io" 371) none (.ref 373) .none 0)), #[]⟩
noncomputable def o377 (P : Params) : Obj := ⟨(.type "tuple"), none, (.seq #[(.str "self" 778)] 0), #[]⟩
noncomputable def o379 (P : Params) : Obj := ⟨.none, none, (.func (fd (sm 12 3) "StringIO.__check" 0 .none .none .none .none none .none .none 0)), #[]⟩
noncomputable def o380 (P : Params) : Obj := ⟨(.type "code"), none, (.fields #[(.str "__check" 775), (.str "StringIO.__check" 776), (.str "/claim/cut.py" 777), (.int 227 0), (.int 1 0), (.int 0 0), (.int 0 0), (.int 3 0), (.ref 375), (.bool true), (.int 318 0), (.ref 376), .none, (.ref 377), (.ref 378), (.ref 379), (.int 779 0), (.int 227 0), (.str "/claim/cut.py" 780)]), #[]⟩
noncomputable def o381 (P : Params) : Obj := ⟨(.type "function"), none, (.func (fd (sm 12 3) "StringIO.__check" 3 .none .none .none (.str "io" 371) none (.ref 380) .none 0)), #[]⟩
noncomputable def o384 (P : Params) : Obj := ⟨(.type "tuple"), none, (.seq #[(.str "self" 785)] 0), #[]⟩
noncomputable def o386 (P : Params) : Obj := ⟨.none, none, (.func (fd (sm 12 4) "StringIO.__check_dot" 0 .none .none .none .none none .none .none 0)), #[]⟩
noncomputable def o387 (P : Params) : Obj := ⟨(.type "code"), none, (.fields #[(.str "__check_dot" 782), (.str "StringIO.__check_dot" 783), (.str "/claim/cut.py" 784), (.int 231 0), (.int 1 0), (.int 0 0), (.int 0 0), (.int 3 0), (.ref 382), (.bool true), (.int 318 0), (.ref 383), .none, (.ref 384), (.ref 385), (.ref 386), (.int 786 0), (.int 231 0), (.str "/claim/cut.py" 787)]), #[]⟩
noncomputable def o388 (P : Params) : Obj := ⟨(.type "function"), none, (.func (fd (sm 12 4) "StringIO.__check_dot" 3 .none .none .none (.str "io" 371) none (.ref 387) .none 0)), #[]⟩
noncomputable def o391 (P : Params) : Obj := ⟨(.type "tuple"), none, (.seq #[(.str "self" 792), (.str "limit" 793), (.str "start" 794), (.str "stop" 795), (.str "cut" 796), (.str "newline" 797), (.str "i" 798), (.str "j" 799), (.str "end" 800)] 0), #[]⟩
noncomputable def o393 (P : Params) : Obj := ⟨.none, none, (.func (fd (sm 12 5) "StringIO.__line" 0 .none .none .none .none none .none .none 0)), #[]⟩
noncomputable def o394 (P : Params) : Obj := ⟨(.type "code"), none, (.fields #[(.str "__line" 789), (.str "StringIO.__line" 790), (.str "/claim/cut.py" 791), (.int 235 0), (.int 2 0), (.int 0 0), (.int 0 0), (.int 3 0), (.ref 389), (.bool true), (.int 318 0), (.ref 390), .none, (.ref 391), (.ref 392), (.ref 393), (.int 801 0), (.int 235 0), (.str "/claim/cut.py" 802)]), #[]⟩
noncomputable def o395 (P : Params) : Obj := ⟨(.type "function"), none, (.func (fd (sm 12 5) "StringIO.__line" 3 .none .none .none (.str "io" 371) none (.ref 394) .none 0)), #[]⟩
noncomputable def o398 (P : Params) : Obj := ⟨(.type "tuple"), none, (.seq #[(.str "self" 807)] 0), #[]⟩
noncomputable def o400 (P : Params) : Obj := ⟨.none, none, (.func (fd (sm 12 6) "StringIO.closed" 0 .none .none .none .none none .none .none 0)), #[]⟩
noncomputable def o401 (P : Params) : Obj := ⟨(.type "code"), none, (.fields #[(.str "closed" 804), (.str "StringIO.closed" 805), (.str "/claim/cut.py" 806), (.int 267 0), (.int 1 0), (.int 0 0), (.int 0 0), (.int 3 0), (.ref 396), (.bool true), (.int 318 0), (.ref 397), .none, (.ref 398), (.ref 399), (.ref 400), (.int 808 0), (.int 267 0), (.str "/claim/cut.py" 809)]), #[]⟩
noncomputable def o402 (P : Params) : Obj := ⟨(.type "function"), none, (.func (fd (sm 12 6) "StringIO.closed" 3 .none .none .none (.str "io" 371) none (.ref 401) .none 0)), #[]⟩
noncomputable def o403 (P : Params) : Obj := ⟨(.type "property"), none, (.fields #[(.ref 402), .none, .none, .none, (.str "closed" 811), (.bool false)]), #[]⟩
noncomputable def o406 (P : Params) : Obj := ⟨(.type "tuple"), none, (.seq #[(.str "self" 815)] 0), #[]⟩
noncomputable def o408 (P : Params) : Obj := ⟨.none, none, (.func (fd (sm 12 7) "StringIO.line_buffering" 0 .none .none .none .none none .none .none 0)), #[]⟩
noncomputable def o409 (P : Params) : Obj := ⟨(.type "code"), none, (.fields #[(.str "line_buffering" 812), (.str "StringIO.line_buffering" 813), (.str "/claim/cut.py" 814), (.int 271 0), (.int 1 0), (.int 0 0), (.int 0 0), (.int 3 0), (.ref 404), (.bool true), (.int 318 0), (.ref 405), .none, (.ref 406), (.ref 407), (.ref 408), (.int 816 0), (.int 271 0), (.str "/claim/cut.py" 817)]), #[]⟩
noncomputable def o410 (P : Params) : Obj := ⟨(.type "function"), none, (.func (fd (sm 12 7) "StringIO.line_buffering" 3 .none .none .none (.str "io" 371) none (.ref 409) .none 0)), #[]⟩
noncomputable def o411 (P : Params) : Obj := ⟨(.type "property"), none, (.fields #[(.ref 410), .none, .none, .none, (.str "line_buffering" 819), (.bool false)]), #[]⟩
noncomputable def o414 (P : Params) : Obj := ⟨(.type "tuple"), none, (.seq #[(.str "self" 823)] 0), #[]⟩
noncomputable def o416 (P : Params) : Obj := ⟨.none, none, (.func (fd (sm 12 8) "StringIO.newlines" 0 .none .none .none .none none .none .none 0)), #[]⟩
noncomputable def o417 (P : Params) : Obj := ⟨(.type "code"), none, (.fields #[(.str "newlines" 820), (.str "StringIO.newlines" 821), (.str "/claim/cut.py" 822), (.int 275 0), (.int 1 0), (.int 0 0), (.int 0 0), (.int 3 0), (.ref 412), (.bool true), (.int 318 0), (.ref 413), .none, (.ref 414), (.ref 415), (.ref 416), (.int 824 0), (.int 275 0), (.str "/claim/cut.py" 825)]), #[]⟩
noncomputable def o418 (P : Params) : Obj := ⟨(.type "function"), none, (.func (fd (sm 12 8) "StringIO.newlines" 3 .none .none .none (.str "io" 371) none (.ref 417) .none 0)), #[]⟩
noncomputable def o419 (P : Params) : Obj := ⟨(.type "property"), none, (.fields #[(.ref 418), .none, .none, .none, (.str "newlines" 827), (.bool false)]), #[]⟩
noncomputable def o422 (P : Params) : Obj := ⟨(.type "tuple"), none, (.seq #[(.str "self" 831)] 0), #[]⟩
noncomputable def o424 (P : Params) : Obj := ⟨.none, none, (.func (fd (sm 12 9) "StringIO.encoding" 0 .none .none .none .none none .none .none 0)), #[]⟩
noncomputable def o425 (P : Params) : Obj := ⟨(.type "code"), none, (.fields #[(.str "encoding" 828), (.str "StringIO.encoding" 829), (.str "/claim/cut.py" 830), (.int 279 0), (.int 1 0), (.int 0 0), (.int 0 0), (.int 3 0), (.ref 420), (.bool true), (.int 318 0), (.ref 421), .none, (.ref 422), (.ref 423), (.ref 424), (.int 832 0), (.int 279 0), (.str "/claim/cut.py" 833)]), #[]⟩
noncomputable def o426 (P : Params) : Obj := ⟨(.type "function"), none, (.func (fd (sm 12 9) "StringIO.encoding" 3 .none .none .none (.str "io" 371) none (.ref 425) .none 0)), #[]⟩
noncomputable def o427 (P : Params) : Obj := ⟨(.type "property"), none, (.fields #[(.ref 426), .none, .none, .none, (.str "encoding" 835), (.bool false)]), #[]⟩
noncomputable def o430 (P : Params) : Obj := ⟨(.type "tuple"), none, (.seq #[(.str "self" 839)] 0), #[]⟩
noncomputable def o432 (P : Params) : Obj := ⟨.none, none, (.func (fd (sm 12 10) "StringIO.errors" 0 .none .none .none .none none .none .none 0)), #[]⟩
noncomputable def o433 (P : Params) : Obj := ⟨(.type "code"), none, (.fields #[(.str "errors" 836), (.str "StringIO.errors" 837), (.str "/claim/cut.py" 838), (.int 283 0), (.int 1 0), (.int 0 0), (.int 0 0), (.int 3 0), (.ref 428), (.bool true), (.int 318 0), (.ref 429), .none, (.ref 430), (.ref 431), (.ref 432), (.int 840 0), (.int 283 0), (.str "/claim/cut.py" 841)]), #[]⟩
noncomputable def o434 (P : Params) : Obj := ⟨(.type "function"), none, (.func (fd (sm 12 10) "StringIO.errors" 3 .none .none .none (.str "io" 371) none (.ref 433) .none 0)), #[]⟩
noncomputable def o435 (P : Params) : Obj := ⟨(.type "property"), none, (.fields #[(.ref 434), .none, .none, .none, (.str "errors" 843), (.bool false)]), #[]⟩
noncomputable def o438 (P : Params) : Obj := ⟨(.type "tuple"), none, (.seq #[(.str "self" 847)] 0), #[]⟩
noncomputable def o440 (P : Params) : Obj := ⟨.none, none, (.func (fd (sm 12 11) "StringIO.close" 0 .none .none .none .none none .none .none 0)), #[]⟩
noncomputable def o441 (P : Params) : Obj := ⟨(.type "code"), none, (.fields #[(.str "close" 844), (.str "StringIO.close" 845), (.str "/claim/cut.py" 846), (.int 287 0), (.int 1 0), (.int 0 0), (.int 0 0), (.int 3 0), (.ref 436), (.bool true), (.int 318 0), (.ref 437), .none, (.ref 438), (.ref 439), (.ref 440), (.int 848 0), (.int 287 0), (.str "/claim/cut.py" 849)]), #[]⟩
noncomputable def o442 (P : Params) : Obj := ⟨(.type "function"), none, (.func (fd (sm 12 11) "StringIO.close" 3 .none .none .none (.str "io" 371) none (.ref 441) .none 0)), #[]⟩
noncomputable def o445 (P : Params) : Obj := ⟨(.type "tuple"), none, (.seq #[(.str "self" 854)] 0), #[]⟩
noncomputable def o447 (P : Params) : Obj := ⟨.none, none, (.func (fd (sm 12 12) "StringIO.__enter__" 0 .none .none .none .none none .none .none 0)), #[]⟩
noncomputable def o448 (P : Params) : Obj := ⟨(.type "code"), none, (.fields #[(.str "__enter__" 851), (.str "StringIO.__enter__" 852), (.str "/claim/cut.py" 853), (.int 290 0), (.int 1 0), (.int 0 0), (.int 0 0), (.int 3 0), (.ref 443), (.bool true), (.int 318 0), (.ref 444), .none, (.ref 445), (.ref 446), (.ref 447), (.int 855 0), (.int 290 0), (.str "/claim/cut.py" 856)]), #[]⟩
noncomputable def o449 (P : Params) : Obj := ⟨(.type "function"), none, (.func (fd (sm 12 12) "StringIO.__enter__" 3 .none .none .none (.str "io" 371) none (.ref 448) .none 0)), #[]⟩
noncomputable def o452 (P : Params) : Obj := ⟨(.type "tuple"), none, (.seq #[(.str "self" 861), (.str "args" 862)] 0), #[]⟩
noncomputable def o454 (P : Params) : Obj := ⟨.none, none, (.func (fd (sm 12 13) "StringIO.__exit__" 0 .none .none .none .none none .none .none 0)), #[]⟩
noncomputable def o455 (P : Params) : Obj := ⟨(.type "code"), none, (.fields #[(.str "__exit__" 858), (.str "StringIO.__exit__" 859), (.str "/claim/cut.py" 860), (.int 294 0), (.int 1 0), (.int 0 0), (.int 0 0), (.int 7 0), (.ref 450), (.bool true), (.int 318 0), (.ref 451), .none, (.ref 452), (.ref 453), (.ref 454), (.int 863 0), (.int 294 0), (.str "/claim/cut.py" 864)]), #[]⟩
noncomputable def o456 (P : Params) : Obj := ⟨(.type "function"), none, (.func (fd (sm 12 13) "StringIO.__exit__" 3 .none .none .none (.str "io" 371) none (.ref 455) .none 0)), #[]⟩
noncomputable def o459 (P : Params) : Obj := ⟨(.type "tuple"), none, (.seq #[(.str "self" 869)] 0), #[]⟩
noncomputable def o461 (P : Params) : Obj := ⟨.none, none, (.func (fd (sm 12 14) "StringIO.readable" 0 .none .none .none .none none .none .none 0)), #[]⟩
noncomputable def o462 (P : Params) : Obj := ⟨(.type "code"), none, (.fields #[(.str "readable" 866), (.str "StringIO.readable" 867), (.str "/claim/cut.py" 868), (.int 297 0), (.int 1 0), (.int 0 0), (.int 0 0), (.int 3 0), (.ref 457), (.bool true), (.int 318 0), (.ref 458), .none, (.ref 459), (.ref 460), (.ref 461), (.int 870 0), (.int 297 0), (.str "/claim/cut.py" 871)]), #[]⟩
noncomputable def o463 (P : Params) : Obj := ⟨(.type "function"), none, (.func (fd (sm 12 14) "StringIO.readable" 3 .none .none .none (.str "io" 371) none (.ref 462) .none 0)), #[]⟩
noncomputable def o466 (P : Params) : Obj := ⟨(.type "tuple"), none, (.seq #[(.str "self" 876)] 0), #[]⟩
noncomputable def o468 (P : Params) : Obj := ⟨.none, none, (.func (fd (sm 12 15) "StringIO.writable" 0 .none .none .none .none none .none .none 0)), #[]⟩
noncomputable def o469 (P : Params) : Obj := ⟨(.type "code"), none, (.fields #[(.str "writable" 873), (.str "StringIO.writable" 874), (.str "/claim/cut.py" 875), (.int 301 0), (.int 1 0), (.int 0 0), (.int 0 0), (.int 3 0), (.ref 464), (.bool true), (.int 318 0), (.ref 465), .none, (.ref 466), (.ref 467), (.ref 468), (.int 877 0), (.int 301 0), (.str "/claim/cut.py" 878)]), #[]⟩
noncomputable def o470 (P : Params) : Obj := ⟨(.type "function"), none, (.func (fd (sm 12 15) "StringIO.writable" 3 .none .none .none (.str "io" 371) none (.ref 469) .none 0)), #[]⟩
noncomputable def o473 (P : Params) : Obj := ⟨(.type "tuple"), none, (.seq #[(.str "self" 883)] 0), #[]⟩
noncomputable def o475 (P : Params) : Obj := ⟨.none, none, (.func (fd (sm 12 16) "StringIO.seekable" 0 .none .none .none .none none .none .none 0)), #[]⟩
noncomputable def o476 (P : Params) : Obj := ⟨(.type "code"), none, (.fields #[(.str "seekable" 880), (.str "StringIO.seekable" 881), (.str "/claim/cut.py" 882), (.int 305 0), (.int 1 0), (.int 0 0), (.int 0 0), (.int 3 0), (.ref 471), (.bool true), (.int 318 0), (.ref 472), .none, (.ref 473), (.ref 474), (.ref 475), (.int 884 0), (.int 305 0), (.str "/claim/cut.py" 885)]), #[]⟩
noncomputable def o477 (P : Params) : Obj := ⟨(.type "function"), none, (.func (fd (sm 12 16) "StringIO.seekable" 3 .none .none .none (.str "io" 371) none (.ref 476) .none 0)), #[]⟩
noncomputable def o480 (P : Params) : Obj := ⟨(.type "tuple"), none, (.seq #[(.str "self" 890)] 0), #[]⟩
noncomputable def o482 (P : Params) : Obj := ⟨.none, none, (.func (fd (sm 12 17) "StringIO.isatty" 0 .none .none .none .none none .none .none 0)), #[]⟩
noncomputable def o483 (P : Params) : Obj := ⟨(.type "code"), none, (.fields #[(.str "isatty" 887), (.str "StringIO.isatty" 888), (.str "/claim/cut.py" 889), (.int 309 0), (.int 1 0), (.int 0 0), (.int 0 0), (.int 3 0), (.ref 478), (.bool true), (.int 318 0), (.ref 479), .none, (.ref 480), (.ref 481), (.ref 482), (.int 891 0), (.int 309 0), (.str "/claim/cut.py" 892)]), #[]⟩
noncomputable def o484 (P : Params) : Obj := ⟨(.type "function"), none, (.func (fd (sm 12 17) "StringIO.isatty" 3 .none .none .none (.str "io" 371) none (.ref 483) .none 0)), #[]⟩
noncomputable def o487 (P : Params) : Obj := ⟨(.type "tuple"), none, (.seq #[(.str "self" 897)] 0), #[]⟩
noncomputable def o489 (P : Params) : Obj := ⟨.none, none, (.func (fd (sm 12 18) "StringIO.flush" 0 .none .none .none .none none .none .none 0)), #[]⟩
noncomputable def o490 (P : Params) : Obj := ⟨(.type "code"), none, (.fields #[(.str "flush" 894), (.str "StringIO.flush" 895), (.str "/claim/cut.py" 896), (.int 313 0), (.int 1 0), (.int 0 0), (.int 0 0), (.int 3 0), (.ref 485), (.bool true), (.int 318 0), (.ref 486), .none, (.ref 487), (.ref 488), (.ref 489), (.int 898 0), (.int 313 0), (.str "/claim/cut.py" 899)]), #[]⟩
noncomputable def o491 (P : Params) : Obj := ⟨(.type "function"), none, (.func (fd (sm 12 18) "StringIO.flush" 3 .none .none .none (.str "io" 371) none (.ref 490) .none 0)), #[]⟩
noncomputable def o494 (P : Params) : Obj := ⟨(.type "tuple"), none, (.seq #[(.str "self" 904)] 0), #[]⟩
noncomputable def o496 (P : Params) : Obj := ⟨.none, none, (.func (fd (sm 12 19) "StringIO.fileno" 0 .none .none .none .none none .none .none 0)), #[]⟩
noncomputable def o497 (P : Params) : Obj := ⟨(.type "code"), none, (.fields #[(.str "fileno" 901), (.str "StringIO.fileno" 902), (.str "/claim/cut.py" 903), (.int 316 0), (.int 1 0), (.int 0 0), (.int 0 0), (.int 3 0), (.ref 492), (.bool true), (.int 318 0), (.ref 493), .none, (.ref 494), (.ref 495), (.ref 496), (.int 905 0), (.int 316 0), (.str "/claim/cut.py" 906)]), #[]⟩
noncomputable def o498 (P : Params) : Obj := ⟨(.type "function"), none, (.func (fd (sm 12 19) "StringIO.fileno" 3 .none .none .none (.str "io" 371) none (.ref 497) .none 0)), #[]⟩
noncomputable def o501 (P : Params) : Obj := ⟨(.type "tuple"), none, (.seq #[(.str "self" 911)] 0), #[]⟩
noncomputable def o503 (P : Params) : Obj := ⟨.none, none, (.func (fd (sm 12 20) "StringIO.detach" 0 .none .none .none .none none .none .none 0)), #[]⟩
noncomputable def o504 (P : Params) : Obj := ⟨(.type "code"), none, (.fields #[(.str "detach" 908), (.str "StringIO.detach" 909), (.str "/claim/cut.py" 910), (.int 319 0), (.int 1 0), (.int 0 0), (.int 0 0), (.int 3 0), (.ref 499), (.bool true), (.int 318 0), (.ref 500), .none, (.ref 501), (.ref 502), (.ref 503), (.int 912 0), (.int 319 0), (.str "/claim/cut.py" 913)]), #[]⟩
noncomputable def o505 (P : Params) : Obj := ⟨(.type "function"), none, (.func (fd (sm 12 20) "StringIO.detach" 3 .none .none .none (.str "io" 371) none (.ref 504) .none 0)), #[]⟩
noncomputable def o508 (P : Params) : Obj := ⟨(.type "tuple"), none, (.seq #[(.str "self" 918)] 0), #[]⟩
noncomputable def o510 (P : Params) : Obj := ⟨.none, none, (.func (fd (sm 12 21) "StringIO.getvalue" 0 .none .none .none .none none .none .none 0)), #[]⟩
noncomputable def o511 (P : Params) : Obj := ⟨(.type "code"), none, (.fields #[(.str "getvalue" 915), (.str "StringIO.getvalue" 916), (.str "/claim/cut.py" 917), (.int 322 0), (.int 1 0), (.int 0 0), (.int 0 0), (.int 3 0), (.ref 506), (.bool true), (.int 318 0), (.ref 507), .none, (.ref 508), (.ref 509), (.ref 510), (.int 919 0), (.int 322 0), (.str "/claim/cut.py" 920)]), #[]⟩
noncomputable def o512 (P : Params) : Obj := ⟨(.type "function"), none, (.func (fd (sm 12 21) "StringIO.getvalue" 3 .none .none .none (.str "io" 371) none (.ref 511) .none 0)), #[]⟩
noncomputable def o515 (P : Params) : Obj := ⟨(.type "tuple"), none, (.seq #[(.str "self" 925)] 0), #[]⟩
noncomputable def o517 (P : Params) : Obj := ⟨.none, none, (.func (fd (sm 12 22) "StringIO.tell" 0 .none .none .none .none none .none .none 0)), #[]⟩
noncomputable def o518 (P : Params) : Obj := ⟨(.type "code"), none, (.fields #[(.str "tell" 922), (.str "StringIO.tell" 923), (.str "/claim/cut.py" 924), (.int 325 0), (.int 1 0), (.int 0 0), (.int 0 0), (.int 3 0), (.ref 513), (.bool true), (.int 318 0), (.ref 514), .none, (.ref 515), (.ref 516), (.ref 517), (.int 926 0), (.int 325 0), (.str "/claim/cut.py" 927)]), #[]⟩
noncomputable def o519 (P : Params) : Obj := ⟨(.type "function"), none, (.func (fd (sm 12 22) "StringIO.tell" 3 .none .none .none (.str "io" 371) none (.ref 518) .none 0)), #[]⟩
noncomputable def o520 (P : Params) : Obj := ⟨(.type "tuple"), none, (.seq #[(.int 0 929)] 0), #[]⟩
noncomputable def o523 (P : Params) : Obj := ⟨(.type "tuple"), none, (.seq #[(.str "self" 933), (.str "pos" 934), (.str "whence" 935)] 0), #[]⟩
noncomputable def o525 (P : Params) : Obj := ⟨.none, none, (.func (fd (sm 12 23) "StringIO.seek" 0 .none .none .none .none none .none .none 0)), #[]⟩
noncomputable def o526 (P : Params) : Obj := ⟨(.type "code"), none, (.fields #[(.str "seek" 930), (.str "StringIO.seek" 931), (.str "/claim/cut.py" 932), (.int 329 0), (.int 3 0), (.int 3 0), (.int 0 0), (.int 3 0), (.ref 521), (.bool true), (.int 318 0), (.ref 522), .none, (.ref 523), (.ref 524), (.ref 525), (.int 936 0), (.int 329 0), (.str "/claim/cut.py" 937)]), #[]⟩
noncomputable def o527 (P : Params) : Obj := ⟨(.type "function"), none, (.func (fd (sm 12 23) "StringIO.seek" 3 (.ref 520) .none .none (.str "io" 371) none (.ref 526) .none 0)), #[]⟩
noncomputable def o531 (P : Params) : Obj := ⟨(.type "tuple"), none, (.seq #[(.str "self" 942), (.str "pos" 943)] 0), #[]⟩
noncomputable def o533 (P : Params) : Obj := ⟨.none, none, (.func (fd (sm 12 24) "StringIO.truncate" 0 .none .none .none .none none .none .none 0)), #[]⟩
noncomputable def o534 (P : Params) : Obj := ⟨(.type "code"), none, (.fields #[(.str "truncate" 939), (.str "StringIO.truncate" 940), (.str "/claim/cut.py" 941), (.int 346 0), (.int 2 0), (.int 2 0), (.int 0 0), (.int 3 0), (.ref 529), (.bool true), (.int 318 0), (.ref 530), .none, (.ref 531), (.ref 532), (.ref 533), (.int 944 0), (.int 346 0), (.str "/claim/cut.py" 945)]), #[]⟩
noncomputable def o535 (P : Params) : Obj := ⟨(.type "function"), none, (.func (fd (sm 12 24) "StringIO.truncate" 3 (.ref 528) .none .none (.str "io" 371) none (.ref 534) .none 0)), #[]⟩
noncomputable def o536 (P : Params) : Obj := ⟨(.type "tuple"), none, (.seq #[(.int (-1) 948)] 0), #[]⟩
noncomputable def o539 (P : Params) : Obj := ⟨(.type "tuple"), none, (.seq #[(.str "self" 952), (.str "size" 953), (.str "start" 954), (.str "stop" 955)] 0), #[]⟩
noncomputable def o541 (P : Params) : Obj := ⟨.none, none, (.func (fd (sm 12 25) "StringIO.read" 0 .none .none .none .none none .none .none 0)), #[]⟩
noncomputable def o542 (P : Params) : Obj := ⟨(.type "code"), none, (.fields #[(.str "read" 949), (.str "StringIO.read" 950), (.str "/claim/cut.py" 951), (.int 349 0), (.int 2 0), (.int 2 0), (.int 0 0), (.int 3 0), (.ref 537), (.bool true), (.int 318 0), (.ref 538), .none, (.ref 539), (.ref 540), (.ref 541), (.int 956 0), (.int 349 0), (.str "/claim/cut.py" 957)]), #[]⟩
noncomputable def o543 (P : Params) : Obj := ⟨(.type "function"), none, (.func (fd (sm 12 25) "StringIO.read" 3 (.ref 536) .none .none (.str "io" 371) none (.ref 542) .none 0)), #[]⟩
noncomputable def o544 (P : Params) : Obj := ⟨(.type "tuple"), none, (.seq #[(.int (-1) 960)] 0), #[]⟩
noncomputable def o547 (P : Params) : Obj := ⟨(.type "tuple"), none, (.seq #[(.str "self" 964), (.str "size" 965)] 0), #[]⟩
noncomputable def o549 (P : Params) : Obj := ⟨.none, none, (.func (fd (sm 12 26) "StringIO.readline" 0 .none .none .none .none none .none .none 0)), #[]⟩
noncomputable def o550 (P : Params) : Obj := ⟨(.type "code"), none, (.fields #[(.str "readline" 961), (.str "StringIO.readline" 962), (.str "/claim/cut.py" 963), (.int 363 0), (.int 2 0), (.int 2 0), (.int 0 0), (.int 3 0), (.ref 545), (.bool true), (.int 318 0), (.ref 546), .none, (.ref 547), (.ref 548), (.ref 549), (.int 966 0), (.int 363 0), (.str "/claim/cut.py" 967)]), #[]⟩
noncomputable def o551 (P : Params) : Obj := ⟨(.type "function"), none, (.func (fd (sm 12 26) "StringIO.readline" 3 (.ref 544) .none .none (.str "io" 371) none (.ref 550) .none 0)), #[]⟩
noncomputable def o552 (P : Params) : Obj := ⟨(.type "tuple"), none, (.seq #[(.int (-1) 970)] 0), #[]⟩
noncomputable def o555 (P : Params) : Obj := ⟨(.type "tuple"), none, (.seq #[(.str "self" 974), (.str "hint" 975)] 0), #[]⟩
noncomputable def o557 (P : Params) : Obj := ⟨.none, none, (.func (fd (sm 12 27) "StringIO.readlines" 0 .none .none .none .none none .none .none 0)), #[]⟩
noncomputable def o558 (P : Params) : Obj := ⟨(.type "code"), none, (.fields #[(.str "readlines" 971), (.str "StringIO.readlines" 972), (.str "/claim/cut.py" 973), (.int 370 0), (.int 2 0), (.int 2 0), (.int 0 0), (.int 3 0), (.ref 553), (.bool true), (.int 318 0), (.ref 554), .none, (.ref 555), (.ref 556), (.ref 557), (.int 976 0), (.int 370 0), (.str "/claim/cut.py" 977)]), #[]⟩
noncomputable def o559 (P : Params) : Obj := ⟨(.type "function"), none, (.func (fd (sm 12 27) "StringIO.readlines" 3 (.ref 552) .none .none (.str "io" 371) none (.ref 558) .none 0)), #[]⟩
noncomputable def o562 (P : Params) : Obj := ⟨(.type "tuple"), none, (.seq #[(.str "self" 982)] 0), #[]⟩
noncomputable def o564 (P : Params) : Obj := ⟨.none, none, (.func (fd (sm 12 28) "StringIO.__iter__" 0 .none .none .none .none none .none .none 0)), #[]⟩
noncomputable def o565 (P : Params) : Obj := ⟨(.type "code"), none, (.fields #[(.str "__iter__" 979), (.str "StringIO.__iter__" 980), (.str "/claim/cut.py" 981), (.int 373 0), (.int 1 0), (.int 0 0), (.int 0 0), (.int 3 0), (.ref 560), (.bool true), (.int 318 0), (.ref 561), .none, (.ref 562), (.ref 563), (.ref 564), (.int 983 0), (.int 373 0), (.str "/claim/cut.py" 984)]), #[]⟩
noncomputable def o566 (P : Params) : Obj := ⟨(.type "function"), none, (.func (fd (sm 12 28) "StringIO.__iter__" 3 .none .none .none (.str "io" 371) none (.ref 565) .none 0)), #[]⟩
noncomputable def o569 (P : Params) : Obj := ⟨(.type "tuple"), none, (.seq #[(.str "self" 989), (.str "line" 990)] 0), #[]⟩
noncomputable def o571 (P : Params) : Obj := ⟨.none, none, (.func (fd (sm 12 29) "StringIO.__next__" 0 .none .none .none .none none .none .none 0)), #[]⟩
noncomputable def o572 (P : Params) : Obj := ⟨(.type "code"), none, (.fields #[(.str "__next__" 986), (.str "StringIO.__next__" 987), (.str "/claim/cut.py" 988), (.int 377 0), (.int 1 0), (.int 0 0), (.int 0 0), (.int 3 0), (.ref 567), (.bool true), (.int 318 0), (.ref 568), .none, (.ref 569), (.ref 570), (.ref 571), (.int 991 0), (.int 377 0), (.str "/claim/cut.py" 992)]), #[]⟩
noncomputable def o573 (P : Params) : Obj := ⟨(.type "function"), none, (.func (fd (sm 12 29) "StringIO.__next__" 3 .none .none .none (.str "io" 371) none (.ref 572) .none 0)), #[]⟩
noncomputable def o576 (P : Params) : Obj := ⟨(.type "tuple"), none, (.seq #[(.str "self" 997), (.str "s" 998), (.str "n" 999), (.str "m" 1000), (.str "start" 1001), (.str "buf" 1002)] 0), #[]⟩
noncomputable def o578 (P : Params) : Obj := ⟨.none, none, (.func (fd (sm 12 30) "StringIO.write" 0 .none .none .none .none none .none .none 0)), #[]⟩
noncomputable def o579 (P : Params) : Obj := ⟨(.type "code"), none, (.fields #[(.str "write" 994), (.str "StringIO.write" 995), (.str "/claim/cut.py" 996), (.int 384 0), (.int 2 0), (.int 2 0), (.int 0 0), (.int 3 0), (.ref 574), (.bool true), (.int 318 0), (.ref 575), .none, (.ref 576), (.ref 577), (.ref 578), (.int 1003 0), (.int 384 0), (.str "/claim/cut.py" 1004)]), #[]⟩
noncomputable def o580 (P : Params) : Obj := ⟨(.type "function"), none, (.func (fd (sm 12 30) "StringIO.write" 3 .none .none .none (.str "io" 371) none (.ref 579) .none 0)), #[]⟩
noncomputable def o583 (P : Params) : Obj := ⟨(.type "tuple"), none, (.seq #[(.str "self" 1009), (.str "lines" 1010)] 0), #[]⟩
noncomputable def o585 (P : Params) : Obj := ⟨.none, none, (.func (fd (sm 12 31) "StringIO.writelines" 0 .none .none .none .none none .none .none 0)), #[]⟩
noncomputable def o586 (P : Params) : Obj := ⟨(.type "code"), none, (.fields #[(.str "writelines" 1006), (.str "StringIO.writelines" 1007), (.str "/claim/cut.py" 1008), (.int 403 0), (.int 2 0), (.int 2 0), (.int 0 0), (.int 3 0), (.ref 581), (.bool true), (.int 318 0), (.ref 582), .none, (.ref 583), (.ref 584), (.ref 585), (.int 1011 0), (.int 403 0), (.str "/claim/cut.py" 1012)]), #[]⟩
noncomputable def o587 (P : Params) : Obj := ⟨(.type "function"), none, (.func (fd (sm 12 31) "StringIO.writelines" 3 .none .none .none (.str "io" 371) none (.ref 586) .none 0)), #[]⟩
noncomputable def o590 (P : Params) : Obj := ⟨(.type "tuple"), none, (.seq #[(.str "self" 1017)] 0), #[]⟩
noncomputable def o592 (P : Params) : Obj := ⟨.none, none, (.func (fd (sm 12 32) "StringIO.__repr__" 0 .none .none .none .none none .none .none 0)), #[]⟩
noncomputable def o593 (P : Params) : Obj := ⟨(.type "code"), none, (.fields #[(.str "__repr__" 1014), (.str "StringIO.__repr__" 1015), (.str "/claim/cut.py" 1016), (.int 406 0), (.int 1 0), (.int 0 0), (.int 0 0), (.int 3 0), (.ref 588), (.bool true), (.int 318 0), (.ref 589), .none, (.ref 590), (.ref 591), (.ref 592), (.int 1018 0), (.int 406 0), (.str "/claim/cut.py" 1019)]), #[]⟩
noncomputable def o594 (P : Params) : Obj := ⟨(.type "function"), none, (.func (fd (sm 12 32) "StringIO.__repr__" 3 .none .none .none (.str "io" 371) none (.ref 593) .none 0)), #[]⟩
noncomputable def o595 (P : Params) : Obj := ⟨(.type "tuple"), none, (.seq #[(.str "__buf" 1021), (.str "__newline" 1022), (.str "__pos" 1023)] 0), #[]⟩
noncomputable def o596 (P : Params) : Obj := ⟨(.type "dict"), none, (.dict #[de P "__module__" 748 (.str "_io" 753), de P "__firstlineno__" 752 (.int 203 751), de P "__init__" 765 (.ref 367), de P "_StringIO__translated" 774 (.ref 374), de P "_StringIO__check" 781 (.ref 381), de P "_StringIO__check_dot" 788 (.ref 388), de P "_StringIO__line" 803 (.ref 395), de P "closed" 811 (.ref 403), de P "line_buffering" 819 (.ref 411), de P "newlines" 827 (.ref 419), de P "encoding" 835 (.ref 427), de P "errors" 843 (.ref 435), de P "close" 850 (.ref 442), de P "__enter__" 857 (.ref 449), de P "__exit__" 865 (.ref 456), de P "readable" 872 (.ref 463), de P "writable" 879 (.ref 470), de P "seekable" 886 (.ref 477), de P "isatty" 893 (.ref 484), de P "flush" 900 (.ref 491), de P "fileno" 907 (.ref 498), de P "detach" 914 (.ref 505), de P "getvalue" 921 (.ref 512), de P "tell" 928 (.ref 519), de P "seek" 938 (.ref 527), de P "truncate" 946 (.ref 535), de P "read" 958 (.ref 543), de P "readline" 968 (.ref 551), de P "readlines" 978 (.ref 559), de P "__iter__" 985 (.ref 566), de P "__next__" 993 (.ref 573), de P "write" 1005 (.ref 580), de P "writelines" 1013 (.ref 587), de P "__repr__" 1020 (.ref 594), de P "__static_attributes__" 1024 (.ref 595), de P "__doc__" 1025 .none] 2), #[]⟩
noncomputable def o597 (P : Params) : Obj := ⟨(.type "type"), none, (.cls ⟨"StringIO", [(.ref 120)], [(.ref 597), (.ref 120), (.ref 93), (.type "object")], 596, "StringIO", true, [], [], false, none, false⟩), #[some (.ref 353), none, some (.str "StringIO" 741), some (.str "StringIO" 749), some .none, some (.bool true)]⟩
noncomputable def o598 (P : Params) : Obj := ⟨(.type "super"), none, (.fields #[(.ref 597), (.ref 597), (.ref 597)]), #[]⟩
noncomputable def o599 (P : Params) : Obj := ⟨(.type "builtin_function_or_method"), none, (.fields #[(.builtin "object.__init_subclass__"), (.ref 597)]), #[]⟩
noncomputable def t3 (P : Params) : BT := (.node (o0 P) (.node (o1 P) (.node (o3v233 P) (.node (o7 P) (.node (o7 P) (.node (o19 P) (.node (o63 P) (.node (o127 P) (.node (o7 P) (.node (o511 P) .nil .nil) .nil) (.node (o8 P) .nil .nil)) (.node (o7 P) (.node (o319 P) (.node (o8 P) .nil .nil) .nil) (.node (o447 P) .nil .nil))) (.node (o95 P) (.node (o159 P) (.node (o287 P) (.node (o543 P) .nil .nil) .nil) (.node (o7 P) .nil .nil)) (.node (o7 P) (.node (o351 P) .nil .nil) (.node (o8 P) .nil .nil)))) (.node (o47 P) (.node (o79 P) (.node (o143 P) (.node (o7 P) (.node (o527 P) .nil .nil) .nil) (.node (o7 P) .nil .nil)) (.node (o207 P) (.node (o8 P) (.node (o7 P) .nil .nil) .nil) (.node (o463 P) .nil .nil))) (.node (o99 P) (.node (o8 P) (.node (o303 P) (.node (o559 P) .nil .nil) .nil) (.node (o7 P) .nil .nil)) (.node (o239 P) (.node (o367 P) .nil .nil) (.node (o7 P) .nil .nil))))) (.node (o23 P) (.node (o8 P) (.node (o7 P) (.node (o135 P) (.node (o7 P) (.node (o519 P) .nil .nil) .nil) (.node (o391 P) .nil .nil)) (.node (o199 P) (.node (o7 P) (.node (o583 P) .nil .nil) .nil) (.node (o455 P) .nil .nil))) (.node (o8 P) (.node (o7 P) (.node (o295 P) (.node (o551 P) .nil .nil) .nil) (.node (o7 P) .nil .nil)) (.node (o8 P) (.node (o359 P) .nil .nil) (.node (o487 P) .nil .nil)))) (.node (o55 P) (.node (o7 P) (.node (o151 P) (.node (o7 P) (.node (o535 P) .nil .nil) .nil) (.node (o7 P) .nil .nil)) (.node (o215 P) (.node (o343 P) (.node (o599 P) .nil .nil) .nil) (.node (o7 P) .nil .nil))) (.node (o119 P) (.node (o183 P) (.node (o311 P) (.node (o7 P) .nil .nil) .nil) (.node (o7 P) .nil .nil)) (.node (o7 P) (.node (o7 P) .nil .nil) (.node (o503 P) .nil .nil)))))) (.node (o11v32 P) (.node (o19 P) (.node (o35v234 P) (.node (o7 P) (.node (o7 P) (.node (o47 P) (.node (o515 P) .nil .nil) .nil) (.node (o387 P) .nil .nil)) (.node (o7 P) (.node (o7 P) (.node (o579 P) .nil .nil) .nil) (.node (o8 P) .nil .nil))) (.node (o99 P) (.node (o7 P) (.node (o8 P) (.node (o547 P) .nil .nil) .nil) (.node (o419 P) .nil .nil)) (.node (o227 P) (.node (o355 P) .nil .nil) (.node (o483 P) .nil .nil)))) (.node (o8 P) (.node (o83 P) (.node (o147 P) (.node (o275 P) (.node (o531 P) .nil .nil) .nil) (.node (o403 P) .nil .nil)) (.node (o211 P) (.node (o339 P) (.node (o595 P) .nil .nil) .nil) (.node (o7 P) .nil .nil))) (.node (o8 P) (.node (o179 P) (.node (o8 P) (.node (o7 P) .nil .nil) .nil) (.node (o435 P) .nil .nil)) (.node (o243 P) (.node (o7 P) .nil .nil) (.node (o7 P) .nil .nil))))) (.node (o27 P) (.node (o43 P) (.node (o75 P) (.node (o8 P) (.node (o267 P) (.node (o523 P) .nil .nil) .nil) (.node (o395 P) .nil .nil)) (.node (o8 P) (.node (o331 P) (.node (o587 P) .nil .nil) .nil) (.node (o459 P) .nil .nil))) (.node (o107 P) (.node (o171 P) (.node (o8 P) (.node (o555 P) .nil .nil) .nil) (.node (o427 P) .nil .nil)) (.node (o235 P) (.node (o363 P) .nil .nil) (.node (o491 P) .nil .nil)))) (.node (o59 P) (.node (o7 P) (.node (o7 P) (.node (o7 P) (.node (o539 P) .nil .nil) .nil) (.node (o411 P) .nil .nil)) (.node (o7 P) (.node (o347 P) .nil .nil) (.node (o475 P) .nil .nil))) (.node (o123 P) (.node (o187 P) (.node (o315 P) (.node (o571 P) .nil .nil) .nil) (.node (o7 P) .nil .nil)) (.node (o251 P) (.node (o379 P) .nil .nil) (.node (o8 P) .nil .nil))))))) (.node (o5 P) (.node (o9 P) (.node (o17 P) (.node (o33 P) (.node (o65 P) (.node (o129 P) (.node (o257 P) (.node (o7 P) .nil .nil) .nil) (.node (o7 P) .nil .nil)) (.node (o193 P) (.node (o8 P) (.node (o7 P) .nil .nil) .nil) (.node (o449 P) .nil .nil))) (.node (o97 P) (.node (o8 P) (.node (o289 P) (.node (o7 P) .nil .nil) .nil) (.node (o417 P) .nil .nil)) (.node (o225 P) (.node (o353 P) .nil .nil) (.node (o7 P) .nil .nil)))) (.node (o49 P) (.node (o81 P) (.node (o7 P) (.node (o273 P) (.node (o7 P) .nil .nil) .nil) (.node (o401 P) .nil .nil)) (.node (o7 P) (.node (o7 P) (.node (o593 P) .nil .nil) .nil) (.node (o8 P) .nil .nil))) (.node (o113 P) (.node (o7 P) (.node (o47 P) (.node (o8 P) .nil .nil) .nil) (.node (o433 P) .nil .nil)) (.node (o241 P) (.node (o8 P) .nil .nil) (.node (o497 P) .nil .nil))))) (.node (o25 P) (.node (o7 P) (.node (o73 P) (.node (o137 P) (.node (o265 P) (.node (o7 P) .nil .nil) .nil) (.node (o393 P) .nil .nil)) (.node (o201 P) (.node (o329 P) (.node (o585 P) .nil .nil) .nil) (.node (o7 P) .nil .nil))) (.node (o105 P) (.node (o169 P) (.node (o297 P) (.node (o7 P) .nil .nil) .nil) (.node (o425 P) .nil .nil)) (.node (o7 P) (.node (o7 P) .nil .nil) (.node (o489 P) .nil .nil)))) (.node (o7 P) (.node (o89 P) (.node (o8 P) (.node (o281 P) (.node (o7 P) .nil .nil) .nil) (.node (o409 P) .nil .nil)) (.node (o8 P) (.node (o345 P) .nil .nil) (.node (o473 P) .nil .nil))) (.node (o121 P) (.node (o185 P) (.node (o7 P) (.node (o569 P) .nil .nil) .nil) (.node (o441 P) .nil .nil)) (.node (o249 P) (.node (o377 P) .nil .nil) (.node (o505 P) .nil .nil)))))) (.node (o13 P) (.node (o21 P) (.node (o37 P) (.node (o69 P) (.node (o133 P) (.node (o8 P) (.node (o517 P) .nil .nil) .nil) (.node (o7 P) .nil .nil)) (.node (o197 P) (.node (o325 P) (.node (o7 P) .nil .nil) .nil) (.node (o7 P) .nil .nil))) (.node (o101 P) (.node (o165 P) (.node (o7 P) (.node (o549 P) .nil .nil) .nil) (.node (o8 P) .nil .nil)) (.node (o229 P) (.node (o357 P) .nil .nil) (.node (o7 P) .nil .nil)))) (.node (o7 P) (.node (o8 P) (.node (o149 P) (.node (o8 P) (.node (o533 P) .nil .nil) .nil) (.node (o8 P) .nil .nil)) (.node (o213 P) (.node (o7 P) (.node (o597 P) .nil .nil) .nil) (.node (o469 P) .nil .nil))) (.node (o117 P) (.node (o7 P) (.node (o7 P) (.node (o565 P) .nil .nil) .nil) (.node (o8 P) .nil .nil)) (.node (o8 P) (.node (o373 P) .nil .nil) (.node (o501 P) .nil .nil))))) (.node (o29v33 P) (.node (o45 P) (.node (o7 P) (.node (o7 P) (.node (o8 P) (.node (o525 P) .nil .nil) .nil) (.node (o8 P) .nil .nil)) (.node (o7 P) (.node (o333 P) (.node (o8 P) .nil .nil) .nil) (.node (o461 P) .nil .nil))) (.node (o109 P) (.node (o173 P) (.node (o7 P) (.node (o557 P) .nil .nil) .nil) (.node (o8 P) .nil .nil)) (.node (o7 P) (.node (o365 P) .nil .nil) (.node (o8 P) .nil .nil)))) (.node (o61 P) (.node (o93 P) (.node (o157 P) (.node (o285 P) (.node (o541 P) .nil .nil) .nil) (.node (o8 P) .nil .nil)) (.node (o221 P) (.node (o349 P) .nil .nil) (.node (o477 P) .nil .nil))) (.node (o125 P) (.node (o8 P) (.node (o317 P) (.node (o573 P) .nil .nil) .nil) (.node (o445 P) .nil .nil)) (.node (o8 P) (.node (o381 P) .nil .nil) (.node (o7 P) .nil .nil)))))))) (.node (o2v36 P) (.node (o4 P) (.node (o8 P) (.node (o16 P) (.node (o32 P) (.node (o64 P) (.node (o128 P) (.node (o256 P) (.node (o512 P) .nil .nil) .nil) (.node (o384 P) .nil .nil)) (.node (o192 P) (.node (o7 P) (.node (o576 P) .nil .nil) .nil) (.node (o448 P) .nil .nil))) (.node (o96 P) (.node (o7 P) (.node (o288 P) (.node (o544 P) .nil .nil) .nil) (.node (o416 P) .nil .nil)) (.node (o8 P) (.node (o352 P) .nil .nil) (.node (o480 P) .nil .nil)))) (.node (o48 P) (.node (o7 P) (.node (o144 P) (.node (o272 P) (.node (o47 P) .nil .nil) .nil) (.node (o400 P) .nil .nil)) (.node (o208 P) (.node (o336 P) (.node (o592 P) .nil .nil) .nil) (.node (o7 P) .nil .nil))) (.node (o65 P) (.node (o176 P) (.node (o304 P) (.node (o7 P) .nil .nil) .nil) (.node (o432 P) .nil .nil)) (.node (o7 P) (.node (o7 P) .nil .nil) (.node (o496 P) .nil .nil))))) (.node (o24 P) (.node (o40 P) (.node (o72 P) (.node (o136 P) (.node (o264 P) (.node (o520 P) .nil .nil) .nil) (.node (o7 P) .nil .nil)) (.node (o200 P) (.node (o8 P) (.node (o7 P) .nil .nil) .nil) (.node (o456 P) .nil .nil))) (.node (o104 P) (.node (o8 P) (.node (o296 P) (.node (o552 P) .nil .nil) .nil) (.node (o424 P) .nil .nil)) (.node (o232 P) (.node (o360 P) .nil .nil) (.node (o7 P) .nil .nil)))) (.node (o56 P) (.node (o88 P) (.node (o7 P) (.node (o280 P) (.node (o536 P) .nil .nil) .nil) (.node (o408 P) .nil .nil)) (.node (o7 P) (.node (o7 P) .nil .nil) (.node (o8 P) .nil .nil))) (.node (o120v235 P) (.node (o7 P) (.node (o312 P) (.node (o8 P) .nil .nil) .nil) (.node (o440 P) .nil .nil)) (.node (o248 P) (.node (o8 P) .nil .nil) (.node (o504 P) .nil .nil)))))) (.node (o12 P) (.node (o20 P) (.node (o36 P) (.node (o8 P) (.node (o8 P) (.node (o7 P) (.node (o7 P) .nil .nil) .nil) (.node (o388 P) .nil .nil)) (.node (o8 P) (.node (o324 P) (.node (o580 P) .nil .nil) .nil) (.node (o452 P) .nil .nil))) (.node (o65 P) (.node (o164 P) (.node (o292 P) (.node (o7 P) .nil .nil) .nil) (.node (o7 P) .nil .nil)) (.node (o228 P) (.node (o7 P) .nil .nil) (.node (o484 P) .nil .nil)))) (.node (o52 P) (.node (o7 P) (.node (o7 P) (.node (o7 P) (.node (o7 P) .nil .nil) .nil) (.node (o7 P) .nil .nil)) (.node (o7 P) (.node (o340 P) (.node (o596 P) .nil .nil) .nil) (.node (o468 P) .nil .nil))) (.node (o116 P) (.node (o180 P) (.node (o308 P) (.node (o564 P) .nil .nil) .nil) (.node (o7 P) .nil .nil)) (.node (o7 P) (.node (o372 P) .nil .nil) (.node (o8 P) .nil .nil))))) (.node (o28 P) (.node (o44 P) (.node (o76 P) (.node (o140 P) (.node (o7 P) (.node (o7 P) .nil .nil) .nil) (.node (o7 P) .nil .nil)) (.node (o204 P) (.node (o332 P) (.node (o7 P) .nil .nil) .nil) (.node (o7 P) .nil .nil))) (.node (o108v97 P) (.node (o172 P) (.node (o300 P) (.node (o7 P) .nil .nil) .nil) (.node (o7 P) .nil .nil)) (.node (o236 P) (.node (o7 P) .nil .nil) (.node (o7 P) .nil .nil)))) (.node (o7 P) (.node (o92 P) (.node (o156 P) (.node (o8 P) (.node (o7 P) .nil .nil) .nil) (.node (o7 P) .nil .nil)) (.node (o220 P) (.node (o348 P) .nil .nil) (.node (o476 P) .nil .nil))) (.node (o65 P) (.node (o7 P) (.node (o7 P) (.node (o572 P) .nil .nil) .nil) (.node (o8 P) .nil .nil)) (.node (o7 P) (.node (o380 P) .nil .nil) (.node (o508 P) .nil .nil))))))) (.node (o6 P) (.node (o10 P) (.node (o18 P) (.node (o7 P) (.node (o66 P) (.node (o47 P) (.node (o258 P) (.node (o8 P) .nil .nil) .nil) (.node (o386 P) .nil .nil)) (.node (o194 P) (.node (o322 P) (.node (o578 P) .nil .nil) .nil) (.node (o7 P) .nil .nil))) (.node (o98 P) (.node (o162 P) (.node (o7 P) (.node (o8 P) .nil .nil) .nil) (.node (o418 P) .nil .nil)) (.node (o7 P) (.node (o65 P) .nil .nil) (.node (o482 P) .nil .nil)))) (.node (o7 P) (.node (o82 P) (.node (o8 P) (.node (o274 P) (.node (o8 P) .nil .nil) .nil) (.node (o402 P) .nil .nil)) (.node (o8 P) (.node (o338 P) (.node (o594 P) .nil .nil) .nil) (.node (o466 P) .nil .nil))) (.node (o7 P) (.node (o178 P) (.node (o7 P) (.node (o562 P) .nil .nil) .nil) (.node (o434 P) .nil .nil)) (.node (o242 P) (.node (o370 P) .nil .nil) (.node (o498 P) .nil .nil))))) (.node (o26 P) (.node (o42 P) (.node (o74 P) (.node (o7 P) (.node (o266 P) (.node (o8 P) .nil .nil) .nil) (.node (o394 P) .nil .nil)) (.node (o7 P) (.node (o7 P) (.node (o586 P) .nil .nil) .nil) (.node (o8 P) .nil .nil))) (.node (o7 P) (.node (o7 P) (.node (o7 P) (.node (o8 P) .nil .nil) .nil) (.node (o426 P) .nil .nil)) (.node (o234 P) (.node (o8 P) .nil .nil) (.node (o490 P) .nil .nil)))) (.node (o8 P) (.node (o90 P) (.node (o154 P) (.node (o282 P) (.node (o8 P) .nil .nil) .nil) (.node (o410 P) .nil .nil)) (.node (o218 P) (.node (o346 P) .nil .nil) (.node (o7 P) .nil .nil))) (.node (o122 P) (.node (o186 P) (.node (o8 P) (.node (o7 P) .nil .nil) .nil) (.node (o442 P) .nil .nil)) (.node (o250 P) (.node (o7 P) .nil .nil) (.node (o7 P) .nil .nil)))))) (.node (o14 P) (.node (o22 P) (.node (o7 P) (.node (o70 P) (.node (o7 P) (.node (o262 P) (.node (o518 P) .nil .nil) .nil) (.node (o8 P) .nil .nil)) (.node (o7 P) (.node (o326 P) (.node (o8 P) .nil .nil) .nil) (.node (o454 P) .nil .nil))) (.node (o7 P) (.node (o166 P) (.node (o294 P) (.node (o550 P) .nil .nil) .nil) (.node (o422 P) .nil .nil)) (.node (o7 P) (.node (o358 P) .nil .nil) (.node (o8 P) .nil .nil)))) (.node (o54 P) (.node (o86 P) (.node (o150 P) (.node (o278 P) (.node (o534 P) .nil .nil) .nil) (.node (o406 P) .nil .nil)) (.node (o214 P) (.node (o8 P) (.node (o598 P) .nil .nil) .nil) (.node (o470 P) .nil .nil))) (.node (o7 P) (.node (o8 P) (.node (o310 P) (.node (o566 P) .nil .nil) .nil) (.node (o438 P) .nil .nil)) (.node (o246 P) (.node (o374 P) .nil .nil) (.node (o7 P) .nil .nil))))) (.node (o30 P) (.node (o6 P) (.node (o65 P) (.node (o142 P) (.node (o270 P) (.node (o526 P) .nil .nil) .nil) (.node (o398 P) .nil .nil)) (.node (o206 P) (.node (o7 P) (.node (o590 P) .nil .nil) .nil) (.node (o462 P) .nil .nil))) (.node (o110 P) (.node (o7 P) (.node (o302 P) (.node (o558 P) .nil .nil) .nil) (.node (o430 P) .nil .nil)) (.node (o8 P) (.node (o366 P) .nil .nil) (.node (o494 P) .nil .nil)))) (.node (o62 P) (.node (o94 P) (.node (o158 P) (.node (o7 P) (.node (o542 P) .nil .nil) .nil) (.node (o414 P) .nil .nil)) (.node (o222 P) (.node (o350 P) .nil .nil) (.node (o7 P) .nil .nil))) (.node (o7 P) (.node (o190 P) (.node (o318 P) (.node (o7 P) .nil .nil) .nil) (.node (o7 P) .nil .nil)) (.node (o254 P) (.node (o7 P) .nil .nil) (.node (o510 P) .nil .nil)))))))))
noncomputable def o3v384 (P : Params) : Obj := ⟨(.type "dict"), none, (.dict #[de P "__name__" 165 (.str "cpy313.shlex" 1088), de P "__doc__" 166 .none, de P "__package__" 167 .none, de P "__loader__" 168 (.builtin "__main__.__loader__#\x6fpaque"), de P "__spec__" 169 .none, de P "__annotations__" 170 (.ref 6), de P "__builtins__" 171 (.ref 4), de P "__file__" 173 (.str "/claim/cut.py" 172), de P "__cached__" 174 .none, de P "_sre" 275 (.ref 12), de P "deque" 317 (.type "collections.deque"), de P "_wall" 330 (.ref 44), de P "_twin_re_1" 370 (.ref 49), de P "_whence" 380 (.ref 56), de P "_index" 388 (.ref 63), de P "UnsupportedOperation" 410 (.ref 73), de P "IOBase" 442 (.ref 93), de P "BufferedIOBase" 460 (.ref 108), de P "TextIOBase" 478 (.ref 120), de P "BytesIO" 740 (.ref 350), de P "StringIO" 1027 (.ref 597), de P "_kind" 1038 (.ref 606), de P "_fspath" 1047 (.ref 613), de P "_check_arg_types" 1057 (.ref 620), de P "check_arg_types_path" 1058 (.ref 620), de P "isabs" 1065 (.ref 627), de P "join" 1076 (.ref 634), de P "join_path" 1077 (.ref 634), de P "dirname" 1087 (.ref 641), de P "shlex" 1228 (.ref 732)] 30), #[]⟩
noncomputable def o35v385 (P : Params) : Obj := ⟨.none, none, (.fields #[(.int 3 0), (.int 0 0), (.ref 43), (.int 8 0), (.int 0 0), (.ref 55), (.int 13 0), (.int 0 0), (.ref 62), (.int 20 0), (.int 0 0), (.ref 69), (.int 22 0), (.int 0 0), (.ref 82), (.int 29 0), (.int 0 0), (.ref 104), (.int 31 0), (.int 0 0), (.ref 116), (.int 33 0), (.int 0 0), (.ref 128), (.int 203 0), (.int 0 0), (.ref 358), (.int 409 0), (.int 0 0), (.ref 605), (.int 430 0), (.int 0 0), (.ref 612), (.int 435 0), (.int 0 0), (.ref 619), (.int 441 0), (.int 0 0), (.ref 626), (.int 444 0), (.int 0 0), (.ref 633), (.int 465 0), (.int 0 0), (.ref 640), (.int 474 0), (.int 0 0), (.ref 647)]), #[]⟩
noncomputable def o602 (P : Params) : Obj := ⟨(.type "tuple"), none, (.seq #[(.str "name" 1033), (.str "x" 1034), (.str "t" 1035)] 0), #[]⟩
noncomputable def o604 (P : Params) : Obj := ⟨.none, none, (.func (fd (st 14) "_kind" 0 .none .none .none .none none .none .none 0)), #[]⟩
noncomputable def o605 (P : Params) : Obj := ⟨(.type "code"), none, (.fields #[(.str "_kind" 1030), (.str "_kind" 1031), (.str "/claim/cut.py" 1032), (.int 409 0), (.int 2 0), (.int 0 0), (.int 0 0), (.int 3 0), (.ref 600), (.bool true), (.int 318 0), (.ref 601), .none, (.ref 602), (.ref 603), (.ref 604), (.int 1036 0), (.int 409 0), (.str "/claim/cut.py" 1037)]), #[]⟩
noncomputable def o606 (P : Params) : Obj := ⟨(.type "function"), none, (.func (fd (st 14) "_kind" 3 .none .none .none (.str "os.path" 1028) none (.ref 605) .none 0)), #[]⟩
noncomputable def o609 (P : Params) : Obj := ⟨(.type "tuple"), none, (.seq #[(.str "name" 1042), (.str "x" 1043), (.str "k" 1044)] 0), #[]⟩
noncomputable def o611 (P : Params) : Obj := ⟨.none, none, (.func (fd (st 15) "_fspath" 0 .none .none .none .none none .none .none 0)), #[]⟩
noncomputable def o612 (P : Params) : Obj := ⟨(.type "code"), none, (.fields #[(.str "_fspath" 1039), (.str "_fspath" 1040), (.str "/claim/cut.py" 1041), (.int 430 0), (.int 2 0), (.int 0 0), (.int 0 0), (.int 3 0), (.ref 607), (.bool true), (.int 318 0), (.ref 608), .none, (.ref 609), (.ref 610), (.ref 611), (.int 1045 0), (.int 430 0), (.str "/claim/cut.py" 1046)]), #[]⟩
noncomputable def o613 (P : Params) : Obj := ⟨(.type "function"), none, (.func (fd (st 15) "_fspath" 3 .none .none .none (.str "os.path" 1028) none (.ref 612) .none 0)), #[]⟩
noncomputable def o616 (P : Params) : Obj := ⟨(.type "tuple"), none, (.seq #[(.str "funcname" 1051), (.str "args" 1052), (.str "s" 1053), (.str "k" 1054)] 0), #[]⟩
noncomputable def o618 (P : Params) : Obj := ⟨.none, none, (.func (fd (st 16) "_check_arg_types" 0 .none .none .none .none none .none .none 0)), #[]⟩
noncomputable def o619 (P : Params) : Obj := ⟨(.type "code"), none, (.fields #[(.str "_check_arg_types" 1048), (.str "_check_arg_types" 1049), (.str "/claim/cut.py" 1050), (.int 435 0), (.int 1 0), (.int 0 0), (.int 0 0), (.int 7 0), (.ref 614), (.bool true), (.int 318 0), (.ref 615), .none, (.ref 616), (.ref 617), (.ref 618), (.int 1055 0), (.int 435 0), (.str "/claim/cut.py" 1056)]), #[]⟩
noncomputable def o620 (P : Params) : Obj := ⟨(.type "function"), none, (.func (fd (st 16) "_check_arg_types" 3 .none .none .none (.str "os.path" 1028) none (.ref 619) .none 0)), #[]⟩
noncomputable def o623 (P : Params) : Obj := ⟨(.type "tuple"), none, (.seq #[(.str "s" 1062)] 0), #[]⟩
noncomputable def o625 (P : Params) : Obj := ⟨.none, none, (.func (fd (st 18) "isabs" 0 .none .none .none .none none .none .none 0)), #[]⟩
noncomputable def o626 (P : Params) : Obj := ⟨(.type "code"), none, (.fields #[(.str "isabs" 1059), (.str "isabs" 1060), (.str "/claim/cut.py" 1061), (.int 441 0), (.int 1 0), (.int 0 0), (.int 0 0), (.int 3 0), (.ref 621), (.bool true), (.int 318 0), (.ref 622), .none, (.ref 623), (.ref 624), (.ref 625), (.int 1063 0), (.int 441 0), (.str "/claim/cut.py" 1064)]), #[]⟩
noncomputable def o627 (P : Params) : Obj := ⟨(.type "function"), none, (.func (fd (st 18) "isabs" 3 .none .none .none (.str "os.path" 1028) none (.ref 626) .none 0)), #[]⟩
noncomputable def o630 (P : Params) : Obj := ⟨(.type "tuple"), none, (.seq #[(.str "a" 1069), (.str "p" 1070), (.str "b" 1071), (.str "sep" 1072), (.str "path" 1073)] 0), #[]⟩
noncomputable def o632 (P : Params) : Obj := ⟨.none, none, (.func (fd (st 19) "join" 0 .none .none .none .none none .none .none 0)), #[]⟩
noncomputable def o633 (P : Params) : Obj := ⟨(.type "code"), none, (.fields #[(.str "join" 1066), (.str "join" 1067), (.str "/claim/cut.py" 1068), (.int 444 0), (.int 1 0), (.int 0 0), (.int 0 0), (.int 7 0), (.ref 628), (.bool true), (.int 318 0), (.ref 629), .none, (.ref 630), (.ref 631), (.ref 632), (.int 1074 0), (.int 444 0), (.str "/claim/cut.py" 1075)]), #[]⟩
noncomputable def o634 (P : Params) : Obj := ⟨(.type "function"), none, (.func (fd (st 19) "join" 3 .none .none .none (.str "os.path" 1028) none (.ref 633) .none 0)), #[]⟩
noncomputable def o637 (P : Params) : Obj := ⟨(.type "tuple"), none, (.seq #[(.str "p" 1081), (.str "sep" 1082), (.str "i" 1083), (.str "head" 1084)] 0), #[]⟩
noncomputable def o639 (P : Params) : Obj := ⟨.none, none, (.func (fd (st 21) "dirname" 0 .none .none .none .none none .none .none 0)), #[]⟩
noncomputable def o640 (P : Params) : Obj := ⟨(.type "code"), none, (.fields #[(.str "dirname" 1078), (.str "dirname" 1079), (.str "/claim/cut.py" 1080), (.int 465 0), (.int 1 0), (.int 0 0), (.int 0 0), (.int 3 0), (.ref 635), (.bool true), (.int 318 0), (.ref 636), .none, (.ref 637), (.ref 638), (.ref 639), (.int 1085 0), (.int 465 0), (.str "/claim/cut.py" 1086)]), #[]⟩
noncomputable def o641 (P : Params) : Obj := ⟨(.type "function"), none, (.func (fd (st 21) "dirname" 3 .none .none .none (.str "os.path" 1028) none (.ref 640) .none 0)), #[]⟩
noncomputable def o644 (P : Params) : Obj := ⟨(.type "dict"), none, (.dict #[de P "__module__" 1097 (.str "cpy313.shlex" 1088), de P "__qualname__" 1099 (.str "shlex" 1098), de P "__firstlineno__" 1101 (.int 474 1100), de P "__init__" 1113 (.ref 656), de P "punctuation_chars" 1121 (.ref 664), de P "push_token" 1129 (.ref 671), de P "push_source" 1138 (.ref 679), de P "pop_source" 1145 (.ref 686), de P "get_token" 1157 (.ref 693), de P "read_token" 1168 (.ref 700), de P "sourcehook" 1176 (.ref 707), de P "error_leader" 1185 (.ref 715), de P "__iter__" 1192 (.ref 722), de P "__next__" 1200 (.ref 729), de P "__static_attributes__" 1221 (.ref 730)] 15), #[]⟩
noncomputable def o646 (P : Params) : Obj := ⟨.none, none, (.fields #[(.int 476 0), (.int 4 0), (.ref 655), (.int 518 0), (.int 4 0), (.ref 662), (.int 521 0), (.int 4 0), (.ref 670), (.int 524 0), (.int 4 0), (.ref 678), (.int 537 0), (.int 4 0), (.ref 685), (.int 544 0), (.int 4 0), (.ref 692), (.int 571 0), (.int 4 0), (.ref 699), (.int 708 0), (.int 4 0), (.ref 706), (.int 715 0), (.int 4 0), (.ref 714), (.int 718 0), (.int 4 0), (.ref 721), (.int 721 0), (.int 4 0), (.ref 728)]), #[]⟩
noncomputable def o647 (P : Params) : Obj := ⟨(.type "code"), none, (.fields #[(.str "shlex" 1092), (.str "shlex" 1093), (.str "/claim/cut.py" 1094), (.int 474 0), (.int 0 0), (.int 0 0), (.int 0 0), (.int 0 0), (.ref 645), (.bool false), (.int 318 0), (.ref 646), .none, .none, .none, .none, (.int 1095 0), (.int 474 0), (.str "/claim/cut.py" 1096)]), #[]⟩
noncomputable def o648 (P : Params) : Obj := ⟨(.type "frame"), none, .plain, #[some (.ref 647), some (.ref 3), some (.ref 644), none, some (.str "cpy313.shlex" 1088), none, some (.ref 0)]⟩
noncomputable def o649 (P : Params) : Obj := ⟨(.type "tuple"), none, (.seq #[.none, .none, (.bool false), (.bool false)] 0), #[]⟩
noncomputable def o652 (P : Params) : Obj := ⟨(.type "tuple"), none, (.seq #[(.str "self" 1105), (.str "instream" 1106), (.str "infile" 1107), (.str "posix" 1108), (.str "punctuation_chars" 1109), (.str "t" 1110)] 0), #[]⟩
noncomputable def o654 (P : Params) : Obj := ⟨.none, none, (.func (fd (sm 23 0) "shlex.__init__" 0 .none .none .none .none none .none .none 0)), #[]⟩
noncomputable def o655 (P : Params) : Obj := ⟨(.type "code"), none, (.fields #[(.str "__init__" 1102), (.str "shlex.__init__" 1103), (.str "/claim/cut.py" 1104), (.int 476 0), (.int 5 0), (.int 0 0), (.int 0 0), (.int 3 0), (.ref 650), (.bool true), (.int 318 0), (.ref 651), .none, (.ref 652), (.ref 653), (.ref 654), (.int 1111 0), (.int 476 0), (.str "/claim/cut.py" 1112)]), #[]⟩
noncomputable def o656 (P : Params) : Obj := ⟨(.type "function"), none, (.func (fd (sm 23 0) "shlex.__init__" 3 (.ref 649) .none .none (.str "cpy313.shlex" 1088) none (.ref 655) .none 0)), #[]⟩
noncomputable def o659 (P : Params) : Obj := ⟨(.type "tuple"), none, (.seq #[(.str "self" 1117)] 0), #[]⟩
noncomputable def o661 (P : Params) : Obj := ⟨.none, none, (.func (fd (sm 23 1) "shlex.punctuation_chars" 0 .none .none .none .none none .none .none 0)), #[]⟩
noncomputable def o662 (P : Params) : Obj := ⟨(.type "code"), none, (.fields #[(.str "punctuation_chars" 1114), (.str "shlex.punctuation_chars" 1115), (.str "/claim/cut.py" 1116), (.int 517 0), (.int 1 0), (.int 0 0), (.int 0 0), (.int 3 0), (.ref 657), (.bool true), (.int 318 0), (.ref 658), .none, (.ref 659), (.ref 660), (.ref 661), (.int 1118 0), (.int 517 0), (.str "/claim/cut.py" 1119)]), #[]⟩
noncomputable def o663 (P : Params) : Obj := ⟨(.type "function"), none, (.func (fd (sm 23 1) "shlex.punctuation_chars" 3 .none .none .none (.str "cpy313.shlex" 1088) none (.ref 662) .none 0)), #[]⟩
noncomputable def o664 (P : Params) : Obj := ⟨(.type "property"), none, (.fields #[(.ref 663), .none, .none, .none, (.str "punctuation_chars" 1121), (.bool false)]), #[]⟩
noncomputable def o667 (P : Params) : Obj := ⟨(.type "tuple"), none, (.seq #[(.str "self" 1125), (.str "tok" 1126)] 0), #[]⟩
noncomputable def o669 (P : Params) : Obj := ⟨.none, none, (.func (fd (sm 23 2) "shlex.push_token" 0 .none .none .none .none none .none .none 0)), #[]⟩
noncomputable def o670 (P : Params) : Obj := ⟨(.type "code"), none, (.fields #[(.str "push_token" 1122), (.str "shlex.push_token" 1123), (.str "/claim/cut.py" 1124), (.int 521 0), (.int 2 0), (.int 0 0), (.int 0 0), (.int 3 0), (.ref 665), (.bool true), (.int 318 0), (.ref 666), .none, (.ref 667), (.ref 668), (.ref 669), (.int 1127 0), (.int 521 0), (.str "/claim/cut.py" 1128)]), #[]⟩
noncomputable def o671 (P : Params) : Obj := ⟨(.type "function"), none, (.func (fd (sm 23 2) "shlex.push_token" 3 .none .none .none (.str "cpy313.shlex" 1088) none (.ref 670) .none 0)), #[]⟩
noncomputable def o675 (P : Params) : Obj := ⟨(.type "tuple"), none, (.seq #[(.str "self" 1133), (.str "newstream" 1134), (.str "newfile" 1135)] 0), #[]⟩
noncomputable def o677 (P : Params) : Obj := ⟨.none, none, (.func (fd (sm 23 3) "shlex.push_source" 0 .none .none .none .none none .none .none 0)), #[]⟩
noncomputable def o678 (P : Params) : Obj := ⟨(.type "code"), none, (.fields #[(.str "push_source" 1130), (.str "shlex.push_source" 1131), (.str "/claim/cut.py" 1132), (.int 524 0), (.int 3 0), (.int 0 0), (.int 0 0), (.int 3 0), (.ref 673), (.bool true), (.int 318 0), (.ref 674), .none, (.ref 675), (.ref 676), (.ref 677), (.int 1136 0), (.int 524 0), (.str "/claim/cut.py" 1137)]), #[]⟩
noncomputable def o679 (P : Params) : Obj := ⟨(.type "function"), none, (.func (fd (sm 23 3) "shlex.push_source" 3 (.ref 672) .none .none (.str "cpy313.shlex" 1088) none (.ref 678) .none 0)), #[]⟩
noncomputable def o682 (P : Params) : Obj := ⟨(.type "tuple"), none, (.seq #[(.str "self" 1142)] 0), #[]⟩
noncomputable def o684 (P : Params) : Obj := ⟨.none, none, (.func (fd (sm 23 4) "shlex.pop_source" 0 .none .none .none .none none .none .none 0)), #[]⟩
noncomputable def o685 (P : Params) : Obj := ⟨(.type "code"), none, (.fields #[(.str "pop_source" 1139), (.str "shlex.pop_source" 1140), (.str "/claim/cut.py" 1141), (.int 537 0), (.int 1 0), (.int 0 0), (.int 0 0), (.int 3 0), (.ref 680), (.bool true), (.int 318 0), (.ref 681), .none, (.ref 682), (.ref 683), (.ref 684), (.int 1143 0), (.int 537 0), (.str "/claim/cut.py" 1144)]), #[]⟩
noncomputable def o686 (P : Params) : Obj := ⟨(.type "function"), none, (.func (fd (sm 23 4) "shlex.pop_source" 3 .none .none .none (.str "cpy313.shlex" 1088) none (.ref 685) .none 0)), #[]⟩
noncomputable def o689 (P : Params) : Obj := ⟨(.type "tuple"), none, (.seq #[(.str "self" 1149), (.str "tok" 1150), (.str "raw" 1151), (.str "spec" 1152), (.str "newfile" 1153), (.str "newstream" 1154)] 0), #[]⟩
noncomputable def o691 (P : Params) : Obj := ⟨.none, none, (.func (fd (sm 23 5) "shlex.get_token" 0 .none .none .none .none none .none .none 0)), #[]⟩
noncomputable def o692 (P : Params) : Obj := ⟨(.type "code"), none, (.fields #[(.str "get_token" 1146), (.str "shlex.get_token" 1147), (.str "/claim/cut.py" 1148), (.int 544 0), (.int 1 0), (.int 0 0), (.int 0 0), (.int 3 0), (.ref 687), (.bool true), (.int 318 0), (.ref 688), .none, (.ref 689), (.ref 690), (.ref 691), (.int 1155 0), (.int 544 0), (.str "/claim/cut.py" 1156)]), #[]⟩
noncomputable def o693 (P : Params) : Obj := ⟨(.type "function"), none, (.func (fd (sm 23 5) "shlex.get_token" 3 .none .none .none (.str "cpy313.shlex" 1088) none (.ref 692) .none 0)), #[]⟩
noncomputable def o696 (P : Params) : Obj := ⟨(.type "tuple"), none, (.seq #[(.str "self" 1161), (.str "quoted" 1162), (.str "escapedstate" 1163), (.str "nextchar" 1164), (.str "result" 1165)] 0), #[]⟩
noncomputable def o698 (P : Params) : Obj := ⟨.none, none, (.func (fd (sm 23 6) "shlex.read_token" 0 .none .none .none .none none .none .none 0)), #[]⟩
noncomputable def o699 (P : Params) : Obj := ⟨(.type "code"), none, (.fields #[(.str "read_token" 1158), (.str "shlex.read_token" 1159), (.str "/claim/cut.py" 1160), (.int 571 0), (.int 1 0), (.int 0 0), (.int 0 0), (.int 3 0), (.ref 694), (.bool true), (.int 318 0), (.ref 695), .none, (.ref 696), (.ref 697), (.ref 698), (.int 1166 0), (.int 571 0), (.str "/claim/cut.py" 1167)]), #[]⟩
noncomputable def o700 (P : Params) : Obj := ⟨(.type "function"), none, (.func (fd (sm 23 6) "shlex.read_token" 3 .none .none .none (.str "cpy313.shlex" 1088) none (.ref 699) .none 0)), #[]⟩
noncomputable def o703 (P : Params) : Obj := ⟨(.type "tuple"), none, (.seq #[(.str "self" 1172), (.str "newfile" 1173)] 0), #[]⟩
noncomputable def o705 (P : Params) : Obj := ⟨.none, none, (.func (fd (sm 23 7) "shlex.sourcehook" 0 .none .none .none .none none .none .none 0)), #[]⟩
noncomputable def o706 (P : Params) : Obj := ⟨(.type "code"), none, (.fields #[(.str "sourcehook" 1169), (.str "shlex.sourcehook" 1170), (.str "/claim/cut.py" 1171), (.int 708 0), (.int 2 0), (.int 0 0), (.int 0 0), (.int 3 0), (.ref 701), (.bool true), (.int 318 0), (.ref 702), .none, (.ref 703), (.ref 704), (.ref 705), (.int 1174 0), (.int 708 0), (.str "/claim/cut.py" 1175)]), #[]⟩
noncomputable def o707 (P : Params) : Obj := ⟨(.type "function"), none, (.func (fd (sm 23 7) "shlex.sourcehook" 3 .none .none .none (.str "cpy313.shlex" 1088) none (.ref 706) .none 0)), #[]⟩
noncomputable def o708 (P : Params) : Obj := ⟨(.type "tuple"), none, (.seq #[.none, .none] 0), #[]⟩
noncomputable def o711 (P : Params) : Obj := ⟨(.type "tuple"), none, (.seq #[(.str "self" 1180), (.str "infile" 1181), (.str "lineno" 1182)] 0), #[]⟩
noncomputable def o713 (P : Params) : Obj := ⟨.none, none, (.func (fd (sm 23 8) "shlex.error_leader" 0 .none .none .none .none none .none .none 0)), #[]⟩
noncomputable def o714 (P : Params) : Obj := ⟨(.type "code"), none, (.fields #[(.str "error_leader" 1177), (.str "shlex.error_leader" 1178), (.str "/claim/cut.py" 1179), (.int 715 0), (.int 3 0), (.int 0 0), (.int 0 0), (.int 3 0), (.ref 709), (.bool true), (.int 318 0), (.ref 710), .none, (.ref 711), (.ref 712), (.ref 713), (.int 1183 0), (.int 715 0), (.str "/claim/cut.py" 1184)]), #[]⟩
noncomputable def o715 (P : Params) : Obj := ⟨(.type "function"), none, (.func (fd (sm 23 8) "shlex.error_leader" 3 (.ref 708) .none .none (.str "cpy313.shlex" 1088) none (.ref 714) .none 0)), #[]⟩
noncomputable def o718 (P : Params) : Obj := ⟨(.type "tuple"), none, (.seq #[(.str "self" 1189)] 0), #[]⟩
noncomputable def o720 (P : Params) : Obj := ⟨.none, none, (.func (fd (sm 23 9) "shlex.__iter__" 0 .none .none .none .none none .none .none 0)), #[]⟩
noncomputable def o721 (P : Params) : Obj := ⟨(.type "code"), none, (.fields #[(.str "__iter__" 1186), (.str "shlex.__iter__" 1187), (.str "/claim/cut.py" 1188), (.int 718 0), (.int 1 0), (.int 0 0), (.int 0 0), (.int 3 0), (.ref 716), (.bool true), (.int 318 0), (.ref 717), .none, (.ref 718), (.ref 719), (.ref 720), (.int 1190 0), (.int 718 0), (.str "/claim/cut.py" 1191)]), #[]⟩
noncomputable def o722 (P : Params) : Obj := ⟨(.type "function"), none, (.func (fd (sm 23 9) "shlex.__iter__" 3 .none .none .none (.str "cpy313.shlex" 1088) none (.ref 721) .none 0)), #[]⟩
noncomputable def o725 (P : Params) : Obj := ⟨(.type "tuple"), none, (.seq #[(.str "self" 1196), (.str "token" 1197)] 0), #[]⟩
noncomputable def o727 (P : Params) : Obj := ⟨.none, none, (.func (fd (sm 23 10) "shlex.__next__" 0 .none .none .none .none none .none .none 0)), #[]⟩
noncomputable def o728 (P : Params) : Obj := ⟨(.type "code"), none, (.fields #[(.str "__next__" 1193), (.str "shlex.__next__" 1194), (.str "/claim/cut.py" 1195), (.int 721 0), (.int 1 0), (.int 0 0), (.int 0 0), (.int 3 0), (.ref 723), (.bool true), (.int 318 0), (.ref 724), .none, (.ref 725), (.ref 726), (.ref 727), (.int 1198 0), (.int 721 0), (.str "/claim/cut.py" 1199)]), #[]⟩
noncomputable def o729 (P : Params) : Obj := ⟨(.type "function"), none, (.func (fd (sm 23 10) "shlex.__next__" 3 .none .none .none (.str "cpy313.shlex" 1088) none (.ref 728) .none 0)), #[]⟩
noncomputable def o730 (P : Params) : Obj := ⟨(.type "tuple"), none, (.seq #[(.str "_punctuation_chars" 1201), (.str "_pushback_chars" 1202), (.str "commenters" 1203), (.str "debug" 1204), (.str "eof" 1205), (.str "escape" 1206), (.str "escapedquotes" 1207), (.str "filestack" 1208), (.str "infile" 1209), (.str "instream" 1210), (.str "lineno" 1211), (.str "posix" 1212), (.str "pushback" 1213), (.str "quotes" 1214), (.str "source" 1215), (.str "state" 1216), (.str "token" 1217), (.str "whitespace" 1218), (.str "whitespace_split" 1219), (.str "wordchars" 1220)] 0), #[]⟩
noncomputable def o731 (P : Params) : Obj := ⟨(.type "dict"), none, (.dict #[de P "__module__" 1097 (.str "cpy313.shlex" 1088), de P "__firstlineno__" 1101 (.int 474 1100), de P "__init__" 1113 (.ref 656), de P "punctuation_chars" 1121 (.ref 664), de P "push_token" 1129 (.ref 671), de P "push_source" 1138 (.ref 679), de P "pop_source" 1145 (.ref 686), de P "get_token" 1157 (.ref 693), de P "read_token" 1168 (.ref 700), de P "sourcehook" 1176 (.ref 707), de P "error_leader" 1185 (.ref 715), de P "__iter__" 1192 (.ref 722), de P "__next__" 1200 (.ref 729), de P "__static_attributes__" 1221 (.ref 730), de P "__dict__" 1223 (.ref 733), de P "__weakref__" 1225 (.ref 734), de P "__doc__" 1226 .none] 4), #[]⟩
noncomputable def o732 (P : Params) : Obj := ⟨(.type "type"), none, (.cls ⟨"shlex", [(.type "object")], [(.ref 732), (.type "object")], 731, "shlex", true, [], [], false, none, false⟩), #[none, none, some (.str "shlex" 1090), some (.str "shlex" 1098), some (.builtin "object.__new__"), some (.bool true)]⟩
noncomputable def o733 (P : Params) : Obj := ⟨(.type "getset_descriptor"), none, (.fields #[(.str "__dict__" 1222), (.ref 732), (.builtin "function.__dict__"), (.builtin "function.__dict__#set")]), #[]⟩
noncomputable def o734 (P : Params) : Obj := ⟨(.type "getset_descriptor"), none, (.fields #[(.str "__weakref__" 1224), (.ref 732), (.builtin "ExceptionGroup.__weakref__"), .none]), #[]⟩
noncomputable def o735 (P : Params) : Obj := ⟨(.type "super"), none, (.fields #[(.ref 732), (.ref 732), (.ref 732)]), #[]⟩
noncomputable def o736 (P : Params) : Obj := ⟨(.type "builtin_function_or_method"), none, (.fields #[(.builtin "object.__init_subclass__"), (.ref 732)]), #[]⟩
noncomputable def t4 (P : Params) : BT := (.node (o0 P) (.node (o1 P) (.node (o3v384 P) (.node (o7 P) (.node (o7 P) (.node (o19 P) (.node (o63 P) (.node (o127 P) (.node (o7 P) (.node (o511 P) .nil .nil) .nil) (.node (o8 P) (.node (o639 P) .nil .nil) .nil)) (.node (o7 P) (.node (o319 P) (.node (o8 P) .nil .nil) .nil) (.node (o447 P) (.node (o703 P) .nil .nil) .nil))) (.node (o95 P) (.node (o159 P) (.node (o287 P) (.node (o543 P) .nil .nil) .nil) (.node (o7 P) (.node (o671 P) .nil .nil) .nil)) (.node (o7 P) (.node (o351 P) (.node (o7 P) .nil .nil) .nil) (.node (o8 P) (.node (o735 P) .nil .nil) .nil)))) (.node (o47 P) (.node (o79 P) (.node (o143 P) (.node (o7 P) (.node (o527 P) .nil .nil) .nil) (.node (o7 P) (.node (o655 P) .nil .nil) .nil)) (.node (o207 P) (.node (o8 P) (.node (o7 P) .nil .nil) .nil) (.node (o463 P) (.node (o7 P) .nil .nil) .nil))) (.node (o99 P) (.node (o8 P) (.node (o303 P) (.node (o559 P) .nil .nil) .nil) (.node (o7 P) (.node (o7 P) .nil .nil) .nil)) (.node (o239 P) (.node (o367 P) (.node (o623 P) .nil .nil) .nil) (.node (o7 P) .nil .nil))))) (.node (o23 P) (.node (o8 P) (.node (o7 P) (.node (o135 P) (.node (o7 P) (.node (o519 P) .nil .nil) .nil) (.node (o391 P) (.node (o647 P) .nil .nil) .nil)) (.node (o199 P) (.node (o7 P) (.node (o583 P) .nil .nil) .nil) (.node (o455 P) (.node (o711 P) .nil .nil) .nil))) (.node (o8 P) (.node (o7 P) (.node (o295 P) (.node (o551 P) .nil .nil) .nil) (.node (o7 P) (.node (o679 P) .nil .nil) .nil)) (.node (o8 P) (.node (o359 P) (.node (o8 P) .nil .nil) .nil) (.node (o487 P) .nil .nil)))) (.node (o55 P) (.node (o7 P) (.node (o151 P) (.node (o7 P) (.node (o535 P) .nil .nil) .nil) (.node (o7 P) (.node (o663 P) .nil .nil) .nil)) (.node (o215 P) (.node (o343 P) (.node (o599 P) .nil .nil) .nil) (.node (o7 P) (.node (o727 P) .nil .nil) .nil))) (.node (o119 P) (.node (o183 P) (.node (o311 P) (.node (o7 P) .nil .nil) .nil) (.node (o7 P) (.node (o8 P) .nil .nil) .nil)) (.node (o7 P) (.node (o7 P) (.node (o7 P) .nil .nil) .nil) (.node (o503 P) .nil .nil)))))) (.node (o11v32 P) (.node (o19 P) (.node (o35v385 P) (.node (o7 P) (.node (o7 P) (.node (o47 P) (.node (o515 P) .nil .nil) .nil) (.node (o387 P) (.node (o65 P) .nil .nil) .nil)) (.node (o7 P) (.node (o7 P) (.node (o579 P) .nil .nil) .nil) (.node (o8 P) (.node (o707 P) .nil .nil) .nil))) (.node (o99 P) (.node (o7 P) (.node (o8 P) (.node (o547 P) .nil .nil) .nil) (.node (o419 P) (.node (o675 P) .nil .nil) .nil)) (.node (o227 P) (.node (o355 P) (.node (o611 P) .nil .nil) .nil) (.node (o483 P) .nil .nil)))) (.node (o8 P) (.node (o83 P) (.node (o147 P) (.node (o275 P) (.node (o531 P) .nil .nil) .nil) (.node (o403 P) (.node (o659 P) .nil .nil) .nil)) (.node (o211 P) (.node (o339 P) (.node (o595 P) .nil .nil) .nil) (.node (o7 P) (.node (o7 P) .nil .nil) .nil))) (.node (o8 P) (.node (o179 P) (.node (o8 P) (.node (o7 P) .nil .nil) .nil) (.node (o435 P) (.node (o691 P) .nil .nil) .nil)) (.node (o243 P) (.node (o7 P) (.node (o627 P) .nil .nil) .nil) (.node (o7 P) .nil .nil))))) (.node (o27 P) (.node (o43 P) (.node (o75 P) (.node (o8 P) (.node (o267 P) (.node (o523 P) .nil .nil) .nil) (.node (o395 P) (.node (o8 P) .nil .nil) .nil)) (.node (o8 P) (.node (o331 P) (.node (o587 P) .nil .nil) .nil) (.node (o459 P) (.node (o715 P) .nil .nil) .nil))) (.node (o107 P) (.node (o171 P) (.node (o8 P) (.node (o555 P) .nil .nil) .nil) (.node (o427 P) (.node (o7 P) .nil .nil) .nil)) (.node (o235 P) (.node (o363 P) (.node (o619 P) .nil .nil) .nil) (.node (o491 P) .nil .nil)))) (.node (o59 P) (.node (o7 P) (.node (o7 P) (.node (o7 P) (.node (o539 P) .nil .nil) .nil) (.node (o411 P) (.node (o667 P) .nil .nil) .nil)) (.node (o7 P) (.node (o347 P) (.node (o7 P) .nil .nil) .nil) (.node (o475 P) (.node (o731 P) .nil .nil) .nil))) (.node (o123 P) (.node (o187 P) (.node (o315 P) (.node (o571 P) .nil .nil) .nil) (.node (o7 P) (.node (o699 P) .nil .nil) .nil)) (.node (o251 P) (.node (o379 P) (.node (o7 P) .nil .nil) .nil) (.node (o8 P) .nil .nil))))))) (.node (o5 P) (.node (o9 P) (.node (o17 P) (.node (o33 P) (.node (o65 P) (.node (o129 P) (.node (o257 P) (.node (o7 P) .nil .nil) .nil) (.node (o7 P) (.node (o641 P) .nil .nil) .nil)) (.node (o193 P) (.node (o8 P) (.node (o7 P) .nil .nil) .nil) (.node (o449 P) (.node (o705 P) .nil .nil) .nil))) (.node (o97 P) (.node (o8 P) (.node (o289 P) (.node (o7 P) .nil .nil) .nil) (.node (o417 P) (.node (o7 P) .nil .nil) .nil)) (.node (o225 P) (.node (o353 P) (.node (o609 P) .nil .nil) .nil) (.node (o7 P) .nil .nil)))) (.node (o49 P) (.node (o81 P) (.node (o7 P) (.node (o273 P) (.node (o7 P) .nil .nil) .nil) (.node (o401 P) (.node (o7 P) .nil .nil) .nil)) (.node (o7 P) (.node (o7 P) (.node (o593 P) .nil .nil) .nil) (.node (o8 P) (.node (o721 P) .nil .nil) .nil))) (.node (o113 P) (.node (o7 P) (.node (o47 P) (.node (o8 P) .nil .nil) .nil) (.node (o433 P) (.node (o689 P) .nil .nil) .nil)) (.node (o241 P) (.node (o8 P) (.node (o625 P) .nil .nil) .nil) (.node (o497 P) .nil .nil))))) (.node (o25 P) (.node (o7 P) (.node (o73 P) (.node (o137 P) (.node (o265 P) (.node (o7 P) .nil .nil) .nil) (.node (o393 P) (.node (o649 P) .nil .nil) .nil)) (.node (o201 P) (.node (o329 P) (.node (o585 P) .nil .nil) .nil) (.node (o7 P) (.node (o713 P) .nil .nil) .nil))) (.node (o105 P) (.node (o169 P) (.node (o297 P) (.node (o7 P) .nil .nil) .nil) (.node (o425 P) (.node (o8 P) .nil .nil) .nil)) (.node (o7 P) (.node (o7 P) (.node (o7 P) .nil .nil) .nil) (.node (o489 P) .nil .nil)))) (.node (o7 P) (.node (o89 P) (.node (o8 P) (.node (o281 P) (.node (o7 P) .nil .nil) .nil) (.node (o409 P) (.node (o7 P) .nil .nil) .nil)) (.node (o8 P) (.node (o345 P) (.node (o8 P) .nil .nil) .nil) (.node (o473 P) (.node (o729 P) .nil .nil) .nil))) (.node (o121 P) (.node (o185 P) (.node (o7 P) (.node (o569 P) .nil .nil) .nil) (.node (o441 P) (.node (o7 P) .nil .nil) .nil)) (.node (o249 P) (.node (o377 P) (.node (o633 P) .nil .nil) .nil) (.node (o505 P) .nil .nil)))))) (.node (o13 P) (.node (o21 P) (.node (o37 P) (.node (o69 P) (.node (o133 P) (.node (o8 P) (.node (o517 P) .nil .nil) .nil) (.node (o7 P) (.node (o7 P) .nil .nil) .nil)) (.node (o197 P) (.node (o325 P) (.node (o7 P) .nil .nil) .nil) (.node (o7 P) (.node (o7 P) .nil .nil) .nil))) (.node (o101 P) (.node (o165 P) (.node (o7 P) (.node (o549 P) .nil .nil) .nil) (.node (o8 P) (.node (o677 P) .nil .nil) .nil)) (.node (o229 P) (.node (o357 P) (.node (o613 P) .nil .nil) .nil) (.node (o7 P) .nil .nil)))) (.node (o7 P) (.node (o8 P) (.node (o149 P) (.node (o8 P) (.node (o533 P) .nil .nil) .nil) (.node (o8 P) (.node (o661 P) .nil .nil) .nil)) (.node (o213 P) (.node (o7 P) (.node (o597 P) .nil .nil) .nil) (.node (o469 P) (.node (o725 P) .nil .nil) .nil))) (.node (o117 P) (.node (o7 P) (.node (o7 P) (.node (o565 P) .nil .nil) .nil) (.node (o8 P) (.node (o693 P) .nil .nil) .nil)) (.node (o8 P) (.node (o373 P) (.node (o8 P) .nil .nil) .nil) (.node (o501 P) .nil .nil))))) (.node (o29v33 P) (.node (o45 P) (.node (o7 P) (.node (o7 P) (.node (o8 P) (.node (o525 P) .nil .nil) .nil) (.node (o8 P) (.node (o7 P) .nil .nil) .nil)) (.node (o7 P) (.node (o333 P) (.node (o8 P) .nil .nil) .nil) (.node (o461 P) (.node (o8 P) .nil .nil) .nil))) (.node (o109 P) (.node (o173 P) (.node (o7 P) (.node (o557 P) .nil .nil) .nil) (.node (o8 P) (.node (o685 P) .nil .nil) .nil)) (.node (o7 P) (.node (o365 P) (.node (o7 P) .nil .nil) .nil) (.node (o8 P) .nil .nil)))) (.node (o61 P) (.node (o93 P) (.node (o157 P) (.node (o285 P) (.node (o541 P) .nil .nil) .nil) (.node (o8 P) (.node (o669 P) .nil .nil) .nil)) (.node (o221 P) (.node (o349 P) (.node (o605 P) .nil .nil) .nil) (.node (o477 P) (.node (o733 P) .nil .nil) .nil))) (.node (o125 P) (.node (o8 P) (.node (o317 P) (.node (o573 P) .nil .nil) .nil) (.node (o445 P) (.node (o7 P) .nil .nil) .nil)) (.node (o8 P) (.node (o381 P) (.node (o637 P) .nil .nil) .nil) (.node (o7 P) .nil .nil)))))))) (.node (o2v36 P) (.node (o4 P) (.node (o8 P) (.node (o16 P) (.node (o32 P) (.node (o64 P) (.node (o128 P) (.node (o256 P) (.node (o512 P) .nil .nil) .nil) (.node (o384 P) (.node (o640 P) .nil .nil) .nil)) (.node (o192 P) (.node (o7 P) (.node (o576 P) .nil .nil) .nil) (.node (o448 P) (.node (o7 P) .nil .nil) .nil))) (.node (o96 P) (.node (o7 P) (.node (o288 P) (.node (o544 P) .nil .nil) .nil) (.node (o416 P) (.node (o47 P) .nil .nil) .nil)) (.node (o8 P) (.node (o352 P) (.node (o8 P) .nil .nil) .nil) (.node (o480 P) (.node (o736 P) .nil .nil) .nil)))) (.node (o48 P) (.node (o7 P) (.node (o144 P) (.node (o272 P) (.node (o47 P) .nil .nil) .nil) (.node (o400 P) (.node (o656 P) .nil .nil) .nil)) (.node (o208 P) (.node (o336 P) (.node (o592 P) .nil .nil) .nil) (.node (o7 P) (.node (o720 P) .nil .nil) .nil))) (.node (o65 P) (.node (o176 P) (.node (o304 P) (.node (o7 P) .nil .nil) .nil) (.node (o432 P) (.node (o8 P) .nil .nil) .nil)) (.node (o7 P) (.node (o7 P) (.node (o7 P) .nil .nil) .nil) (.node (o496 P) .nil .nil))))) (.node (o24 P) (.node (o40 P) (.node (o72 P) (.node (o136 P) (.node (o264 P) (.node (o520 P) .nil .nil) .nil) (.node (o7 P) (.node (o648 P) .nil .nil) .nil)) (.node (o200 P) (.node (o8 P) (.node (o7 P) .nil .nil) .nil) (.node (o456 P) (.node (o7 P) .nil .nil) .nil))) (.node (o104 P) (.node (o8 P) (.node (o296 P) (.node (o552 P) .nil .nil) .nil) (.node (o424 P) (.node (o7 P) .nil .nil) .nil)) (.node (o232 P) (.node (o360 P) (.node (o616 P) .nil .nil) .nil) (.node (o7 P) .nil .nil)))) (.node (o56 P) (.node (o88 P) (.node (o7 P) (.node (o280 P) (.node (o536 P) .nil .nil) .nil) (.node (o408 P) (.node (o664 P) .nil .nil) .nil)) (.node (o7 P) (.node (o7 P) (.node (o7 P) .nil .nil) .nil) (.node (o8 P) (.node (o728 P) .nil .nil) .nil))) (.node (o120v235 P) (.node (o7 P) (.node (o312 P) (.node (o8 P) .nil .nil) .nil) (.node (o440 P) (.node (o696 P) .nil .nil) .nil)) (.node (o248 P) (.node (o8 P) (.node (o632 P) .nil .nil) .nil) (.node (o504 P) .nil .nil)))))) (.node (o12 P) (.node (o20 P) (.node (o36 P) (.node (o8 P) (.node (o8 P) (.node (o7 P) (.node (o7 P) .nil .nil) .nil) (.node (o388 P) (.node (o644 P) .nil .nil) .nil)) (.node (o8 P) (.node (o324 P) (.node (o580 P) .nil .nil) .nil) (.node (o452 P) (.node (o708 P) .nil .nil) .nil))) (.node (o65 P) (.node (o164 P) (.node (o292 P) (.node (o7 P) .nil .nil) .nil) (.node (o7 P) (.node (o7 P) .nil .nil) .nil)) (.node (o228 P) (.node (o7 P) (.node (o612 P) .nil .nil) .nil) (.node (o484 P) .nil .nil)))) (.node (o52 P) (.node (o7 P) (.node (o7 P) (.node (o7 P) (.node (o7 P) .nil .nil) .nil) (.node (o7 P) (.node (o7 P) .nil .nil) .nil)) (.node (o7 P) (.node (o340 P) (.node (o596 P) .nil .nil) .nil) (.node (o468 P) (.node (o8 P) .nil .nil) .nil))) (.node (o116 P) (.node (o180 P) (.node (o308 P) (.node (o564 P) .nil .nil) .nil) (.node (o7 P) (.node (o692 P) .nil .nil) .nil)) (.node (o7 P) (.node (o372 P) (.node (o7 P) .nil .nil) .nil) (.node (o8 P) .nil .nil))))) (.node (o28 P) (.node (o44 P) (.node (o76 P) (.node (o140 P) (.node (o7 P) (.node (o7 P) .nil .nil) .nil) (.node (o7 P) (.node (o652 P) .nil .nil) .nil)) (.node (o204 P) (.node (o332 P) (.node (o7 P) .nil .nil) .nil) (.node (o7 P) (.node (o7 P) .nil .nil) .nil))) (.node (o108v97 P) (.node (o172 P) (.node (o300 P) (.node (o7 P) .nil .nil) .nil) (.node (o7 P) (.node (o684 P) .nil .nil) .nil)) (.node (o236 P) (.node (o7 P) (.node (o620 P) .nil .nil) .nil) (.node (o7 P) .nil .nil)))) (.node (o7 P) (.node (o92 P) (.node (o156 P) (.node (o8 P) (.node (o7 P) .nil .nil) .nil) (.node (o7 P) (.node (o7 P) .nil .nil) .nil)) (.node (o220 P) (.node (o348 P) (.node (o604 P) .nil .nil) .nil) (.node (o476 P) (.node (o732 P) .nil .nil) .nil))) (.node (o65 P) (.node (o7 P) (.node (o7 P) (.node (o572 P) .nil .nil) .nil) (.node (o8 P) (.node (o700 P) .nil .nil) .nil)) (.node (o7 P) (.node (o380 P) (.node (o8 P) .nil .nil) .nil) (.node (o508 P) .nil .nil))))))) (.node (o6 P) (.node (o10 P) (.node (o18 P) (.node (o7 P) (.node (o66 P) (.node (o47 P) (.node (o258 P) (.node (o8 P) .nil .nil) .nil) (.node (o386 P) (.node (o7 P) .nil .nil) .nil)) (.node (o194 P) (.node (o322 P) (.node (o578 P) .nil .nil) .nil) (.node (o7 P) (.node (o706 P) .nil .nil) .nil))) (.node (o98 P) (.node (o162 P) (.node (o7 P) (.node (o8 P) .nil .nil) .nil) (.node (o418 P) (.node (o8 P) .nil .nil) .nil)) (.node (o7 P) (.node (o65 P) (.node (o7 P) .nil .nil) .nil) (.node (o482 P) .nil .nil)))) (.node (o7 P) (.node (o82 P) (.node (o8 P) (.node (o274 P) (.node (o8 P) .nil .nil) .nil) (.node (o402 P) (.node (o8 P) .nil .nil) .nil)) (.node (o8 P) (.node (o338 P) (.node (o594 P) .nil .nil) .nil) (.node (o466 P) (.node (o722 P) .nil .nil) .nil))) (.node (o7 P) (.node (o178 P) (.node (o7 P) (.node (o562 P) .nil .nil) .nil) (.node (o434 P) (.node (o7 P) .nil .nil) .nil)) (.node (o242 P) (.node (o370 P) (.node (o626 P) .nil .nil) .nil) (.node (o498 P) .nil .nil))))) (.node (o26 P) (.node (o42 P) (.node (o74 P) (.node (o7 P) (.node (o266 P) (.node (o8 P) .nil .nil) .nil) (.node (o394 P) (.node (o7 P) .nil .nil) .nil)) (.node (o7 P) (.node (o7 P) (.node (o586 P) .nil .nil) .nil) (.node (o8 P) (.node (o714 P) .nil .nil) .nil))) (.node (o7 P) (.node (o7 P) (.node (o7 P) (.node (o8 P) .nil .nil) .nil) (.node (o426 P) (.node (o682 P) .nil .nil) .nil)) (.node (o234 P) (.node (o8 P) (.node (o618 P) .nil .nil) .nil) (.node (o490 P) .nil .nil)))) (.node (o8 P) (.node (o90 P) (.node (o154 P) (.node (o282 P) (.node (o8 P) .nil .nil) .nil) (.node (o410 P) (.node (o8 P) .nil .nil) .nil)) (.node (o218 P) (.node (o346 P) (.node (o602 P) .nil .nil) .nil) (.node (o7 P) (.node (o730 P) .nil .nil) .nil))) (.node (o122 P) (.node (o186 P) (.node (o8 P) (.node (o7 P) .nil .nil) .nil) (.node (o442 P) (.node (o698 P) .nil .nil) .nil)) (.node (o250 P) (.node (o7 P) (.node (o634 P) .nil .nil) .nil) (.node (o7 P) .nil .nil)))))) (.node (o14 P) (.node (o22 P) (.node (o7 P) (.node (o70 P) (.node (o7 P) (.node (o262 P) (.node (o518 P) .nil .nil) .nil) (.node (o8 P) (.node (o646 P) .nil .nil) .nil)) (.node (o7 P) (.node (o326 P) (.node (o8 P) .nil .nil) .nil) (.node (o454 P) (.node (o8 P) .nil .nil) .nil))) (.node (o7 P) (.node (o166 P) (.node (o294 P) (.node (o550 P) .nil .nil) .nil) (.node (o422 P) (.node (o678 P) .nil .nil) .nil)) (.node (o7 P) (.node (o358 P) (.node (o7 P) .nil .nil) .nil) (.node (o8 P) .nil .nil)))) (.node (o54 P) (.node (o86 P) (.node (o150 P) (.node (o278 P) (.node (o534 P) .nil .nil) .nil) (.node (o406 P) (.node (o662 P) .nil .nil) .nil)) (.node (o214 P) (.node (o8 P) (.node (o598 P) .nil .nil) .nil) (.node (o470 P) (.node (o7 P) .nil .nil) .nil))) (.node (o7 P) (.node (o8 P) (.node (o310 P) (.node (o566 P) .nil .nil) .nil) (.node (o438 P) (.node (o7 P) .nil .nil) .nil)) (.node (o246 P) (.node (o374 P) (.node (o630 P) .nil .nil) .nil) (.node (o7 P) .nil .nil))))) (.node (o30 P) (.node (o6 P) (.node (o65 P) (.node (o142 P) (.node (o270 P) (.node (o526 P) .nil .nil) .nil) (.node (o398 P) (.node (o654 P) .nil .nil) .nil)) (.node (o206 P) (.node (o7 P) (.node (o590 P) .nil .nil) .nil) (.node (o462 P) (.node (o718 P) .nil .nil) .nil))) (.node (o110 P) (.node (o7 P) (.node (o302 P) (.node (o558 P) .nil .nil) .nil) (.node (o430 P) (.node (o686 P) .nil .nil) .nil)) (.node (o8 P) (.node (o366 P) (.node (o8 P) .nil .nil) .nil) (.node (o494 P) .nil .nil)))) (.node (o62 P) (.node (o94 P) (.node (o158 P) (.node (o7 P) (.node (o542 P) .nil .nil) .nil) (.node (o414 P) (.node (o670 P) .nil .nil) .nil)) (.node (o222 P) (.node (o350 P) (.node (o606 P) .nil .nil) .nil) (.node (o7 P) (.node (o734 P) .nil .nil) .nil))) (.node (o7 P) (.node (o190 P) (.node (o318 P) (.node (o7 P) .nil .nil) .nil) (.node (o7 P) (.node (o8 P) .nil .nil) .nil)) (.node (o254 P) (.node (o7 P) (.node (o7 P) .nil .nil) .nil) (.node (o510 P) .nil .nil)))))))))
noncomputable def o3v468 (P : Params) : Obj := ⟨(.type "dict"), none, (.dict #[de P "__name__" 165 (.str "law_rt0109_01" 1427), de P "__doc__" 166 .none, de P "__package__" 167 .none, de P "__loader__" 168 (.builtin "__main__.__loader__#\x6fpaque"), de P "__spec__" 169 .none, de P "__annotations__" 170 (.ref 6), de P "__builtins__" 171 (.ref 4), de P "__file__" 173 (.str "/claim/cut.py" 172), de P "__cached__" 174 .none, de P "_sre" 275 (.ref 12), de P "deque" 317 (.type "collections.deque"), de P "_wall" 330 (.ref 44), de P "_twin_re_1" 370 (.ref 49), de P "_whence" 380 (.ref 56), de P "_index" 388 (.ref 63), de P "UnsupportedOperation" 410 (.ref 73), de P "IOBase" 442 (.ref 93), de P "BufferedIOBase" 460 (.ref 108), de P "TextIOBase" 478 (.ref 120), de P "BytesIO" 740 (.ref 350), de P "StringIO" 1027 (.ref 597), de P "_kind" 1038 (.ref 606), de P "_fspath" 1047 (.ref 613), de P "_check_arg_types" 1057 (.ref 832), de P "check_arg_types_path" 1058 (.ref 620), de P "isabs" 1065 (.ref 627), de P "join" 1076 (.ref 846), de P "join_path" 1077 (.ref 634), de P "dirname" 1087 (.ref 641), de P "shlex" 1228 (.ref 732), de P "split" 1238 (.ref 744), de P "_find_unsafe" 1240 (.ref 745), de P "quote" 1247 (.ref 752), de P "_plain_name" 1258 (.ref 759), de P "ABCMeta" 1284 (.ref 776), de P "_ABCLike" 1327 (.ref 809), de P "_abc_plain_meta" 1334 (.ref 818), de P "fspath" 1346 (.ref 825), de P "check_arg_types_genericpath" 1360 (.ref 832), de P "_get_sep" 1369 (.ref 839), de P "join_posixpath" 1381 (.ref 846), de P "basename" 1390 (.ref 853), de P "commonpath" 1396 (.ref 858), de P "_raise_serialization_error" 1405 (.ref 865), de P "_escape_attrib" 1412 (.ref 872), de P "_escape_attrib_html" 1419 (.ref 879), de P "_escape_attrib_c14n" 1426 (.ref 886), de P "_law_aged" 1441 (.ref 893), de P "_law_way" 1451 (.ref 900), de P "_law_words" 1462 (.ref 907), de P "law" 1488 (.ref 914)] 51), #[]⟩
noncomputable def o35v469 (P : Params) : Obj := ⟨.none, none, (.fields #[(.int 3 0), (.int 0 0), (.ref 43), (.int 8 0), (.int 0 0), (.ref 55), (.int 13 0), (.int 0 0), (.ref 62), (.int 20 0), (.int 0 0), (.ref 69), (.int 22 0), (.int 0 0), (.ref 82), (.int 29 0), (.int 0 0), (.ref 104), (.int 31 0), (.int 0 0), (.ref 116), (.int 33 0), (.int 0 0), (.ref 128), (.int 203 0), (.int 0 0), (.ref 358), (.int 409 0), (.int 0 0), (.ref 605), (.int 430 0), (.int 0 0), (.ref 612), (.int 435 0), (.int 0 0), (.ref 619), (.int 441 0), (.int 0 0), (.ref 626), (.int 444 0), (.int 0 0), (.ref 633), (.int 465 0), (.int 0 0), (.ref 640), (.int 474 0), (.int 0 0), (.ref 647), (.int 726 0), (.int 0 0), (.ref 743), (.int 735 0), (.int 0 0), (.ref 751), (.int 742 0), (.int 0 0), (.ref 758), (.int 748 0), (.int 0 0), (.ref 765), (.int 753 0), (.int 0 0), (.ref 784), (.int 768 0), (.int 0 0), (.ref 817), (.int 772 0), (.int 0 0), (.ref 824), (.int 789 0), (.int 0 0), (.ref 831), (.int 802 0), (.int 0 0), (.ref 838), (.int 807 0), (.int 0 0), (.ref 845), (.int 825 0), (.int 0 0), (.ref 852), (.int 830 0), (.int 0 0), (.ref 857), (.int 860 0), (.int 0 0), (.ref 864), (.int 862 0), (.int 0 0), (.ref 871), (.int 881 0), (.int 0 0), (.ref 878), (.int 892 0), (.int 0 0), (.ref 885), (.int 910 0), (.int 0 0), (.ref 892), (.int 922 0), (.int 0 0), (.ref 899), (.int 928 0), (.int 0 0), (.ref 906), (.int 945 0), (.int 0 0), (.ref 913)]), #[]⟩
noncomputable def o737 (P : Params) : Obj := ⟨(.type "tuple"), none, (.seq #[(.bool false), (.bool true)] 0), #[]⟩
noncomputable def o740 (P : Params) : Obj := ⟨(.type "tuple"), none, (.seq #[(.str "s" 1232), (.str "comments" 1233), (.str "posix" 1234), (.str "lex" 1235)] 0), #[]⟩
noncomputable def o742 (P : Params) : Obj := ⟨.none, none, (.func (fd (st 24) "split" 0 .none .none .none .none none .none .none 0)), #[]⟩
noncomputable def o743 (P : Params) : Obj := ⟨(.type "code"), none, (.fields #[(.str "split" 1229), (.str "split" 1230), (.str "/claim/cut.py" 1231), (.int 726 0), (.int 3 0), (.int 0 0), (.int 0 0), (.int 3 0), (.ref 738), (.bool true), (.int 318 0), (.ref 739), .none, (.ref 740), (.ref 741), (.ref 742), (.int 1236 0), (.int 726 0), (.str "/claim/cut.py" 1237)]), #[]⟩
noncomputable def o744 (P : Params) : Obj := ⟨(.type "function"), none, (.func (fd (st 24) "split" 3 (.ref 737) .none .none (.str "cpy313.shlex" 1088) none (.ref 743) .none 0)), #[]⟩
noncomputable def o745 (P : Params) : Obj := ⟨(.type "builtin_function_or_method"), none, (.fields #[(.builtin "re.Pattern.search"), (.ref 49)]), #[]⟩
noncomputable def o748 (P : Params) : Obj := ⟨(.type "tuple"), none, (.seq #[(.str "s" 1244)] 0), #[]⟩
noncomputable def o750 (P : Params) : Obj := ⟨.none, none, (.func (fd (st 26) "quote" 0 .none .none .none .none none .none .none 0)), #[]⟩
noncomputable def o751 (P : Params) : Obj := ⟨(.type "code"), none, (.fields #[(.str "quote" 1241), (.str "quote" 1242), (.str "/claim/cut.py" 1243), (.int 735 0), (.int 1 0), (.int 0 0), (.int 0 0), (.int 3 0), (.ref 746), (.bool true), (.int 318 0), (.ref 747), .none, (.ref 748), (.ref 749), (.ref 750), (.int 1245 0), (.int 735 0), (.str "/claim/cut.py" 1246)]), #[]⟩
noncomputable def o752 (P : Params) : Obj := ⟨(.type "function"), none, (.func (fd (st 26) "quote" 3 .none .none .none (.str "cpy313.shlex" 1088) none (.ref 751) .none 0)), #[]⟩
noncomputable def o755 (P : Params) : Obj := ⟨(.type "tuple"), none, (.seq #[(.str "x" 1253), (.str "what" 1254), (.str "kind" 1255)] 0), #[]⟩
noncomputable def o757 (P : Params) : Obj := ⟨.none, none, (.func (fd (st 28) "_plain_name" 0 .none .none .none .none none .none .none 0)), #[]⟩
noncomputable def o758 (P : Params) : Obj := ⟨(.type "code"), none, (.fields #[(.str "_plain_name" 1250), (.str "_plain_name" 1251), (.str "/claim/cut.py" 1252), (.int 742 0), (.int 2 0), (.int 0 0), (.int 0 0), (.int 3 0), (.ref 753), (.bool true), (.int 318 0), (.ref 754), .none, (.ref 755), (.ref 756), (.ref 757), (.int 1256 0), (.int 742 0), (.str "/claim/cut.py" 1257)]), #[]⟩
noncomputable def o759 (P : Params) : Obj := ⟨(.type "function"), none, (.func (fd (st 28) "_plain_name" 3 .none .none .none (.str "os" 1248) none (.ref 758) .none 0)), #[]⟩
noncomputable def o760 (P : Params) : Obj := ⟨(.type "tuple"), none, (.seq #[(.type "type")] 0), #[]⟩
noncomputable def o762 (P : Params) : Obj := ⟨(.type "dict"), none, (.dict #[de P "__module__" 1268 (.str "abc" 1259), de P "__qualname__" 1270 (.str "ABCMeta" 1269), de P "__firstlineno__" 1272 (.int 748 1271), de P "register" 1280 (.ref 773), de P "__static_attributes__" 1281 (.ref 774)] 5), #[]⟩
noncomputable def o764 (P : Params) : Obj := ⟨.none, none, (.fields #[(.int 750 0), (.int 4 0), (.ref 772)]), #[]⟩
noncomputable def o765 (P : Params) : Obj := ⟨(.type "code"), none, (.fields #[(.str "ABCMeta" 1263), (.str "ABCMeta" 1264), (.str "/claim/cut.py" 1265), (.int 748 0), (.int 0 0), (.int 0 0), (.int 0 0), (.int 0 0), (.ref 763), (.bool false), (.int 318 0), (.ref 764), .none, .none, .none, .none, (.int 1266 0), (.int 748 0), (.str "/claim/cut.py" 1267)]), #[]⟩
noncomputable def o766 (P : Params) : Obj := ⟨(.type "frame"), none, .plain, #[some (.ref 765), some (.ref 3), some (.ref 762), none, some (.str "abc" 1259), none, some (.ref 0)]⟩
noncomputable def o769 (P : Params) : Obj := ⟨(.type "tuple"), none, (.seq #[(.str "cls" 1276), (.str "subclass" 1277)] 0), #[]⟩
noncomputable def o771 (P : Params) : Obj := ⟨.none, none, (.func (fd (sm 30 0) "ABCMeta.register" 0 .none .none .none .none none .none .none 0)), #[]⟩
noncomputable def o772 (P : Params) : Obj := ⟨(.type "code"), none, (.fields #[(.str "register" 1273), (.str "ABCMeta.register" 1274), (.str "/claim/cut.py" 1275), (.int 750 0), (.int 2 0), (.int 0 0), (.int 0 0), (.int 3 0), (.ref 767), (.bool true), (.int 318 0), (.ref 768), .none, (.ref 769), (.ref 770), (.ref 771), (.int 1278 0), (.int 750 0), (.str "/claim/cut.py" 1279)]), #[]⟩
noncomputable def o773 (P : Params) : Obj := ⟨(.type "function"), none, (.func (fd (sm 30 0) "ABCMeta.register" 3 .none .none .none (.str "abc" 1259) none (.ref 772) .none 0)), #[]⟩
noncomputable def o775 (P : Params) : Obj := ⟨(.type "dict"), none, (.dict #[de P "__module__" 1268 (.str "abc" 1259), de P "__firstlineno__" 1272 (.int 748 1271), de P "register" 1280 (.ref 773), de P "__static_attributes__" 1281 (.ref 774), de P "__doc__" 1282 .none] 2), #[]⟩
noncomputable def o776 (P : Params) : Obj := ⟨(.type "type"), none, (.cls ⟨"ABCMeta", [(.type "type")], [(.ref 776), (.type "type"), (.type "object")], 775, "ABCMeta", true, [], [(.ref 809)], false, none, false⟩), #[some (.ref 760), none, some (.str "ABCMeta" 1261), some (.str "ABCMeta" 1269), some (.builtin "type.__new__"), some (.bool true)]⟩
noncomputable def o777 (P : Params) : Obj := ⟨(.type "super"), none, (.fields #[(.ref 776), (.ref 776), (.ref 776)]), #[]⟩
noncomputable def o778 (P : Params) : Obj := ⟨(.type "builtin_function_or_method"), none, (.fields #[(.builtin "object.__init_subclass__"), (.ref 776)]), #[]⟩
noncomputable def o779 (P : Params) : Obj := ⟨(.type "tuple"), none, (.seq #[(.ref 776)] 0), #[]⟩
noncomputable def o781 (P : Params) : Obj := ⟨(.type "dict"), none, (.dict #[de P "__module__" 1294 (.str "collections.abc" 1285), de P "__qualname__" 1296 (.str "_ABCLike" 1295), de P "__firstlineno__" 1298 (.int 753 1297), de P "__instancecheck__" 1307 (.ref 792), de P "__subclasscheck__" 1315 (.ref 799), de P "register" 1323 (.ref 806), de P "__static_attributes__" 1324 (.ref 807)] 7), #[]⟩
noncomputable def o783 (P : Params) : Obj := ⟨.none, none, (.fields #[(.int 755 0), (.int 4 0), (.ref 791), (.int 761 0), (.int 4 0), (.ref 798), (.int 766 0), (.int 4 0), (.ref 805)]), #[]⟩
noncomputable def o784 (P : Params) : Obj := ⟨(.type "code"), none, (.fields #[(.str "_ABCLike" 1289), (.str "_ABCLike" 1290), (.str "/claim/cut.py" 1291), (.int 753 0), (.int 0 0), (.int 0 0), (.int 0 0), (.int 0 0), (.ref 782), (.bool false), (.int 318 0), (.ref 783), .none, .none, .none, .none, (.int 1292 0), (.int 753 0), (.str "/claim/cut.py" 1293)]), #[]⟩
noncomputable def o785 (P : Params) : Obj := ⟨(.type "frame"), none, .plain, #[some (.ref 784), some (.ref 3), some (.ref 781), none, some (.str "collections.abc" 1285), none, some (.ref 0)]⟩
noncomputable def o788 (P : Params) : Obj := ⟨(.type "tuple"), none, (.seq #[(.str "cls" 1302), (.str "\x69nstance" 1303), (.str "C" 1304)] 0), #[]⟩
noncomputable def o790 (P : Params) : Obj := ⟨.none, none, (.func (fd (sm 32 0) "_ABCLike.__instancecheck__" 0 .none .none .none .none none .none .none 0)), #[]⟩
noncomputable def o791 (P : Params) : Obj := ⟨(.type "code"), none, (.fields #[(.str "__instancecheck__" 1299), (.str "_ABCLike.__instancecheck__" 1300), (.str "/claim/cut.py" 1301), (.int 755 0), (.int 2 0), (.int 0 0), (.int 0 0), (.int 3 0), (.ref 786), (.bool true), (.int 318 0), (.ref 787), .none, (.ref 788), (.ref 789), (.ref 790), (.int 1305 0), (.int 755 0), (.str "/claim/cut.py" 1306)]), #[]⟩
noncomputable def o792 (P : Params) : Obj := ⟨(.type "function"), none, (.func (fd (sm 32 0) "_ABCLike.__instancecheck__" 3 .none .none .none (.str "collections.abc" 1285) none (.ref 791) .none 0)), #[]⟩
noncomputable def o795 (P : Params) : Obj := ⟨(.type "tuple"), none, (.seq #[(.str "cls" 1311), (.str "C" 1312)] 0), #[]⟩
noncomputable def o797 (P : Params) : Obj := ⟨.none, none, (.func (fd (sm 32 1) "_ABCLike.__subclasscheck__" 0 .none .none .none .none none .none .none 0)), #[]⟩
noncomputable def o798 (P : Params) : Obj := ⟨(.type "code"), none, (.fields #[(.str "__subclasscheck__" 1308), (.str "_ABCLike.__subclasscheck__" 1309), (.str "/claim/cut.py" 1310), (.int 761 0), (.int 2 0), (.int 0 0), (.int 0 0), (.int 3 0), (.ref 793), (.bool true), (.int 318 0), (.ref 794), .none, (.ref 795), (.ref 796), (.ref 797), (.int 1313 0), (.int 761 0), (.str "/claim/cut.py" 1314)]), #[]⟩
noncomputable def o799 (P : Params) : Obj := ⟨(.type "function"), none, (.func (fd (sm 32 1) "_ABCLike.__subclasscheck__" 3 .none .none .none (.str "collections.abc" 1285) none (.ref 798) .none 0)), #[]⟩
noncomputable def o802 (P : Params) : Obj := ⟨(.type "tuple"), none, (.seq #[(.str "cls" 1319), (.str "subclass" 1320)] 0), #[]⟩
noncomputable def o804 (P : Params) : Obj := ⟨.none, none, (.func (fd (sm 32 2) "_ABCLike.register" 0 .none .none .none .none none .none .none 0)), #[]⟩
noncomputable def o805 (P : Params) : Obj := ⟨(.type "code"), none, (.fields #[(.str "register" 1316), (.str "_ABCLike.register" 1317), (.str "/claim/cut.py" 1318), (.int 766 0), (.int 2 0), (.int 0 0), (.int 0 0), (.int 3 0), (.ref 800), (.bool true), (.int 318 0), (.ref 801), .none, (.ref 802), (.ref 803), (.ref 804), (.int 1321 0), (.int 766 0), (.str "/claim/cut.py" 1322)]), #[]⟩
noncomputable def o806 (P : Params) : Obj := ⟨(.type "function"), none, (.func (fd (sm 32 2) "_ABCLike.register" 3 .none .none .none (.str "collections.abc" 1285) none (.ref 805) .none 0)), #[]⟩
noncomputable def o808 (P : Params) : Obj := ⟨(.type "dict"), none, (.dict #[de P "__module__" 1294 (.str "collections.abc" 1285), de P "__firstlineno__" 1298 (.int 753 1297), de P "__instancecheck__" 1307 (.ref 792), de P "__subclasscheck__" 1315 (.ref 799), de P "register" 1323 (.ref 806), de P "__static_attributes__" 1324 (.ref 807), de P "__doc__" 1325 .none] 2), #[]⟩
noncomputable def o809 (P : Params) : Obj := ⟨(.type "type"), none, (.cls ⟨"_ABCLike", [(.ref 776)], [(.ref 809), (.ref 776), (.type "type"), (.type "object")], 808, "_ABCLike", true, [], [], false, none, false⟩), #[some (.ref 779), none, some (.str "_ABCLike" 1287), some (.str "_ABCLike" 1295), some (.builtin "type.__new__"), some (.bool true)]⟩
noncomputable def o810 (P : Params) : Obj := ⟨(.type "super"), none, (.fields #[(.ref 809), (.ref 809), (.ref 809)]), #[]⟩
noncomputable def o811 (P : Params) : Obj := ⟨(.type "builtin_function_or_method"), none, (.fields #[(.builtin "object.__init_subclass__"), (.ref 809)]), #[]⟩
noncomputable def o814 (P : Params) : Obj := ⟨(.type "tuple"), none, (.seq #[(.str "C" 1331)] 0), #[]⟩
noncomputable def o816 (P : Params) : Obj := ⟨.none, none, (.func (fd (st 33) "_abc_plain_meta" 0 .none .none .none .none none .none .none 0)), #[]⟩
noncomputable def o817 (P : Params) : Obj := ⟨(.type "code"), none, (.fields #[(.str "_abc_plain_meta" 1328), (.str "_abc_plain_meta" 1329), (.str "/claim/cut.py" 1330), (.int 768 0), (.int 1 0), (.int 0 0), (.int 0 0), (.int 3 0), (.ref 812), (.bool true), (.int 318 0), (.ref 813), .none, (.ref 814), (.ref 815), (.ref 816), (.int 1332 0), (.int 768 0), (.str "/claim/cut.py" 1333)]), #[]⟩
noncomputable def o818 (P : Params) : Obj := ⟨(.type "function"), none, (.func (fd (st 33) "_abc_plain_meta" 3 .none .none .none (.str "collections.abc" 1285) none (.ref 817) .none 0)), #[]⟩
noncomputable def o821 (P : Params) : Obj := ⟨(.type "tuple"), none, (.seq #[(.str "path" 1340), (.str "kind" 1341), (.str "hook" 1342), (.str "given" 1343)] 0), #[]⟩
noncomputable def o823 (P : Params) : Obj := ⟨.none, none, (.func (fd (st 35) "fspath" 0 .none .none .none .none none .none .none 0)), #[]⟩
noncomputable def o824 (P : Params) : Obj := ⟨(.type "code"), none, (.fields #[(.str "fspath" 1337), (.str "fspath" 1338), (.str "/claim/cut.py" 1339), (.int 772 0), (.int 1 0), (.int 0 0), (.int 0 0), (.int 3 0), (.ref 819), (.bool true), (.int 318 0), (.ref 820), .none, (.ref 821), (.ref 822), (.ref 823), (.int 1344 0), (.int 772 0), (.str "/claim/cut.py" 1345)]), #[]⟩
noncomputable def o825 (P : Params) : Obj := ⟨(.type "function"), none, (.func (fd (st 35) "fspath" 3 .none .none .none (.str "os" 1335) none (.ref 824) .none 0)), #[]⟩
noncomputable def o828 (P : Params) : Obj := ⟨(.type "tuple"), none, (.seq #[(.str "funcname" 1352), (.str "args" 1353), (.str "hasstr" 1354), (.str "hasbytes" 1355), (.str "s" 1356)] 0), #[]⟩
noncomputable def o830 (P : Params) : Obj := ⟨.none, none, (.func (fd (st 37) "_check_arg_types" 0 .none .none .none .none none .none .none 0)), #[]⟩
noncomputable def o831 (P : Params) : Obj := ⟨(.type "code"), none, (.fields #[(.str "_check_arg_types" 1349), (.str "_check_arg_types" 1350), (.str "/claim/cut.py" 1351), (.int 789 0), (.int 1 0), (.int 0 0), (.int 0 0), (.int 7 0), (.ref 826), (.bool true), (.int 318 0), (.ref 827), .none, (.ref 828), (.ref 829), (.ref 830), (.int 1357 0), (.int 789 0), (.str "/claim/cut.py" 1358)]), #[]⟩
noncomputable def o832 (P : Params) : Obj := ⟨(.type "function"), none, (.func (fd (st 37) "_check_arg_types" 3 .none .none .none (.str "cpy313.genericpath" 1347) none (.ref 831) .none 0)), #[]⟩
noncomputable def o835 (P : Params) : Obj := ⟨(.type "tuple"), none, (.seq #[(.str "path" 1366)] 0), #[]⟩
noncomputable def o837 (P : Params) : Obj := ⟨.none, none, (.func (fd (st 40) "_get_sep" 0 .none .none .none .none none .none .none 0)), #[]⟩
noncomputable def o838 (P : Params) : Obj := ⟨(.type "code"), none, (.fields #[(.str "_get_sep" 1363), (.str "_get_sep" 1364), (.str "/claim/cut.py" 1365), (.int 802 0), (.int 1 0), (.int 0 0), (.int 0 0), (.int 3 0), (.ref 833), (.bool true), (.int 318 0), (.ref 834), .none, (.ref 835), (.ref 836), (.ref 837), (.int 1367 0), (.int 802 0), (.str "/claim/cut.py" 1368)]), #[]⟩
noncomputable def o839 (P : Params) : Obj := ⟨(.type "function"), none, (.func (fd (st 40) "_get_sep" 3 .none .none .none (.str "cpy313.posixpath" 1361) none (.ref 838) .none 0)), #[]⟩
noncomputable def o842 (P : Params) : Obj := ⟨(.type "tuple"), none, (.seq #[(.str "a" 1373), (.str "p" 1374), (.str "sep" 1375), (.str "path" 1376), (.str "b" 1377)] 0), #[]⟩
noncomputable def o844 (P : Params) : Obj := ⟨.none, none, (.func (fd (st 41) "join" 0 .none .none .none .none none .none .none 0)), #[]⟩
noncomputable def o845 (P : Params) : Obj := ⟨(.type "code"), none, (.fields #[(.str "join" 1370), (.str "join" 1371), (.str "/claim/cut.py" 1372), (.int 807 0), (.int 1 0), (.int 0 0), (.int 0 0), (.int 7 0), (.ref 840), (.bool true), (.int 318 0), (.ref 841), .none, (.ref 842), (.ref 843), (.ref 844), (.int 1378 0), (.int 807 0), (.str "/claim/cut.py" 1379)]), #[]⟩
noncomputable def o846 (P : Params) : Obj := ⟨(.type "function"), none, (.func (fd (st 41) "join" 3 .none .none .none (.str "cpy313.posixpath" 1361) none (.ref 845) .none 0)), #[]⟩
noncomputable def o849 (P : Params) : Obj := ⟨(.type "tuple"), none, (.seq #[(.str "p" 1385), (.str "sep" 1386), (.str "i" 1387)] 0), #[]⟩
noncomputable def o851 (P : Params) : Obj := ⟨.none, none, (.func (fd (st 43) "basename" 0 .none .none .none .none none .none .none 0)), #[]⟩
noncomputable def o852 (P : Params) : Obj := ⟨(.type "code"), none, (.fields #[(.str "basename" 1382), (.str "basename" 1383), (.str "/claim/cut.py" 1384), (.int 825 0), (.int 1 0), (.int 0 0), (.int 0 0), (.int 3 0), (.ref 847), (.bool true), (.int 318 0), (.ref 848), .none, (.ref 849), (.ref 850), (.ref 851), (.int 1388 0), (.int 825 0), (.str "/claim/cut.py" 1389)]), #[]⟩
noncomputable def o853 (P : Params) : Obj := ⟨(.type "function"), none, (.func (fd (st 43) "basename" 3 .none .none .none (.str "cpy313.posixpath" 1361) none (.ref 852) .none 0)), #[]⟩
noncomputable def o856 (P : Params) : Obj := ⟨.none, none, (.func (fd (st 44) "commonpath" 0 .none .none .none .none none .none .none 0)), #[]⟩
noncomputable def o857 (P : Params) : Obj := ⟨(.type "code"), none, (.fields #[(.str "commonpath" 1391), (.str "commonpath" 1392), (.str "/claim/cut.py" 1393), (.int 830 0), (.int 1 0), (.int 0 0), (.int 0 0), (.int 3 0), (.ref 854), (.bool true), (.int 318 0), (.ref 855), .none, .none, .none, (.ref 856), (.int 1394 0), (.int 830 0), (.str "/claim/cut.py" 1395)]), #[]⟩
noncomputable def o858 (P : Params) : Obj := ⟨(.type "function"), none, (.func (fd (st 44) "commonpath" 3 .none .none .none (.str "cpy313.posixpath" 1361) none (.ref 857) .none 0)), #[]⟩
noncomputable def o861 (P : Params) : Obj := ⟨(.type "tuple"), none, (.seq #[(.str "text" 1402)] 0), #[]⟩
noncomputable def o863 (P : Params) : Obj := ⟨.none, none, (.func (fd (st 46) "_raise_serialization_error" 0 .none .none .none .none none .none .none 0)), #[]⟩
noncomputable def o864 (P : Params) : Obj := ⟨(.type "code"), none, (.fields #[(.str "_raise_serialization_error" 1399), (.str "_raise_serialization_error" 1400), (.str "/claim/cut.py" 1401), (.int 860 0), (.int 1 0), (.int 0 0), (.int 0 0), (.int 3 0), (.ref 859), (.bool true), (.int 318 0), (.ref 860), .none, (.ref 861), (.ref 862), (.ref 863), (.int 1403 0), (.int 860 0), (.str "/claim/cut.py" 1404)]), #[]⟩
noncomputable def o865 (P : Params) : Obj := ⟨(.type "function"), none, (.func (fd (st 46) "_raise_serialization_error" 3 .none .none .none (.str "cpy313.xml.etree.ElementTree" 1397) none (.ref 864) .none 0)), #[]⟩
noncomputable def o868 (P : Params) : Obj := ⟨(.type "tuple"), none, (.seq #[(.str "text" 1409)] 0), #[]⟩
noncomputable def o870 (P : Params) : Obj := ⟨.none, none, (.func (fd (st 47) "_escape_attrib" 0 .none .none .none .none none .none .none 0)), #[]⟩
noncomputable def o871 (P : Params) : Obj := ⟨(.type "code"), none, (.fields #[(.str "_escape_attrib" 1406), (.str "_escape_attrib" 1407), (.str "/claim/cut.py" 1408), (.int 862 0), (.int 1 0), (.int 0 0), (.int 0 0), (.int 3 0), (.ref 866), (.bool true), (.int 318 0), (.ref 867), .none, (.ref 868), (.ref 869), (.ref 870), (.int 1410 0), (.int 862 0), (.str "/claim/cut.py" 1411)]), #[]⟩
noncomputable def o872 (P : Params) : Obj := ⟨(.type "function"), none, (.func (fd (st 47) "_escape_attrib" 3 .none .none .none (.str "cpy313.xml.etree.ElementTree" 1397) none (.ref 871) .none 0)), #[]⟩
noncomputable def o875 (P : Params) : Obj := ⟨(.type "tuple"), none, (.seq #[(.str "text" 1416)] 0), #[]⟩
noncomputable def o877 (P : Params) : Obj := ⟨.none, none, (.func (fd (st 48) "_escape_attrib_html" 0 .none .none .none .none none .none .none 0)), #[]⟩
noncomputable def o878 (P : Params) : Obj := ⟨(.type "code"), none, (.fields #[(.str "_escape_attrib_html" 1413), (.str "_escape_attrib_html" 1414), (.str "/claim/cut.py" 1415), (.int 881 0), (.int 1 0), (.int 0 0), (.int 0 0), (.int 3 0), (.ref 873), (.bool true), (.int 318 0), (.ref 874), .none, (.ref 875), (.ref 876), (.ref 877), (.int 1417 0), (.int 881 0), (.str "/claim/cut.py" 1418)]), #[]⟩
noncomputable def o879 (P : Params) : Obj := ⟨(.type "function"), none, (.func (fd (st 48) "_escape_attrib_html" 3 .none .none .none (.str "cpy313.xml.etree.ElementTree" 1397) none (.ref 878) .none 0)), #[]⟩
noncomputable def o882 (P : Params) : Obj := ⟨(.type "tuple"), none, (.seq #[(.str "text" 1423)] 0), #[]⟩
noncomputable def o884 (P : Params) : Obj := ⟨.none, none, (.func (fd (st 49) "_escape_attrib_c14n" 0 .none .none .none .none none .none .none 0)), #[]⟩
noncomputable def o885 (P : Params) : Obj := ⟨(.type "code"), none, (.fields #[(.str "_escape_attrib_c14n" 1420), (.str "_escape_attrib_c14n" 1421), (.str "/claim/cut.py" 1422), (.int 892 0), (.int 1 0), (.int 0 0), (.int 0 0), (.int 3 0), (.ref 880), (.bool true), (.int 318 0), (.ref 881), .none, (.ref 882), (.ref 883), (.ref 884), (.int 1424 0), (.int 892 0), (.str "/claim/cut.py" 1425)]), #[]⟩
noncomputable def o886 (P : Params) : Obj := ⟨(.type "function"), none, (.func (fd (st 49) "_escape_attrib_c14n" 3 .none .none .none (.str "cpy313.xml.etree.ElementTree" 1397) none (.ref 885) .none 0)), #[]⟩
noncomputable def o889 (P : Params) : Obj := ⟨(.type "tuple"), none, (.seq #[(.str "text" 1432), (.str "hands" 1433), (.str "told" 1434), (.str "out" 1435), (.str "sign" 1436), (.str "shown" 1437), (.str "hand" 1438)] 0), #[]⟩
noncomputable def o891 (P : Params) : Obj := ⟨.none, none, (.func (fd (st 51) "_law_aged" 0 .none .none .none .none none .none .none 0)), #[]⟩
noncomputable def o892 (P : Params) : Obj := ⟨(.type "code"), none, (.fields #[(.str "_law_aged" 1429), (.str "_law_aged" 1430), (.str "/claim/cut.py" 1431), (.int 910 0), (.int 2 0), (.int 0 0), (.int 0 0), (.int 3 0), (.ref 887), (.bool true), (.int 318 0), (.ref 888), .none, (.ref 889), (.ref 890), (.ref 891), (.int 1439 0), (.int 910 0), (.str "/claim/cut.py" 1440)]), #[]⟩
noncomputable def o893 (P : Params) : Obj := ⟨(.type "function"), none, (.func (fd (st 51) "_law_aged" 3 .none .none .none (.str "law_rt0109_01" 1427) none (.ref 892) .none 0)), #[]⟩
noncomputable def o896 (P : Params) : Obj := ⟨(.type "tuple"), none, (.seq #[(.str "place" 1445), (.str "rounds" 1446), (.str "way" 1447), (.str "_" 1448)] 0), #[]⟩
noncomputable def o898 (P : Params) : Obj := ⟨.none, none, (.func (fd (st 52) "_law_way" 0 .none .none .none .none none .none .none 0)), #[]⟩
noncomputable def o899 (P : Params) : Obj := ⟨(.type "code"), none, (.fields #[(.str "_law_way" 1442), (.str "_law_way" 1443), (.str "/claim/cut.py" 1444), (.int 922 0), (.int 2 0), (.int 0 0), (.int 0 0), (.int 3 0), (.ref 894), (.bool true), (.int 318 0), (.ref 895), .none, (.ref 896), (.ref 897), (.ref 898), (.int 1449 0), (.int 922 0), (.str "/claim/cut.py" 1450)]), #[]⟩
noncomputable def o900 (P : Params) : Obj := ⟨(.type "function"), none, (.func (fd (st 52) "_law_way" 3 .none .none .none (.str "law_rt0109_01" 1427) none (.ref 899) .none 0)), #[]⟩
noncomputable def o903 (P : Params) : Obj := ⟨(.type "tuple"), none, (.seq #[(.str "gaps" 1455), (.str "words" 1456), (.str "word" 1457), (.str "place" 1458), (.str "sign" 1459)] 0), #[]⟩
noncomputable def o905 (P : Params) : Obj := ⟨.none, none, (.func (fd (st 53) "_law_words" 0 .none .none .none .none none .none .none 0)), #[]⟩
noncomputable def o906 (P : Params) : Obj := ⟨(.type "code"), none, (.fields #[(.str "_law_words" 1452), (.str "_law_words" 1453), (.str "/claim/cut.py" 1454), (.int 928 0), (.int 1 0), (.int 0 0), (.int 0 0), (.int 3 0), (.ref 901), (.bool true), (.int 318 0), (.ref 902), .none, (.ref 903), (.ref 904), (.ref 905), (.int 1460 0), (.int 928 0), (.str "/claim/cut.py" 1461)]), #[]⟩
noncomputable def o907 (P : Params) : Obj := ⟨(.type "function"), none, (.func (fd (st 53) "_law_words" 3 .none .none .none (.str "law_rt0109_01" 1427) none (.ref 906) .none 0)), #[]⟩
noncomputable def o910 (P : Params) : Obj := ⟨(.type "tuple"), none, (.seq #[(.str "script" 1466), (.str "items" 1467), (.str "writers" 1468), (.str "total" 1469), (.str "rounds" 1470), (.str "count" 1471), (.str "first" 1472), (.str "pieces" 1473), (.str "x" 1474), (.str "hands" 1475), (.str "text" 1476), (.str "hand" 1477), (.str "middle" 1478), (.str "gaps" 1479), (.str "place" 1480), (.str "way" 1481), (.str "age" 1482), (.str "ones" 1483), (.str "words" 1484), (.str "due" 1485)] 0), #[]⟩
noncomputable def o912 (P : Params) : Obj := ⟨.none, none, (.func (fd (st 54) "law" 0 .none .none .none .none none .none .none 0)), #[]⟩
noncomputable def o913 (P : Params) : Obj := ⟨(.type "code"), none, (.fields #[(.str "law" 1463), (.str "law" 1464), (.str "/claim/cut.py" 1465), (.int 945 0), (.int 1 0), (.int 0 0), (.int 0 0), (.int 3 0), (.ref 908), (.bool true), (.int 318 0), (.ref 909), .none, (.ref 910), (.ref 911), (.ref 912), (.int 1486 0), (.int 945 0), (.str "/claim/cut.py" 1487)]), #[]⟩
noncomputable def o914 (P : Params) : Obj := ⟨(.type "function"), none, (.func (fd (st 54) "law" 3 .none .none .none (.str "law_rt0109_01" 1427) none (.ref 913) .none 0)), #[]⟩
noncomputable def t5 (P : Params) : BT := (.node (o0 P) (.node (o1 P) (.node (o3v468 P) (.node (o7 P) (.node (o7 P) (.node (o19 P) (.node (o63 P) (.node (o127 P) (.node (o7 P) (.node (o511 P) .nil .nil) (.node (o7 P) .nil .nil)) (.node (o8 P) (.node (o639 P) .nil .nil) (.node (o8 P) .nil .nil))) (.node (o7 P) (.node (o319 P) (.node (o8 P) .nil .nil) (.node (o831 P) .nil .nil)) (.node (o447 P) (.node (o703 P) .nil .nil) .nil))) (.node (o95 P) (.node (o159 P) (.node (o287 P) (.node (o543 P) .nil .nil) (.node (o799 P) .nil .nil)) (.node (o7 P) (.node (o671 P) .nil .nil) .nil)) (.node (o7 P) (.node (o351 P) (.node (o7 P) .nil .nil) (.node (o863 P) .nil .nil)) (.node (o8 P) (.node (o735 P) .nil .nil) .nil)))) (.node (o47 P) (.node (o79 P) (.node (o143 P) (.node (o7 P) (.node (o527 P) .nil .nil) (.node (o783 P) .nil .nil)) (.node (o7 P) (.node (o655 P) .nil .nil) (.node (o7 P) .nil .nil))) (.node (o207 P) (.node (o8 P) (.node (o7 P) .nil .nil) (.node (o7 P) .nil .nil)) (.node (o463 P) (.node (o7 P) .nil .nil) .nil))) (.node (o99 P) (.node (o8 P) (.node (o303 P) (.node (o559 P) .nil .nil) (.node (o7 P) .nil .nil)) (.node (o7 P) (.node (o7 P) .nil .nil) .nil)) (.node (o239 P) (.node (o367 P) (.node (o623 P) .nil .nil) (.node (o879 P) .nil .nil)) (.node (o7 P) (.node (o751 P) .nil .nil) .nil))))) (.node (o23 P) (.node (o8 P) (.node (o7 P) (.node (o135 P) (.node (o7 P) (.node (o519 P) .nil .nil) (.node (o775 P) .nil .nil)) (.node (o391 P) (.node (o647 P) .nil .nil) (.node (o903 P) .nil .nil))) (.node (o199 P) (.node (o7 P) (.node (o583 P) .nil .nil) (.node (o839 P) .nil .nil)) (.node (o455 P) (.node (o711 P) .nil .nil) .nil))) (.node (o8 P) (.node (o7 P) (.node (o295 P) (.node (o551 P) .nil .nil) (.node (o7 P) .nil .nil)) (.node (o7 P) (.node (o679 P) .nil .nil) .nil)) (.node (o8 P) (.node (o359 P) (.node (o8 P) .nil .nil) (.node (o871 P) .nil .nil)) (.node (o487 P) (.node (o743 P) .nil .nil) .nil)))) (.node (o55 P) (.node (o7 P) (.node (o151 P) (.node (o7 P) (.node (o535 P) .nil .nil) (.node (o791 P) .nil .nil)) (.node (o7 P) (.node (o663 P) .nil .nil) .nil)) (.node (o215 P) (.node (o343 P) (.node (o599 P) .nil .nil) (.node (o8 P) .nil .nil)) (.node (o7 P) (.node (o727 P) .nil .nil) .nil))) (.node (o119 P) (.node (o183 P) (.node (o311 P) (.node (o7 P) .nil .nil) (.node (o823 P) .nil .nil)) (.node (o7 P) (.node (o8 P) .nil .nil) .nil)) (.node (o7 P) (.node (o7 P) (.node (o7 P) .nil .nil) (.node (o7 P) .nil .nil)) (.node (o503 P) (.node (o759 P) .nil .nil) .nil)))))) (.node (o11v32 P) (.node (o19 P) (.node (o35v469 P) (.node (o7 P) (.node (o7 P) (.node (o47 P) (.node (o515 P) .nil .nil) (.node (o771 P) .nil .nil)) (.node (o387 P) (.node (o65 P) .nil .nil) (.node (o899 P) .nil .nil))) (.node (o7 P) (.node (o7 P) (.node (o579 P) .nil .nil) (.node (o835 P) .nil .nil)) (.node (o8 P) (.node (o707 P) .nil .nil) .nil))) (.node (o99 P) (.node (o7 P) (.node (o8 P) (.node (o547 P) .nil .nil) (.node (o7 P) .nil .nil)) (.node (o419 P) (.node (o675 P) .nil .nil) .nil)) (.node (o227 P) (.node (o355 P) (.node (o611 P) .nil .nil) (.node (o8 P) .nil .nil)) (.node (o483 P) (.node (o8 P) .nil .nil) .nil)))) (.node (o8 P) (.node (o83 P) (.node (o147 P) (.node (o275 P) (.node (o531 P) .nil .nil) (.node (o8 P) .nil .nil)) (.node (o403 P) (.node (o659 P) .nil .nil) .nil)) (.node (o211 P) (.node (o339 P) (.node (o595 P) .nil .nil) (.node (o851 P) .nil .nil)) (.node (o7 P) (.node (o7 P) .nil .nil) .nil))) (.node (o8 P) (.node (o179 P) (.node (o8 P) (.node (o7 P) .nil .nil) (.node (o7 P) .nil .nil)) (.node (o435 P) (.node (o691 P) .nil .nil) .nil)) (.node (o243 P) (.node (o7 P) (.node (o627 P) .nil .nil) (.node (o7 P) .nil .nil)) (.node (o7 P) (.node (o755 P) .nil .nil) .nil))))) (.node (o27 P) (.node (o43 P) (.node (o75 P) (.node (o8 P) (.node (o267 P) (.node (o523 P) .nil .nil) (.node (o779 P) .nil .nil)) (.node (o395 P) (.node (o8 P) .nil .nil) (.node (o907 P) .nil .nil))) (.node (o8 P) (.node (o331 P) (.node (o587 P) .nil .nil) (.node (o7 P) .nil .nil)) (.node (o459 P) (.node (o715 P) .nil .nil) .nil))) (.node (o107 P) (.node (o171 P) (.node (o8 P) (.node (o555 P) .nil .nil) (.node (o811 P) .nil .nil)) (.node (o427 P) (.node (o7 P) .nil .nil) .nil)) (.node (o235 P) (.node (o363 P) (.node (o619 P) .nil .nil) (.node (o875 P) .nil .nil)) (.node (o491 P) (.node (o8 P) .nil .nil) .nil)))) (.node (o59 P) (.node (o7 P) (.node (o7 P) (.node (o7 P) (.node (o539 P) .nil .nil) (.node (o795 P) .nil .nil)) (.node (o411 P) (.node (o667 P) .nil .nil) .nil)) (.node (o7 P) (.node (o347 P) (.node (o7 P) .nil .nil) (.node (o7 P) .nil .nil)) (.node (o475 P) (.node (o731 P) .nil .nil) .nil))) (.node (o123 P) (.node (o187 P) (.node (o315 P) (.node (o571 P) .nil .nil) (.node (o8 P) .nil .nil)) (.node (o7 P) (.node (o699 P) .nil .nil) .nil)) (.node (o251 P) (.node (o379 P) (.node (o7 P) .nil .nil) (.node (o891 P) .nil .nil)) (.node (o8 P) (.node (o7 P) .nil .nil) .nil))))))) (.node (o5 P) (.node (o9 P) (.node (o17 P) (.node (o33 P) (.node (o65 P) (.node (o129 P) (.node (o257 P) (.node (o7 P) .nil .nil) (.node (o769 P) .nil .nil)) (.node (o7 P) (.node (o641 P) .nil .nil) (.node (o7 P) .nil .nil))) (.node (o193 P) (.node (o8 P) (.node (o7 P) .nil .nil) (.node (o7 P) .nil .nil)) (.node (o449 P) (.node (o705 P) .nil .nil) .nil))) (.node (o97 P) (.node (o8 P) (.node (o289 P) (.node (o7 P) .nil .nil) (.node (o8 P) .nil .nil)) (.node (o417 P) (.node (o7 P) .nil .nil) .nil)) (.node (o225 P) (.node (o353 P) (.node (o609 P) .nil .nil) (.node (o865 P) .nil .nil)) (.node (o7 P) (.node (o737 P) .nil .nil) .nil)))) (.node (o49 P) (.node (o81 P) (.node (o7 P) (.node (o273 P) (.node (o7 P) .nil .nil) (.node (o785 P) .nil .nil)) (.node (o401 P) (.node (o7 P) .nil .nil) (.node (o913 P) .nil .nil))) (.node (o7 P) (.node (o7 P) (.node (o593 P) .nil .nil) (.node (o849 P) .nil .nil)) (.node (o8 P) (.node (o721 P) .nil .nil) .nil))) (.node (o113 P) (.node (o7 P) (.node (o47 P) (.node (o8 P) .nil .nil) (.node (o817 P) .nil .nil)) (.node (o433 P) (.node (o689 P) .nil .nil) .nil)) (.node (o241 P) (.node (o8 P) (.node (o625 P) .nil .nil) (.node (o8 P) .nil .nil)) (.node (o497 P) (.node (o7 P) .nil .nil) .nil))))) (.node (o25 P) (.node (o7 P) (.node (o73 P) (.node (o137 P) (.node (o265 P) (.node (o7 P) .nil .nil) (.node (o777 P) .nil .nil)) (.node (o393 P) (.node (o649 P) .nil .nil) (.node (o905 P) .nil .nil))) (.node (o201 P) (.node (o329 P) (.node (o585 P) .nil .nil) (.node (o8 P) .nil .nil)) (.node (o7 P) (.node (o713 P) .nil .nil) .nil))) (.node (o105 P) (.node (o169 P) (.node (o297 P) (.node (o7 P) .nil .nil) (.node (o809 P) .nil .nil)) (.node (o425 P) (.node (o8 P) .nil .nil) .nil)) (.node (o7 P) (.node (o7 P) (.node (o7 P) .nil .nil) (.node (o7 P) .nil .nil)) (.node (o489 P) (.node (o745 P) .nil .nil) .nil)))) (.node (o7 P) (.node (o89 P) (.node (o8 P) (.node (o281 P) (.node (o7 P) .nil .nil) (.node (o7 P) .nil .nil)) (.node (o409 P) (.node (o7 P) .nil .nil) .nil)) (.node (o8 P) (.node (o345 P) (.node (o8 P) .nil .nil) (.node (o857 P) .nil .nil)) (.node (o473 P) (.node (o729 P) .nil .nil) .nil))) (.node (o121 P) (.node (o185 P) (.node (o7 P) (.node (o569 P) .nil .nil) (.node (o825 P) .nil .nil)) (.node (o441 P) (.node (o7 P) .nil .nil) .nil)) (.node (o249 P) (.node (o377 P) (.node (o633 P) .nil .nil) (.node (o889 P) .nil .nil)) (.node (o505 P) (.node (o65 P) .nil .nil) .nil)))))) (.node (o13 P) (.node (o21 P) (.node (o37 P) (.node (o69 P) (.node (o133 P) (.node (o8 P) (.node (o517 P) .nil .nil) (.node (o773 P) .nil .nil)) (.node (o7 P) (.node (o7 P) .nil .nil) (.node (o7 P) .nil .nil))) (.node (o197 P) (.node (o325 P) (.node (o7 P) .nil .nil) (.node (o837 P) .nil .nil)) (.node (o7 P) (.node (o7 P) .nil .nil) .nil))) (.node (o101 P) (.node (o165 P) (.node (o7 P) (.node (o549 P) .nil .nil) (.node (o805 P) .nil .nil)) (.node (o8 P) (.node (o677 P) .nil .nil) .nil)) (.node (o229 P) (.node (o357 P) (.node (o613 P) .nil .nil) (.node (o7 P) .nil .nil)) (.node (o7 P) (.node (o7 P) .nil .nil) .nil)))) (.node (o7 P) (.node (o8 P) (.node (o149 P) (.node (o8 P) (.node (o533 P) .nil .nil) (.node (o7 P) .nil .nil)) (.node (o8 P) (.node (o661 P) .nil .nil) .nil)) (.node (o213 P) (.node (o7 P) (.node (o597 P) .nil .nil) (.node (o853 P) .nil .nil)) (.node (o469 P) (.node (o725 P) .nil .nil) .nil))) (.node (o117 P) (.node (o7 P) (.node (o7 P) (.node (o565 P) .nil .nil) (.node (o821 P) .nil .nil)) (.node (o8 P) (.node (o693 P) .nil .nil) .nil)) (.node (o8 P) (.node (o373 P) (.node (o8 P) .nil .nil) (.node (o885 P) .nil .nil)) (.node (o501 P) (.node (o757 P) .nil .nil) .nil))))) (.node (o29v33 P) (.node (o45 P) (.node (o7 P) (.node (o7 P) (.node (o8 P) (.node (o525 P) .nil .nil) (.node (o781 P) .nil .nil)) (.node (o8 P) (.node (o7 P) .nil .nil) (.node (o8 P) .nil .nil))) (.node (o7 P) (.node (o333 P) (.node (o8 P) .nil .nil) (.node (o845 P) .nil .nil)) (.node (o461 P) (.node (o8 P) .nil .nil) .nil))) (.node (o109 P) (.node (o173 P) (.node (o7 P) (.node (o557 P) .nil .nil) (.node (o8 P) .nil .nil)) (.node (o8 P) (.node (o685 P) .nil .nil) .nil)) (.node (o7 P) (.node (o365 P) (.node (o7 P) .nil .nil) (.node (o877 P) .nil .nil)) (.node (o8 P) (.node (o7 P) .nil .nil) .nil)))) (.node (o61 P) (.node (o93 P) (.node (o157 P) (.node (o285 P) (.node (o541 P) .nil .nil) (.node (o797 P) .nil .nil)) (.node (o8 P) (.node (o669 P) .nil .nil) .nil)) (.node (o221 P) (.node (o349 P) (.node (o605 P) .nil .nil) (.node (o861 P) .nil .nil)) (.node (o477 P) (.node (o733 P) .nil .nil) .nil))) (.node (o125 P) (.node (o8 P) (.node (o317 P) (.node (o573 P) .nil .nil) (.node (o7 P) .nil .nil)) (.node (o445 P) (.node (o7 P) .nil .nil) .nil)) (.node (o8 P) (.node (o381 P) (.node (o637 P) .nil .nil) (.node (o893 P) .nil .nil)) (.node (o7 P) (.node (o765 P) .nil .nil) .nil)))))))) (.node (o2v36 P) (.node (o4 P) (.node (o8 P) (.node (o16 P) (.node (o32 P) (.node (o64 P) (.node (o128 P) (.node (o256 P) (.node (o512 P) .nil .nil) (.node (o8 P) .nil .nil)) (.node (o384 P) (.node (o640 P) .nil .nil) (.node (o896 P) .nil .nil))) (.node (o192 P) (.node (o7 P) (.node (o576 P) .nil .nil) (.node (o832 P) .nil .nil)) (.node (o448 P) (.node (o7 P) .nil .nil) .nil))) (.node (o96 P) (.node (o7 P) (.node (o288 P) (.node (o544 P) .nil .nil) (.node (o7 P) .nil .nil)) (.node (o416 P) (.node (o47 P) .nil .nil) .nil)) (.node (o8 P) (.node (o352 P) (.node (o8 P) .nil .nil) (.node (o864 P) .nil .nil)) (.node (o480 P) (.node (o736 P) .nil .nil) .nil)))) (.node (o48 P) (.node (o7 P) (.node (o144 P) (.node (o272 P) (.node (o47 P) .nil .nil) (.node (o784 P) .nil .nil)) (.node (o400 P) (.node (o656 P) .nil .nil) (.node (o912 P) .nil .nil))) (.node (o208 P) (.node (o336 P) (.node (o592 P) .nil .nil) (.node (o8 P) .nil .nil)) (.node (o7 P) (.node (o720 P) .nil .nil) .nil))) (.node (o65 P) (.node (o176 P) (.node (o304 P) (.node (o7 P) .nil .nil) (.node (o816 P) .nil .nil)) (.node (o432 P) (.node (o8 P) .nil .nil) .nil)) (.node (o7 P) (.node (o7 P) (.node (o7 P) .nil .nil) (.node (o7 P) .nil .nil)) (.node (o496 P) (.node (o752 P) .nil .nil) .nil))))) (.node (o24 P) (.node (o40 P) (.node (o72 P) (.node (o136 P) (.node (o264 P) (.node (o520 P) .nil .nil) (.node (o776 P) .nil .nil)) (.node (o7 P) (.node (o648 P) .nil .nil) (.node (o7 P) .nil .nil))) (.node (o200 P) (.node (o8 P) (.node (o7 P) .nil .nil) (.node (o7 P) .nil .nil)) (.node (o456 P) (.node (o7 P) .nil .nil) .nil))) (.node (o104 P) (.node (o8 P) (.node (o296 P) (.node (o552 P) .nil .nil) (.node (o808 P) .nil .nil)) (.node (o424 P) (.node (o7 P) .nil .nil) .nil)) (.node (o232 P) (.node (o360 P) (.node (o616 P) .nil .nil) (.node (o872 P) .nil .nil)) (.node (o7 P) (.node (o744 P) .nil .nil) .nil)))) (.node (o56 P) (.node (o88 P) (.node (o7 P) (.node (o280 P) (.node (o536 P) .nil .nil) (.node (o792 P) .nil .nil)) (.node (o408 P) (.node (o664 P) .nil .nil) .nil)) (.node (o7 P) (.node (o7 P) (.node (o7 P) .nil .nil) (.node (o856 P) .nil .nil)) (.node (o8 P) (.node (o728 P) .nil .nil) .nil))) (.node (o120v235 P) (.node (o7 P) (.node (o312 P) (.node (o8 P) .nil .nil) (.node (o824 P) .nil .nil)) (.node (o440 P) (.node (o696 P) .nil .nil) .nil)) (.node (o248 P) (.node (o8 P) (.node (o632 P) .nil .nil) (.node (o8 P) .nil .nil)) (.node (o504 P) (.node (o760 P) .nil .nil) .nil)))))) (.node (o12 P) (.node (o20 P) (.node (o36 P) (.node (o8 P) (.node (o8 P) (.node (o7 P) (.node (o7 P) .nil .nil) (.node (o772 P) .nil .nil)) (.node (o388 P) (.node (o644 P) .nil .nil) (.node (o900 P) .nil .nil))) (.node (o8 P) (.node (o324 P) (.node (o580 P) .nil .nil) (.node (o7 P) .nil .nil)) (.node (o452 P) (.node (o708 P) .nil .nil) .nil))) (.node (o65 P) (.node (o164 P) (.node (o292 P) (.node (o7 P) .nil .nil) (.node (o804 P) .nil .nil)) (.node (o7 P) (.node (o7 P) .nil .nil) .nil)) (.node (o228 P) (.node (o7 P) (.node (o612 P) .nil .nil) (.node (o868 P) .nil .nil)) (.node (o484 P) (.node (o740 P) .nil .nil) .nil)))) (.node (o52 P) (.node (o7 P) (.node (o7 P) (.node (o7 P) (.node (o7 P) .nil .nil) (.node (o788 P) .nil .nil)) (.node (o7 P) (.node (o7 P) .nil .nil) .nil)) (.node (o7 P) (.node (o340 P) (.node (o596 P) .nil .nil) (.node (o852 P) .nil .nil)) (.node (o468 P) (.node (o8 P) .nil .nil) .nil))) (.node (o116 P) (.node (o180 P) (.node (o308 P) (.node (o564 P) .nil .nil) (.node (o8 P) .nil .nil)) (.node (o7 P) (.node (o692 P) .nil .nil) .nil)) (.node (o7 P) (.node (o372 P) (.node (o7 P) .nil .nil) (.node (o884 P) .nil .nil)) (.node (o8 P) (.node (o7 P) .nil .nil) .nil))))) (.node (o28 P) (.node (o44 P) (.node (o76 P) (.node (o140 P) (.node (o7 P) (.node (o7 P) .nil .nil) (.node (o65 P) .nil .nil)) (.node (o7 P) (.node (o652 P) .nil .nil) (.node (o7 P) .nil .nil))) (.node (o204 P) (.node (o332 P) (.node (o7 P) .nil .nil) (.node (o844 P) .nil .nil)) (.node (o7 P) (.node (o7 P) .nil .nil) .nil))) (.node (o108v97 P) (.node (o172 P) (.node (o300 P) (.node (o7 P) .nil .nil) (.node (o7 P) .nil .nil)) (.node (o7 P) (.node (o684 P) .nil .nil) .nil)) (.node (o236 P) (.node (o7 P) (.node (o620 P) .nil .nil) (.node (o7 P) .nil .nil)) (.node (o7 P) (.node (o748 P) .nil .nil) .nil)))) (.node (o7 P) (.node (o92 P) (.node (o156 P) (.node (o8 P) (.node (o7 P) .nil .nil) (.node (o7 P) .nil .nil)) (.node (o7 P) (.node (o7 P) .nil .nil) .nil)) (.node (o220 P) (.node (o348 P) (.node (o604 P) .nil .nil) (.node (o8 P) .nil .nil)) (.node (o476 P) (.node (o732 P) .nil .nil) .nil))) (.node (o65 P) (.node (o7 P) (.node (o7 P) (.node (o572 P) .nil .nil) (.node (o828 P) .nil .nil)) (.node (o8 P) (.node (o700 P) .nil .nil) .nil)) (.node (o7 P) (.node (o380 P) (.node (o8 P) .nil .nil) (.node (o892 P) .nil .nil)) (.node (o508 P) (.node (o764 P) .nil .nil) .nil))))))) (.node (o6 P) (.node (o10 P) (.node (o18 P) (.node (o7 P) (.node (o66 P) (.node (o47 P) (.node (o258 P) (.node (o8 P) .nil .nil) (.node (o7 P) .nil .nil)) (.node (o386 P) (.node (o7 P) .nil .nil) (.node (o898 P) .nil .nil))) (.node (o194 P) (.node (o322 P) (.node (o578 P) .nil .nil) (.node (o8 P) .nil .nil)) (.node (o7 P) (.node (o706 P) .nil .nil) .nil))) (.node (o98 P) (.node (o162 P) (.node (o7 P) (.node (o8 P) .nil .nil) (.node (o802 P) .nil .nil)) (.node (o418 P) (.node (o8 P) .nil .nil) .nil)) (.node (o7 P) (.node (o65 P) (.node (o7 P) .nil .nil) (.node (o7 P) .nil .nil)) (.node (o482 P) (.node (o7 P) .nil .nil) .nil)))) (.node (o7 P) (.node (o82 P) (.node (o8 P) (.node (o274 P) (.node (o8 P) .nil .nil) (.node (o7 P) .nil .nil)) (.node (o402 P) (.node (o8 P) .nil .nil) (.node (o914 P) .nil .nil))) (.node (o8 P) (.node (o338 P) (.node (o594 P) .nil .nil) (.node (o7 P) .nil .nil)) (.node (o466 P) (.node (o722 P) .nil .nil) .nil))) (.node (o7 P) (.node (o178 P) (.node (o7 P) (.node (o562 P) .nil .nil) (.node (o818 P) .nil .nil)) (.node (o434 P) (.node (o7 P) .nil .nil) .nil)) (.node (o242 P) (.node (o370 P) (.node (o626 P) .nil .nil) (.node (o882 P) .nil .nil)) (.node (o498 P) (.node (o8 P) .nil .nil) .nil))))) (.node (o26 P) (.node (o42 P) (.node (o74 P) (.node (o7 P) (.node (o266 P) (.node (o8 P) .nil .nil) (.node (o778 P) .nil .nil)) (.node (o394 P) (.node (o7 P) .nil .nil) (.node (o906 P) .nil .nil))) (.node (o7 P) (.node (o7 P) (.node (o586 P) .nil .nil) (.node (o842 P) .nil .nil)) (.node (o8 P) (.node (o714 P) .nil .nil) .nil))) (.node (o7 P) (.node (o7 P) (.node (o7 P) (.node (o8 P) .nil .nil) (.node (o810 P) .nil .nil)) (.node (o426 P) (.node (o682 P) .nil .nil) .nil)) (.node (o234 P) (.node (o8 P) (.node (o618 P) .nil .nil) (.node (o8 P) .nil .nil)) (.node (o490 P) (.node (o7 P) .nil .nil) .nil)))) (.node (o8 P) (.node (o90 P) (.node (o154 P) (.node (o282 P) (.node (o8 P) .nil .nil) (.node (o8 P) .nil .nil)) (.node (o410 P) (.node (o8 P) .nil .nil) .nil)) (.node (o218 P) (.node (o346 P) (.node (o602 P) .nil .nil) (.node (o858 P) .nil .nil)) (.node (o7 P) (.node (o730 P) .nil .nil) .nil))) (.node (o122 P) (.node (o186 P) (.node (o8 P) (.node (o7 P) .nil .nil) (.node (o7 P) .nil .nil)) (.node (o442 P) (.node (o698 P) .nil .nil) .nil)) (.node (o250 P) (.node (o7 P) (.node (o634 P) .nil .nil) (.node (o7 P) .nil .nil)) (.node (o7 P) (.node (o762 P) .nil .nil) .nil)))))) (.node (o14 P) (.node (o22 P) (.node (o7 P) (.node (o70 P) (.node (o7 P) (.node (o262 P) (.node (o518 P) .nil .nil) (.node (o7 P) .nil .nil)) (.node (o8 P) (.node (o646 P) .nil .nil) (.node (o8 P) .nil .nil))) (.node (o7 P) (.node (o326 P) (.node (o8 P) .nil .nil) (.node (o838 P) .nil .nil)) (.node (o454 P) (.node (o8 P) .nil .nil) .nil))) (.node (o7 P) (.node (o166 P) (.node (o294 P) (.node (o550 P) .nil .nil) (.node (o806 P) .nil .nil)) (.node (o422 P) (.node (o678 P) .nil .nil) .nil)) (.node (o7 P) (.node (o358 P) (.node (o7 P) .nil .nil) (.node (o870 P) .nil .nil)) (.node (o8 P) (.node (o742 P) .nil .nil) .nil)))) (.node (o54 P) (.node (o86 P) (.node (o150 P) (.node (o278 P) (.node (o534 P) .nil .nil) (.node (o790 P) .nil .nil)) (.node (o406 P) (.node (o662 P) .nil .nil) .nil)) (.node (o214 P) (.node (o8 P) (.node (o598 P) .nil .nil) (.node (o7 P) .nil .nil)) (.node (o470 P) (.node (o7 P) .nil .nil) .nil))) (.node (o7 P) (.node (o8 P) (.node (o310 P) (.node (o566 P) .nil .nil) (.node (o7 P) .nil .nil)) (.node (o438 P) (.node (o7 P) .nil .nil) .nil)) (.node (o246 P) (.node (o374 P) (.node (o630 P) .nil .nil) (.node (o886 P) .nil .nil)) (.node (o7 P) (.node (o758 P) .nil .nil) .nil))))) (.node (o30 P) (.node (o6 P) (.node (o65 P) (.node (o142 P) (.node (o270 P) (.node (o526 P) .nil .nil) (.node (o7 P) .nil .nil)) (.node (o398 P) (.node (o654 P) .nil .nil) (.node (o910 P) .nil .nil))) (.node (o206 P) (.node (o7 P) (.node (o590 P) .nil .nil) (.node (o846 P) .nil .nil)) (.node (o462 P) (.node (o718 P) .nil .nil) .nil))) (.node (o110 P) (.node (o7 P) (.node (o302 P) (.node (o558 P) .nil .nil) (.node (o814 P) .nil .nil)) (.node (o430 P) (.node (o686 P) .nil .nil) .nil)) (.node (o8 P) (.node (o366 P) (.node (o8 P) .nil .nil) (.node (o878 P) .nil .nil)) (.node (o494 P) (.node (o750 P) .nil .nil) .nil)))) (.node (o62 P) (.node (o94 P) (.node (o158 P) (.node (o7 P) (.node (o542 P) .nil .nil) (.node (o798 P) .nil .nil)) (.node (o414 P) (.node (o670 P) .nil .nil) .nil)) (.node (o222 P) (.node (o350 P) (.node (o606 P) .nil .nil) (.node (o7 P) .nil .nil)) (.node (o7 P) (.node (o734 P) .nil .nil) .nil))) (.node (o7 P) (.node (o190 P) (.node (o318 P) (.node (o7 P) .nil .nil) (.node (o830 P) .nil .nil)) (.node (o7 P) (.node (o8 P) .nil .nil) .nil)) (.node (o254 P) (.node (o7 P) (.node (o7 P) .nil .nil) (.node (o7 P) .nil .nil)) (.node (o510 P) (.node (o766 P) .nil .nil) .nil)))))))))
noncomputable def hl (P : Params) : Heap := ⟨⟨[o0 P, o1 P, o2v36 P, o3v468 P, o4 P, o5 P, o6 P, o7 P, o8 P, o9 P, o10 P, o11v32 P, o12 P, o13 P, o14 P, o7 P, o16 P, o17 P, o18 P, o19 P, o20 P, o21 P, o22 P, o23 P, o24 P, o25 P, o26 P, o27 P, o28 P, o29v33 P, o30 P, o19 P, o32 P, o33 P, o7 P, o35v469 P, o36 P, o37 P, o7 P, o8 P, o40 P, o7 P, o42 P, o43 P, o44 P, o45 P, o6 P, o47 P, o48 P, o49 P, o7 P, o8 P, o52 P, o7 P, o54 P, o55 P, o56 P, o7 P, o8 P, o59 P, o7 P, o61 P, o62 P, o63 P, o64 P, o65 P, o66 P, o7 P, o8 P, o69 P, o70 P, o7 P, o72 P, o73 P, o74 P, o75 P, o76 P, o7 P, o65 P, o79 P, o7 P, o81 P, o82 P, o83 P, o7 P, o8 P, o86 P, o7 P, o88 P, o89 P, o90 P, o7 P, o92 P, o93 P, o94 P, o95 P, o96 P, o97 P, o98 P, o99 P, o65 P, o101 P, o7 P, o8 P, o104 P, o105 P, o7 P, o107 P, o108v97 P, o109 P, o110 P, o99 P, o65 P, o113 P, o7 P, o8 P, o116 P, o117 P, o7 P, o119 P, o120v235 P, o121 P, o122 P, o123 P, o65 P, o125 P, o7 P, o127 P, o128 P, o129 P, o47 P, o7 P, o8 P, o133 P, o7 P, o135 P, o136 P, o137 P, o7 P, o8 P, o140 P, o7 P, o142 P, o143 P, o144 P, o7 P, o8 P, o147 P, o7 P, o149 P, o150 P, o151 P, o7 P, o8 P, o154 P, o7 P, o156 P, o157 P, o158 P, o159 P, o7 P, o8 P, o162 P, o7 P, o164 P, o165 P, o166 P, o7 P, o8 P, o169 P, o7 P, o171 P, o172 P, o173 P, o7 P, o8 P, o176 P, o7 P, o178 P, o179 P, o180 P, o7 P, o8 P, o183 P, o7 P, o185 P, o186 P, o187 P, o7 P, o8 P, o190 P, o7 P, o192 P, o193 P, o194 P, o7 P, o8 P, o197 P, o7 P, o199 P, o200 P, o201 P, o7 P, o8 P, o204 P, o7 P, o206 P, o207 P, o208 P, o7 P, o8 P, o211 P, o7 P, o213 P, o214 P, o215 P, o7 P, o8 P, o218 P, o7 P, o220 P, o221 P, o222 P, o7 P, o8 P, o225 P, o7 P, o227 P, o228 P, o229 P, o7 P, o8 P, o232 P, o7 P, o234 P, o235 P, o236 P, o7 P, o8 P, o239 P, o7 P, o241 P, o242 P, o243 P, o7 P, o8 P, o246 P, o7 P, o248 P, o249 P, o250 P, o251 P, o7 P, o8 P, o254 P, o7 P, o256 P, o257 P, o258 P, o47 P, o7 P, o8 P, o262 P, o7 P, o264 P, o265 P, o266 P, o267 P, o7 P, o8 P, o270 P, o7 P, o272 P, o273 P, o274 P, o275 P, o7 P, o8 P, o278 P, o7 P, o280 P, o281 P, o282 P, o7 P, o8 P, o285 P, o7 P, o287 P, o288 P, o289 P, o7 P, o8 P, o292 P, o7 P, o294 P, o295 P, o296 P, o297 P, o7 P, o8 P, o300 P, o7 P, o302 P, o303 P, o304 P, o47 P, o7 P, o8 P, o308 P, o7 P, o310 P, o311 P, o312 P, o7 P, o8 P, o315 P, o7 P, o317 P, o318 P, o319 P, o7 P, o8 P, o322 P, o7 P, o324 P, o325 P, o326 P, o7 P, o8 P, o329 P, o7 P, o331 P, o332 P, o333 P, o7 P, o8 P, o336 P, o7 P, o338 P, o339 P, o340 P, o7 P, o8 P, o343 P, o7 P, o345 P, o346 P, o347 P, o348 P, o349 P, o350 P, o351 P, o352 P, o353 P, o65 P, o355 P, o7 P, o357 P, o358 P, o359 P, o360 P, o7 P, o8 P, o363 P, o7 P, o365 P, o366 P, o367 P, o7 P, o8 P, o370 P, o7 P, o372 P, o373 P, o374 P, o7 P, o8 P, o377 P, o7 P, o379 P, o380 P, o381 P, o7 P, o8 P, o384 P, o7 P, o386 P, o387 P, o388 P, o7 P, o8 P, o391 P, o7 P, o393 P, o394 P, o395 P, o7 P, o8 P, o398 P, o7 P, o400 P, o401 P, o402 P, o403 P, o7 P, o8 P, o406 P, o7 P, o408 P, o409 P, o410 P, o411 P, o7 P, o8 P, o414 P, o7 P, o416 P, o417 P, o418 P, o419 P, o7 P, o8 P, o422 P, o7 P, o424 P, o425 P, o426 P, o427 P, o7 P, o8 P, o430 P, o7 P, o432 P, o433 P, o434 P, o435 P, o7 P, o8 P, o438 P, o7 P, o440 P, o441 P, o442 P, o7 P, o8 P, o445 P, o7 P, o447 P, o448 P, o449 P, o7 P, o8 P, o452 P, o7 P, o454 P, o455 P, o456 P, o7 P, o8 P, o459 P, o7 P, o461 P, o462 P, o463 P, o7 P, o8 P, o466 P, o7 P, o468 P, o469 P, o470 P, o7 P, o8 P, o473 P, o7 P, o475 P, o476 P, o477 P, o7 P, o8 P, o480 P, o7 P, o482 P, o483 P, o484 P, o7 P, o8 P, o487 P, o7 P, o489 P, o490 P, o491 P, o7 P, o8 P, o494 P, o7 P, o496 P, o497 P, o498 P, o7 P, o8 P, o501 P, o7 P, o503 P, o504 P, o505 P, o7 P, o8 P, o508 P, o7 P, o510 P, o511 P, o512 P, o7 P, o8 P, o515 P, o7 P, o517 P, o518 P, o519 P, o520 P, o7 P, o8 P, o523 P, o7 P, o525 P, o526 P, o527 P, o47 P, o7 P, o8 P, o531 P, o7 P, o533 P, o534 P, o535 P, o536 P, o7 P, o8 P, o539 P, o7 P, o541 P, o542 P, o543 P, o544 P, o7 P, o8 P, o547 P, o7 P, o549 P, o550 P, o551 P, o552 P, o7 P, o8 P, o555 P, o7 P, o557 P, o558 P, o559 P, o7 P, o8 P, o562 P, o7 P, o564 P, o565 P, o566 P, o7 P, o8 P, o569 P, o7 P, o571 P, o572 P, o573 P, o7 P, o8 P, o576 P, o7 P, o578 P, o579 P, o580 P, o7 P, o8 P, o583 P, o7 P, o585 P, o586 P, o587 P, o7 P, o8 P, o590 P, o7 P, o592 P, o593 P, o594 P, o595 P, o596 P, o597 P, o598 P, o599 P, o7 P, o8 P, o602 P, o7 P, o604 P, o605 P, o606 P, o7 P, o8 P, o609 P, o7 P, o611 P, o612 P, o613 P, o7 P, o8 P, o616 P, o7 P, o618 P, o619 P, o620 P, o7 P, o8 P, o623 P, o7 P, o625 P, o626 P, o627 P, o7 P, o8 P, o630 P, o7 P, o632 P, o633 P, o634 P, o7 P, o8 P, o637 P, o7 P, o639 P, o640 P, o641 P, o7 P, o65 P, o644 P, o7 P, o646 P, o647 P, o648 P, o649 P, o7 P, o8 P, o652 P, o7 P, o654 P, o655 P, o656 P, o7 P, o8 P, o659 P, o7 P, o661 P, o662 P, o663 P, o664 P, o7 P, o8 P, o667 P, o7 P, o669 P, o670 P, o671 P, o47 P, o7 P, o8 P, o675 P, o7 P, o677 P, o678 P, o679 P, o7 P, o8 P, o682 P, o7 P, o684 P, o685 P, o686 P, o7 P, o8 P, o689 P, o7 P, o691 P, o692 P, o693 P, o7 P, o8 P, o696 P, o7 P, o698 P, o699 P, o700 P, o7 P, o8 P, o703 P, o7 P, o705 P, o706 P, o707 P, o708 P, o7 P, o8 P, o711 P, o7 P, o713 P, o714 P, o715 P, o7 P, o8 P, o718 P, o7 P, o720 P, o721 P, o722 P, o7 P, o8 P, o725 P, o7 P, o727 P, o728 P, o729 P, o730 P, o731 P, o732 P, o733 P, o734 P, o735 P, o736 P, o737 P, o7 P, o8 P, o740 P, o7 P, o742 P, o743 P, o744 P, o745 P, o7 P, o8 P, o748 P, o7 P, o750 P, o751 P, o752 P, o7 P, o8 P, o755 P, o7 P, o757 P, o758 P, o759 P, o760 P, o65 P, o762 P, o7 P, o764 P, o765 P, o766 P, o7 P, o8 P, o769 P, o7 P, o771 P, o772 P, o773 P, o7 P, o775 P, o776 P, o777 P, o778 P, o779 P, o65 P, o781 P, o7 P, o783 P, o784 P, o785 P, o7 P, o8 P, o788 P, o7 P, o790 P, o791 P, o792 P, o7 P, o8 P, o795 P, o7 P, o797 P, o798 P, o799 P, o7 P, o8 P, o802 P, o7 P, o804 P, o805 P, o806 P, o7 P, o808 P, o809 P, o810 P, o811 P, o7 P, o8 P, o814 P, o7 P, o816 P, o817 P, o818 P, o7 P, o8 P, o821 P, o7 P, o823 P, o824 P, o825 P, o7 P, o8 P, o828 P, o7 P, o830 P, o831 P, o832 P, o7 P, o8 P, o835 P, o7 P, o837 P, o838 P, o839 P, o7 P, o8 P, o842 P, o7 P, o844 P, o845 P, o846 P, o7 P, o8 P, o849 P, o7 P, o851 P, o852 P, o853 P, o7 P, o8 P, o856 P, o857 P, o858 P, o7 P, o8 P, o861 P, o7 P, o863 P, o864 P, o865 P, o7 P, o8 P, o868 P, o7 P, o870 P, o871 P, o872 P, o7 P, o8 P, o875 P, o7 P, o877 P, o878 P, o879 P, o7 P, o8 P, o882 P, o7 P, o884 P, o885 P, o886 P, o7 P, o8 P, o889 P, o7 P, o891 P, o892 P, o893 P, o7 P, o8 P, o896 P, o7 P, o898 P, o899 P, o900 P, o7 P, o8 P, o903 P, o7 P, o905 P, o906 P, o907 P, o7 P, o8 P, o910 P, o7 P, o912 P, o913 P, o914 P]⟩, life0⟩
noncomputable def loose : List Str := ["_twin_re_1", "UnsupportedOperation", "IOBase", "BufferedIOBase", "TextIOBase", "BytesIO", "StringIO", "check_arg_types_path", "join_path", "shlex", "split", "_find_unsafe", "check_arg_types_genericpath", "join_posixpath"]
noncomputable def keep : List Nat := [0, 1, 2, 3, 5, 6, 7, 8, 9, 10, 11, 12, 14, 15, 17, 18, 20, 21, 23, 25, 26, 28, 30, 32, 33, 35, 37, 38, 40, 41, 42, 43, 44, 46, 47, 48, 49, 51, 52, 53, 54]
noncomputable def K (P : Params) : Frag := [(3, o3v468 P), (914, o914 P), (752, o752 P), (745, o745 P), (872, o872 P), (879, o879 P), (886, o886 P), (893, o893 P), (900, o900 P), (907, o907 P), (846, o846 P), (853, o853 P), (858, o858 P), (825, o825 P), (839, o839 P), (744, o744 P), (732, o732 P), (597, o597 P), (93, o93 P), (120, o120v235 P), (63, o63 P), (49, o49 P), (367, o367 P), (381, o381 P), (374, o374 P), (543, o543 P), (94, o94 P), (656, o656 P), (693, o693 P), (700, o700 P), (722, o722 P), (729, o729 P), (664, o664 P), (2, o2v36 P), (913, o913 P), (751, o751 P), (871, o871 P), (878, o878 P), (885, o885 P), (892, o892 P), (899, o899 P), (906, o906 P), (845, o845 P), (852, o852 P), (857, o857 P), (824, o824 P), (838, o838 P), (743, o743 P), (737, o737 P), (731, o731 P), (596, o596 P), (92, o92 P), (119, o119 P), (62, o62 P), (48, o48 P), (366, o366 P), (360, o360 P), (380, o380 P), (373, o373 P), (542, o542 P), (536, o536 P), (90, o90 P), (655, o655 P), (649, o649 P), (692, o692 P), (699, o699 P), (721, o721 P), (728, o728 P), (663, o663 P), (908, o7 P), (909, o8 P), (910, o910 P), (911, o7 P), (912, o912 P), (746, o7 P), (747, o8 P), (748, o748 P), (749, o7 P), (750, o750 P), (866, o7 P), (867, o8 P), (868, o868 P), (869, o7 P), (870, o870 P), (873, o7 P), (874, o8 P), (875, o875 P), (876, o7 P), (877, o877 P), (880, o7 P), (881, o8 P), (882, o882 P), (883, o7 P), (884, o884 P), (887, o7 P), (888, o8 P), (889, o889 P), (890, o7 P), (891, o891 P), (894, o7 P), (895, o8 P), (896, o896 P), (897, o7 P), (898, o898 P), (901, o7 P), (902, o8 P), (903, o903 P), (904, o7 P), (905, o905 P), (840, o7 P), (841, o8 P), (842, o842 P), (843, o7 P), (844, o844 P), (847, o7 P), (848, o8 P), (849, o849 P), (850, o7 P), (851, o851 P), (854, o7 P), (855, o8 P), (856, o856 P), (819, o7 P), (820, o8 P), (821, o821 P), (822, o7 P), (823, o823 P), (833, o7 P), (834, o8 P), (835, o835 P), (836, o7 P), (837, o837 P), (738, o7 P), (739, o8 P), (740, o740 P), (741, o7 P), (742, o742 P), (57, o7 P), (58, o8 P), (59, o59 P), (60, o7 P), (61, o61 P), (361, o7 P), (362, o8 P), (363, o363 P), (364, o7 P), (365, o365 P), (375, o7 P), (376, o8 P), (377, o377 P), (378, o7 P), (379, o379 P), (368, o7 P), (369, o8 P), (370, o370 P), (371, o7 P), (372, o372 P), (537, o7 P), (538, o8 P), (539, o539 P), (540, o7 P), (541, o541 P), (89, o89 P), (650, o7 P), (651, o8 P), (652, o652 P), (653, o7 P), (654, o654 P), (687, o7 P), (688, o8 P), (689, o689 P), (690, o7 P), (691, o691 P), (694, o7 P), (695, o8 P), (696, o696 P), (697, o7 P), (698, o698 P), (716, o7 P), (717, o8 P), (718, o718 P), (719, o7 P), (720, o720 P), (723, o7 P), (724, o8 P), (725, o725 P), (726, o7 P), (727, o727 P), (662, o662 P), (84, o7 P), (85, o8 P), (86, o86 P), (87, o7 P), (88, o88 P), (657, o7 P), (658, o8 P), (659, o659 P), (660, o7 P), (661, o661 P), (350, o350 P)]
noncomputable def as : List Addr := [3, 914, 752, 745, 872, 879, 886, 893, 900, 907, 846, 853, 858, 825, 839, 744, 732, 597, 93, 120, 63, 49, 367, 381, 374, 543, 94, 656, 693, 700, 722, 729, 664, 2, 913, 751, 871, 878, 885, 892, 899, 906, 845, 852, 857, 824, 838, 743, 737, 731, 596, 92, 119, 62, 48, 366, 360, 380, 373, 542, 536, 90, 655, 649, 692, 699, 721, 728, 663, 908, 909, 910, 911, 912, 746, 747, 748, 749, 750, 866, 867, 868, 869, 870, 873, 874, 875, 876, 877, 880, 881, 882, 883, 884, 887, 888, 889, 890, 891, 894, 895, 896, 897, 898, 901, 902, 903, 904, 905, 840, 841, 842, 843, 844, 847, 848, 849, 850, 851, 854, 855, 856, 819, 820, 821, 822, 823, 833, 834, 835, 836, 837, 738, 739, 740, 741, 742, 57, 58, 59, 60, 61, 361, 362, 363, 364, 365, 375, 376, 377, 378, 379, 368, 369, 370, 371, 372, 537, 538, 539, 540, 541, 89, 650, 651, 652, 653, 654, 687, 688, 689, 690, 691, 694, 695, 696, 697, 698, 716, 717, 718, 719, 720, 723, 724, 725, 726, 727, 662, 84, 85, 86, 87, 88, 657, 658, 659, 660, 661, 350]
noncomputable def E0 : Env := { scope := pw.main.scope, locals := mainNs, globals := mainNs, cells := [], code := .ref 36, frame := some 37 }
noncomputable def cE : Code := .body (behindTheImports pw) E0
noncomputable def Bf : List Frame := [topFrame P0]
noncomputable def dz : Drawn := ⟨0, 0, 0, 0⟩
noncomputable def ann0 : Option Value := some (.ref 6)
noncomputable def gz : Array GenState := Array.mk []
noncomputable def SS (T : Params → BT) (n k : Nat) (w : World) (os : OsState) : SharedT := ⟨T w.params, n, life0, gz, dz, k, os⟩
noncomputable def HH (T : Params → BT) (n : Nat) (P : Params) : Heap := absHeap (T P) n life0
noncomputable def ss (a b : Nat) : List Stmt := ((behindTheImports pw).drop a).take b
noncomputable def impT (stp : SharedT → Thread → Option (SharedT × Thread)) (ex : Thread → Option (List Value)) : Nat → SharedT → Thread → Option SharedT
  | 0, _, _ => none
  | n + 1, s, t => match ex t with
    | some l => match l with
      | [] => some s
      | _ :: _ => none
    | none => match stp s t with
      | some (s', t') => impT stp ex n s' t'
      | none => none
theorem impT_of {tb : String → Option Builtin} {p : Program} {w : World} : ∀ {n : Nat} {s s' : SharedT} {t : Thread}, impT (stepT (denote tb) p w) Thread.atExitBegin n s t = some s' → importEnds tb p w n s.abs t = some s'.abs
  | 0, _, _, _, h => by cases h
  | n + 1, s, s', t, h => by
    unfold impT at h
    unfold importEnds
    cases he : t.atExitBegin with
    | some l => rw [he] at h; cases l with
      | nil => cases h; rfl
      | cons _ _ => cases h
    | none =>
      rw [he] at h
      cases hs : stepT (denote tb) p w s t with
      | none => rw [hs] at h; cases h
      | some r => obtain ⟨s₂, t₂⟩ := r; rw [hs] at h; rw [stepT_spec hs]; exact impT_of h
noncomputable def osz : OsState := (start (opening pw)).1.os
theorem op_start : (start (opening pw)).1 = SharedT.abs ⟨.nil, 0, life0, gz, dz, 1, osz⟩ := by kernel_rfl
theorem op_run (w : World) : impT (stepT (denote treeTable) (opening pw) w) Thread.atExitBegin 2000 ⟨.nil, 0, life0, gz, dz, 1, osz⟩ (start (opening pw)).2 = some (SS te 34 318 w osz) := by
  rw [PySem.W.Fast.te10156331382660048174, PySem.W.Fast.te11892475500146522536, PySem.W.Fast.te14364793385576792824, PySem.W.Fast.te3805553451399329143]; kernel_rfl
theorem op_fence (w : World) : (fun os => (fenceModules? pw ⟨HH te 34 w.params, gz, dz, 318, os⟩).map (fun s => (s.heap, s.gens, s.drawn, s.toks))) = fun _ => some (HH t0 34 w.params, gz, dz, 318) := by
  rw [PySem.W.Fast.te14289696077712309145]; kernel_rfl
theorem op : ∀ w : World, (fencedOpening treeTable pw w 20000).map (fun s => (s.heap, s.gens, s.drawn, s.toks)) = some (HH t0 34 w.params, gz, dz, 318) :=
  open_cut (M := 2000) (fun w => by rw [op_start]; exact impT_of (op_run w)) (by decide) op_fence
theorem g1 (w : World) (os : OsState) : segRunT treeTable pw w 34 ann0 1 3000 (SS ta 38 324 w os) (piecesOf (ss 0 9) E0 cE P0 Bf) = some (.next, SS t1 123 479 w os, cE, ⟨31, 0, 32, 21⟩) := by
  rw [PySem.W.Fast.te10110043849684766642, PySem.W.Fast.te14364793385576792824]; kernel_rfl
theorem g2 (w : World) (os : OsState) : segRunT treeTable pw w 34 ann0 1 3000 (SS t1 123 479 w os) (piecesOf (ss 9 1) E0 cE ⟨31, 0, 32, 21⟩ Bf) = some (.next, SS t2 353 741 w os, cE, ⟨33, 0, 202, 17⟩) := by
  rw [PySem.W.Fast.te10110043849684766642, PySem.W.Fast.te14364793385576792824]; kernel_rfl
theorem g3 (w : World) (os : OsState) : segRunT treeTable pw w 34 ann0 1 3000 (SS t2 353 741 w os) (piecesOf (ss 10 1) E0 cE ⟨33, 0, 202, 17⟩ Bf) = some (.next, SS t3 600 1028 w os, cE, ⟨203, 0, 407, 17⟩) := by
  rw [PySem.W.Fast.te10110043849684766642, PySem.W.Fast.te14364793385576792824]; kernel_rfl
theorem g4 (w : World) (os : OsState) : segRunT treeTable pw w 34 ann0 1 3000 (SS t3 600 1028 w os) (piecesOf (ss 11 11) E0 cE ⟨203, 0, 407, 17⟩ Bf) = some (.next, SS t4 737 1229 w os, cE, ⟨474, 0, 725, 20⟩) := by
  rw [PySem.W.Fast.te10110043849684766642, PySem.W.Fast.te14364793385576792824]; kernel_rfl
theorem g5 (w : World) (os : OsState) : segRunT treeTable pw w 34 ann0 1 3000 (SS t4 737 1229 w os) (piecesOf (ss 22 31) E0 cE ⟨474, 0, 725, 20⟩ Bf) = some (.next, SS t5 915 1489 w os, cE, ⟨945, 0, 978, 50⟩) := by
  rw [PySem.W.Fast.te10110043849684766642, PySem.W.Fast.te14364793385576792824]; kernel_rfl
theorem run_pre (w : World) (os : OsState) : topGo treeTable pw w 34 ann0 12 ⟨HH t0 34 w.params, gz, dz, 318, os⟩ (topStub pw) = some (⟨HH ta 38 w.params, gz, dz, 324, os⟩, ⟨denote treeTable cE, cE, P0, Bf⟩) := by
  rw [PySem.W.Fast.te15667345088766844465, PySem.W.Fast.te11892475500146522536, PySem.W.Fast.te14364793385576792824]; kernel_rfl
theorem run_block (w : World) (os : OsState) : segRun treeTable pw w 34 ann0 1 1 ⟨HH ta 38 w.params, gz, dz, 324, os⟩ (blockOf (behindTheImports pw) E0 cE P0 Bf) = some (.next, (SS ta 38 324 w os).abs, cE, P0) := by
  kernel_rfl
theorem run_fin (w : World) (os : OsState) : topRun treeTable pw w 34 ann0 3 (SS t5 915 1489 w os).abs (restOf [] E0 cE ⟨945, 0, 978, 50⟩ Bf) = some ⟨hl w.params, gz, dz, 1489, os⟩ := by
  kernel_rfl
theorem run_cut : behindTheImports pw = ss 0 9 ++ (ss 9 1 ++ (ss 10 1 ++ (ss 11 11 ++ (ss 22 31 ++ [])))) := by kernel_rfl
theorem run_rest (w : World) (os : OsState) : topRun treeTable pw w 34 ann0 15003 (SS ta 38 324 w os).abs (restOf (behindTheImports pw) E0 cE P0 Bf) = some ⟨hl w.params, gz, dz, 1489, os⟩ := by
  rw [run_cut]
  exact piece_app (N := 12003) (segRun_of (g1 w os)) (piece_app (N := 9003) (segRun_of (g2 w os)) (piece_app (N := 6003) (segRun_of (g3 w os)) (piece_app (N := 3003) (segRun_of (g4 w os)) (piece_app (N := 3) (segRun_of (g5 w os)) (run_fin w os)))))
theorem run_all (w : World) (os : OsState) : topRun treeTable pw w 34 ann0 15016 ⟨HH t0 34 w.params, gz, dz, 318, os⟩ (topStub pw) = some ⟨hl w.params, gz, dz, 1489, os⟩ :=
  go_top (N := 15004) (run_pre w os) (piece_block (N := 15003) (run_block w os) (run_rest w os))
noncomputable def q : Program := view pw keep
noncomputable abbrev mods : List Str := importedModules pw.main.body
noncomputable abbrev Xt (s : Shared) : Bool := xlAt q [] s && recOk (RowW.records PySem.Challenge.rw_rt0109_01.row.toRowW) s
theorem lk_size (w : World) : ((HH t0 34 w.params).isNs mainGlobals && gz.size == 0, (HH t0 34 w.params).objs.size, (HH t0 34 w.params).nsMap mainGlobals "__annotations__") = (true, 34, ann0) := by
  kernel_rfl
theorem lk_1 (w : World) (os : OsState) : (staticsOk mods (HH t0 34 w.params) (hl w.params) && namesBound pw (hl w.params) && gensDone ⟨hl w.params, gz, dz, 1489, os⟩ && laidKept (HH t0 34 w.params) (hl w.params)) = true := by
  kernel_rfl
theorem lk_2 (w : World) (os : OsState) : openSeen q loose mods Xt true ⟨hl w.params, gz, dz, 1489, os⟩ = openGood q loose := by
  rw [PySem.W.Fast.te4187177175401517315]; kernel_rfl
theorem lk_3 (w : World) (os : OsState) : X.obsZ as ⟨hl w.params, gz, dz, 1489, os⟩ = X.valZ K 915 1489 w := by kernel_rfl
theorem left : LeftO pw q loose Xt (X.obsZ as) (X.valZ K 915 1489) 20000 true :=
  LeftO.of_pieces (H₀ := HH t0 34) (H₁ := hl) (M := 15016) op lk_size run_all (by decide) (fun w => funext fun os => Prod.ext (lk_1 w os) (Prod.ext (lk_2 w os) (lk_3 w os)))
noncomputable def dk : DefRec × List (Str × Expr) := (defOf q "law").getD ⟨⟨"", default, [], default, default⟩, []⟩
noncomputable abbrev row : OpenRow := PySem.Challenge.rw_rt0109_01.row
theorem said : PySem.Challenge.rw_rt0109_01.wellSaid = true := by
  rw [PySem.W.Fast.te9446332074065402090]
  iterate 38 refine look_both ?_ (by decide +kernel)
  decide +kernel
theorem as_keys (P : Params) : as = (K P).map (·.1) := by kernel_rfl
theorem head (walk : WalkX q loose (XL q []) (X.obsZ as) (X.valZ K 915 1489) row.toRowW dk.1 dk.2 fun f vs => PySem.call f vs) : PySem.Challenge.rw_rt0109_01.Holds := by
  refine holds_law said fun said => ?_
  refine holds_openX (q := q) (loose := loose) (Xt := Xt) (XP := XL q []) (N := 20000) left (fun s e => xl_of s (Bool.and_eq_true_iff.mp e).1) XL.keeps (by kernel_rfl) (by kernel_rfl) (by kernel_rfl) (fun s e => recFacts_of (Bool.and_eq_true_iff.mp e).2) rfl said (by decide +kernel) ⟨rfl, rfl, rfl, rfl, rfl, by decide +kernel⟩ ?hw walk
  case hw => w_witness2
end Mine
end
section
namespace Mine
noncomputable abbrev T := List Nat
noncomputable def sep : List T → T
  | [] => []
  | [s] => s
  | s :: r => s ++ 39 :: sep r
theorem sep_cons (s : T) {r : List T} (h : r ≠ []) : sep (s :: r) = s ++ 39 :: sep r := by
  cases r with
  | nil => exact absurd rfl h
  | cons a r => rfl
noncomputable def escC (h c : Nat) : T :=
  if c = 38 then [38, 97, 109, 112, 59]
  else if c = 34 then [38, 113, 117, 111, 116, 59]
  else match h with
    | 0 => if c = 60 then [38, 108, 116, 59] else if c = 62 then [38, 103, 116, 59] else if c = 13 then [38, 35, 49, 51, 59] else if c = 10 then [38, 35, 49, 48, 59] else if c = 9 then [38, 35, 48, 57, 59] else [c]
    | 1 => if c = 62 then [38, 103, 116, 59] else [c]
    | _ => if c = 60 then [38, 108, 116, 59] else if c = 9 then [38, 35, 120, 57, 59] else if c = 10 then [38, 35, 120, 65, 59] else if c = 13 then [38, 35, 120, 68, 59] else [c]
noncomputable def esc (h : Nat) (t : T) : T := t.flatMap (escC h)
noncomputable def quoC (c : Nat) : T := if c = 39 then [39, 34, 39, 34, 39] else [c]
noncomputable def quo (t : T) : T := 39 :: (t.flatMap quoC ++ [39])
noncomputable def rounds : List Nat → T → T
  | [], t => t
  | h :: hs, t => rounds hs (esc h (quo t))
theorem esc_append (h : Nat) (a b : T) : esc h (a ++ b) = esc h a ++ esc h b := List.flatMap_append
theorem esc_nil (h : Nat) : esc h [] = [] := rfl
theorem esc_cons (h c : Nat) (a : T) : esc h (c :: a) = escC h c ++ esc h a := List.flatMap_cons
theorem escC_39 (h : Nat) : escC h 39 = [39] := by unfold escC; split <;> simp_all; split <;> rfl
theorem quo_free {s : T} (hs : 39 ∉ s) : s.flatMap quoC = s := by
  induction s with
  | nil => rfl
  | cons c s ih =>
    rw [List.mem_cons, not_or] at hs
    rw [List.flatMap_cons, ih hs.2]
    unfold quoC
    rw [if_neg (Ne.symm hs.1)]; rfl
theorem escC_free {h c : Nat} (hc : c ≠ 39) : 39 ∉ escC h c := by
  unfold escC
  split
  · decide
  · split
    · decide
    · split <;> (repeat' split) <;> first | decide | (simp; exact fun e => hc e.symm)
theorem esc_free {h : Nat} {s : T} (hs : 39 ∉ s) : 39 ∉ esc h s := by
  intro hm
  obtain ⟨c, hc, hm⟩ := List.mem_flatMap.mp hm
  exact escC_free (fun e => hs (e ▸ hc)) hm
noncomputable def step' (e : T → T) (q fst : T) : List T → List T
  | [] => []
  | [s] => [fst, e s, []]
  | s :: t => fst :: e s :: q :: step' e q q t
noncomputable def step (h : Nat) (S : List T) : List T := step' (esc h) (esc h [34]) [] S
theorem step'_ne {e : T → T} {q fst : T} {S : List T} (h : S ≠ []) : step' e q fst S ≠ [] := by
  cases S with
  | nil => exact absurd rfl h
  | cons s t => cases t <;> (unfold step'; simp)
theorem sep_step' (h : Nat) (fst : T) : ∀ S : List T, S ≠ [] → (∀ s ∈ S, 39 ∉ s) →
    sep (step' (esc h) (esc h [34]) fst S) = fst ++ 39 :: (esc h ((sep S).flatMap quoC) ++ [39])
  | [], hne, _ => absurd rfl hne
  | [s], _, hf => by
    have h1 : sep [s] = s := rfl
    rw [h1, quo_free (hf s (.head _))]
    show sep [fst, esc h s, []] = _
    simp [sep]
  | s :: a :: t, _, hf => by
    have ih := sep_step' h (esc h [34]) (a :: t) (by simp) (fun x hx => hf x (.tail _ hx))
    show sep (fst :: esc h s :: esc h [34] :: step' (esc h) (esc h [34]) (esc h [34]) (a :: t)) = _
    have hne : step' (esc h) (esc h [34]) (esc h [34]) (a :: t) ≠ [] := step'_ne (by simp)
    rw [sep_cons _ (by simp), sep_cons _ (by simp), sep_cons _ hne, ih, sep_cons s (by simp), List.flatMap_append, quo_free (hf s (.head _)), List.flatMap_cons, esc_append, esc_append]
    have e39 : esc h (quoC 39) = 39 :: (esc h [34] ++ 39 :: (esc h [34] ++ [39])) := by
      show esc h [39, 34, 39, 34, 39] = _
      simp only [esc, List.flatMap_cons, List.flatMap_nil, escC_39, List.append_nil, List.append_assoc, List.cons_append, List.nil_append]
    rw [e39]
    simp only [List.append_assoc, List.cons_append, List.nil_append]
theorem sep_step (h : Nat) {S : List T} (hne : S ≠ []) (hf : ∀ s ∈ S, 39 ∉ s) : esc h (quo (sep S)) = sep (step h S) := by
  unfold step
  rw [sep_step' h [] S hne hf]
  unfold quo
  rw [esc_cons, escC_39, esc_append]
  show _ = 39 :: _
  simp only [esc, List.flatMap_cons, List.flatMap_nil, escC_39, List.append_nil, List.cons_append, List.nil_append]
theorem step'_free {h : Nat} : ∀ {S : List T} {fst : T}, 39 ∉ fst → (∀ s ∈ S, 39 ∉ s) → ∀ s ∈ step' (esc h) (esc h [34]) fst S, 39 ∉ s
  | [], _, _, _ => fun s hs => nomatch hs
  | [x], fst, hfst, hf => fun s hs => by
    simp only [step', List.mem_cons, List.not_mem_nil, or_false] at hs
    rcases hs with rfl | rfl | rfl
    · exact hfst
    · exact esc_free (hf x (.head _))
    · simp
  | x :: a :: t, fst, hfst, hf => fun s hs => by
    have hq : 39 ∉ esc h [34] := esc_free (by decide)
    simp only [step', List.mem_cons] at hs
    rcases hs with rfl | rfl | rfl | hs
    · exact hfst
    · exact esc_free (hf x (.head _))
    · exact hq
    · exact step'_free hq (fun y hy => hf y (.tail _ hy)) s hs
theorem step_free {h : Nat} {S : List T} (hf : ∀ s ∈ S, 39 ∉ s) : ∀ s ∈ step h S, 39 ∉ s := step'_free (by simp) hf
noncomputable def steps : List Nat → List T → List T
  | [], S => S
  | h :: hs, S => steps hs (step h S)
theorem rounds_sep : ∀ (hs : List Nat) {S : List T}, S ≠ [] → (∀ s ∈ S, 39 ∉ s) → rounds hs (sep S) = sep (steps hs S)
  | [], _, _, _ => rfl
  | h :: hs, S, hne, hf => by
    show rounds hs (esc h (quo (sep S))) = sep (steps hs (step h S))
    rw [sep_step h hne hf]
    exact rounds_sep hs (step'_ne hne) (step_free hf)
theorem length_step' {e : T → T} {q : T} : ∀ (S : List T) (fst : T), (step' e q fst S).length = 3 * S.length
  | [], _ => rfl
  | [_], _ => rfl
  | _ :: b :: t, _ => by
    have := length_step' (e := e) (q := q) (b :: t) q
    simp only [step', List.length_cons] at this ⊢
    omega
theorem get_step' {e : T → T} {q : T} : ∀ (S : List T) (fst : T) (p : Nat), p < 3 * S.length →
    (step' e q fst S)[p]? = some (if p % 3 = 1 then e (S.getD (p / 3) []) else if p % 3 = 0 then (if p / 3 = 0 then fst else q) else if p / 3 + 1 = S.length then [] else q)
  | [], _, p, h => by simp at h
  | [s], fst, p, h => by
    simp only [List.length_cons, List.length_nil] at h
    have : p = 0 ∨ p = 1 ∨ p = 2 := by omega
    rcases this with rfl | rfl | rfl <;> rfl
  | s :: b :: t, fst, p, h => by
    have ih := get_step' (e := e) (q := q) (b :: t) q
    by_cases h0 : p < 3
    · have : p = 0 ∨ p = 1 ∨ p = 2 := by omega
      rcases this with rfl | rfl | rfl
      · rfl
      · rfl
      · simp [step']
    · obtain ⟨r, rfl⟩ : ∃ r, p = r + 3 := ⟨p - 3, by omega⟩
      have hr : r < 3 * (b :: t).length := by simp only [List.length_cons] at h ⊢; omega
      have e1 : (step' e q fst (s :: b :: t))[r + 3]? = (step' e q q (b :: t))[r]? := by simp [step']
      rw [e1, ih r hr]
      have m : (r + 3) % 3 = r % 3 := by omega
      have d : (r + 3) / 3 = r / 3 + 1 := by omega
      rw [m, d]
      congr 1
      simp only [List.getD_cons_succ, List.length_cons]
      split
      · rfl
      · split
        · simp
        · congr 1
          simp
noncomputable def gapR (P : List T) : List Nat → Nat → T
  | [], p => P.getD p []
  | h :: rs, p => if p % 3 = 1 then esc h (gapR P rs (p / 3)) else if p % 3 = 0 then (if p / 3 = 0 then [] else esc h [34]) else if p / 3 + 1 = P.length * 3 ^ rs.length then [] else esc h [34]
theorem steps_app : ∀ (hs : List Nat) (h : Nat) (S : List T), steps (hs ++ [h]) S = step h (steps hs S)
  | [], _, _ => rfl
  | _ :: hs, h, S => steps_app hs h _
theorem steps_get (P : List T) : ∀ (rs : List Nat), (steps rs.reverse P).length = P.length * 3 ^ rs.length ∧ ∀ p, p < P.length * 3 ^ rs.length → (steps rs.reverse P)[p]? = some (gapR P rs p)
  | [] => ⟨by simp [steps], fun p hp => by
      simp only [List.length_nil, Nat.pow_zero, Nat.mul_one] at hp
      simp [steps, gapR, List.getD_eq_getElem?_getD, List.getElem?_eq_getElem hp]⟩
  | h :: rs => by
    obtain ⟨hl, hg⟩ := steps_get P rs
    rw [List.reverse_cons, steps_app]
    have hp3 : P.length * 3 ^ (h :: rs).length = 3 * (P.length * 3 ^ rs.length) := by
      rw [List.length_cons, Nat.pow_succ, Nat.mul_comm (3 ^ rs.length) 3, ← Nat.mul_assoc, Nat.mul_comm P.length 3, Nat.mul_assoc]
    refine ⟨by unfold step; rw [length_step', hl, hp3], fun p hp => ?_⟩
    rw [hp3, ← hl] at hp
    unfold step
    rw [get_step' _ _ _ hp, hl]
    have hj : p / 3 < P.length * 3 ^ rs.length := by rw [← hl]; omega
    have := hg _ hj
    simp only [gapR, List.getD_eq_getElem?_getD, this, Option.getD_some]
theorem steps_map (P : List T) (rs : List Nat) : steps rs.reverse P = (List.range (P.length * 3 ^ rs.length)).map (gapR P rs) := by
  obtain ⟨hl, hg⟩ := steps_get P rs
  apply List.ext_getElem?
  intro i
  by_cases h : i < P.length * 3 ^ rs.length
  · rw [hg i h, List.getElem?_map, List.getElem?_range h]; rfl
  · rw [List.getElem?_eq_none (by rw [hl]; omega), List.getElem?_eq_none (by rw [List.length_map, List.length_range]; omega)]
end Mine
end
section
namespace Mine
noncomputable def told (h : Nat) (c : Nat) : Option T := match h with
  | 0 => if c = 60 then some [108, 116, 59] else if c = 62 then some [103, 116, 59] else if c = 34 then some [113, 117, 111, 116, 59] else if c = 13 then some [35, 49, 51, 59] else if c = 10 then some [35, 49, 48, 59] else if c = 9 then some [35, 48, 57, 59] else none
  | 1 => if c = 62 then some [103, 116, 59] else if c = 34 then some [113, 117, 111, 116, 59] else none
  | _ => if c = 60 then some [108, 116, 59] else if c = 34 then some [113, 117, 111, 116, 59] else if c = 13 then some [35, 120, 68, 59] else if c = 10 then some [35, 120, 65, 59] else if c = 9 then some [35, 120, 57, 59] else none
noncomputable def shownBy (h : Nat) (shown : T) : T := match shown with
  | [] => []
  | c :: r => if c = 38 then [38, 97, 109, 112, 59] ++ r else match r with
    | [] => (match told h c with | some t => 38 :: t | none => [c])
    | _ :: _ => c :: r
noncomputable def agedC (hands : List Nat) (c : Nat) : T := hands.foldl (fun s h => shownBy h s) [c]
noncomputable def aged (hands : List Nat) (t : T) : T := t.flatMap (agedC hands)
noncomputable def plainC (c : Nat) : Prop := c ≠ 38 ∧ c ≠ 34 ∧ c ≠ 60 ∧ c ≠ 62 ∧ c ≠ 13 ∧ c ≠ 10 ∧ c ≠ 9
theorem escC_plain {h c : Nat} (p : plainC c) : escC h c = [c] := by
  obtain ⟨a, b, c1, d, e, f, g⟩ := p
  unfold escC
  rw [if_neg a, if_neg b]
  split <;> simp [c1, d, e, f, g]
theorem esc_plain {h : Nat} {t : T} (p : ∀ c ∈ t, plainC c) : esc h t = t := by
  induction t with
  | nil => rfl
  | cons c t ih => rw [esc_cons, escC_plain (p c (.head _)), ih fun x hx => p x (.tail _ hx)]; rfl
noncomputable def Shown (s : T) : Prop := (∃ c, s = [c]) ∨ ∃ r, s = 38 :: r ∧ ∀ c ∈ r, plainC c
theorem told_esc (h c : Nat) (h38 : c ≠ 38) : (match told h c with | some t => 38 :: t | none => [c]) = escC h c := by
  unfold escC
  rw [if_neg h38]
  rcases h with _ | _ | n
  · unfold told
    by_cases h34 : c = 34
    · subst h34; rfl
    · simp only [h34, if_false]
      (repeat' split) <;> simp_all
  · unfold told
    by_cases h34 : c = 34
    · subst h34; rfl
    · simp only [h34, if_false]
      (repeat' split) <;> simp_all
  · unfold told
    by_cases h34 : c = 34
    · subst h34; rfl
    · simp only [h34, if_false]
      (repeat' split) <;> simp_all
theorem shownBy_esc (h : Nat) {s : T} (q : Shown s) : shownBy h s = esc h s := by
  rcases q with ⟨c, rfl⟩ | ⟨r, rfl, p⟩
  · rw [esc_cons, esc_nil, List.append_nil]
    by_cases h38 : c = 38
    · subst h38; rfl
    · rw [← told_esc h c h38]
      show (if c = 38 then _ else _) = _
      rw [if_neg h38]
  · rw [esc_cons, esc_plain p]
    simp [shownBy, escC]
theorem Shown.by (h : Nat) {s : T} (q : Shown s) : Shown (esc h s) := by
  rcases q with ⟨c, rfl⟩ | ⟨r, rfl, p⟩
  · rw [esc_cons, esc_nil, List.append_nil]
    unfold escC
    by_cases h38 : c = 38
    · rw [if_pos h38]; exact .inr ⟨_, rfl, by simp [plainC]⟩
    · rw [if_neg h38]
      by_cases h34 : c = 34
      · rw [if_pos h34]; exact .inr ⟨_, rfl, by simp [plainC]⟩
      · rw [if_neg h34]
        split <;> (repeat' split) <;> first | exact .inl ⟨_, rfl⟩ | exact .inr ⟨_, rfl, by simp [plainC]⟩
  · rw [esc_cons, esc_plain p]
    refine .inr ⟨[97, 109, 112, 59] ++ r, by simp [escC], fun c hc => ?_⟩
    rcases List.mem_append.mp hc with hc | hc
    · simp only [List.mem_cons, List.not_mem_nil, or_false] at hc
      rcases hc with rfl | rfl | rfl | rfl <;> simp [plainC]
    · exact p c hc
noncomputable def escs (hands : List Nat) (t : T) : T := hands.foldl (fun s h => esc h s) t
theorem foldl_shown : ∀ (hands : List Nat) {s : T}, Shown s → hands.foldl (fun s h => shownBy h s) s = escs hands s
  | [], _, _ => rfl
  | h :: hs, s, q => by
    show hs.foldl _ (shownBy h s) = escs hs (esc h s)
    rw [shownBy_esc h q]
    exact foldl_shown hs (q.by h)
theorem escs_append : ∀ (hands : List Nat) (a b : T), escs hands (a ++ b) = escs hands a ++ escs hands b
  | [], _, _ => rfl
  | h :: hs, a, b => by
    show escs hs (esc h (a ++ b)) = escs hs (esc h a) ++ escs hs (esc h b)
    rw [esc_append, escs_append hs]
theorem escs_nil : ∀ (hands : List Nat), escs hands [] = []
  | [] => rfl
  | h :: hs => by show escs hs (esc h []) = []; rw [esc_nil, escs_nil hs]
theorem aged_escs (hands : List Nat) (t : T) : aged hands t = escs hands t := by
  induction t with
  | nil => rw [escs_nil]; rfl
  | cons c t ih =>
    show agedC hands c ++ aged hands t = _
    rw [ih, show (c :: t) = [c] ++ t from rfl, escs_append]
    unfold agedC
    rw [foldl_shown hands (.inl ⟨c, rfl⟩)]
noncomputable def figs : Nat → Nat → List Nat
  | 0, p => [p]
  | r + 1, p => p % 3 :: figs r (p / 3)
noncomputable def ageOf : List Nat → Nat
  | [] => 0
  | [_] => 0
  | d :: ds => if d = 1 then ageOf ds + 1 else 0
noncomputable def lawGap (P : List T) (hands : List Nat) (p : Nat) : T :=
  let r := hands.length
  let age := ageOf (figs r p)
  if age = r then aged hands (P.getD (p / 3 ^ r) [])
  else if figs r p = List.replicate age 1 ++ List.replicate (r - age + 1) 0 then []
  else if figs r p = List.replicate age 1 ++ List.replicate (r - age) 2 ++ [P.length - 1] then []
  else aged (hands.drop (r - age - 1)) [34]
theorem figs_zero : ∀ r p, figs r p = List.replicate (r + 1) 0 ↔ p = 0
  | 0, p => by simp [figs]
  | r + 1, p => by
    rw [figs, List.replicate_succ, List.cons.injEq, figs_zero r]
    omega
theorem figs_two (c : Nat) (hc : 0 < c) : ∀ r p, figs r p = List.replicate r 2 ++ [c - 1] ↔ p + 1 = c * 3 ^ r
  | 0, p => by simp [figs]; omega
  | r + 1, p => by
    rw [figs, List.replicate_succ, List.cons_append, List.cons.injEq, figs_two c hc r, Nat.pow_succ, ← Nat.mul_assoc]
    generalize c * 3 ^ r = x
    omega
theorem figs_len : ∀ r p, (figs r p).length = r + 1
  | 0, _ => rfl
  | r + 1, p => by rw [figs, List.length_cons, figs_len]
theorem age_le : ∀ r p, ageOf (figs r p) ≤ r
  | 0, p => by simp [figs, ageOf]
  | r + 1, p => by
    have ih := age_le r (p / 3)
    have hl := figs_len r (p / 3)
    rw [figs]
    cases q : figs r (p / 3) with
    | nil => rw [q] at hl; simp at hl
    | cons a t =>
      rw [q] at ih
      unfold ageOf
      split <;> omega
theorem age_succ (r p : Nat) : ageOf (figs (r + 1) p) = if p % 3 = 1 then ageOf (figs r (p / 3)) + 1 else 0 := by
  have hl := figs_len r (p / 3)
  rw [figs]
  cases q : figs r (p / 3) with
  | nil => rw [q] at hl; simp at hl
  | cons a t => rfl
theorem aged_snoc (hs : List Nat) (h : Nat) (t : T) : aged (hs ++ [h]) t = esc h (aged hs t) := by
  rw [aged_escs, aged_escs]
  unfold escs
  rw [List.foldl_append]; rfl
theorem lawGap_gapR (P : List T) (hP : P ≠ []) : ∀ (rs : List Nat) (p : Nat), lawGap P rs.reverse p = gapR P rs p
  | [], p => by simp [lawGap, gapR, figs, ageOf, aged_escs, escs]
  | h :: rs, p => by
    have ih := lawGap_gapR P hP rs (p / 3)
    have hl : 0 < P.length := List.length_pos_iff.mpr hP
    have ha := age_le rs.length (p / 3)
    unfold lawGap at ih ⊢
    rw [List.reverse_cons, List.length_append, List.length_reverse, List.length_cons, List.length_nil] at *
    simp only [Nat.zero_add, age_succ] at ih ⊢
    rw [gapR, figs]
    have h3 : p % 3 = 0 ∨ p % 3 = 1 ∨ p % 3 = 2 := by omega
    rcases h3 with d | d | d
    · rw [d]
      simp only [show ¬ (0 = 1) by decide, if_false, if_true]
      rw [if_neg (by omega)]
      have e1 : (0 :: figs rs.length (p / 3) = List.replicate 0 1 ++ List.replicate (rs.length + 1 - 0 + 1) 0) ↔ p / 3 = 0 := by
        rw [List.replicate_zero, List.nil_append, Nat.sub_zero, List.replicate_succ, List.cons.injEq, figs_zero]
        simp
      have e2 : ¬ (0 :: figs rs.length (p / 3) = List.replicate 0 1 ++ List.replicate (rs.length + 1 - 0) 2 ++ [P.length - 1]) := by
        rw [List.replicate_zero, List.nil_append, Nat.sub_zero, List.replicate_succ, List.cons_append, List.cons.injEq]
        simp
      by_cases z : p / 3 = 0
      · rw [if_pos (e1.mpr z), if_pos z]
      · rw [if_neg (fun q => z (e1.mp q)), if_neg e2, if_neg z]
        rw [show rs.length + 1 - 0 - 1 = rs.reverse.length by rw [List.length_reverse]; omega, List.drop_left, aged_escs]; rfl
    · rw [d]
      simp only [if_true]
      rw [← ih]
      generalize hA : ageOf (figs rs.length (p / 3)) = A at *
      have e0 : (A + 1 = rs.length + 1) ↔ A = rs.length := by omega
      have e1 : (1 :: figs rs.length (p / 3) = List.replicate (A + 1) 1 ++ List.replicate (rs.length + 1 - (A + 1) + 1) 0) ↔ figs rs.length (p / 3) = List.replicate A 1 ++ List.replicate (rs.length - A + 1) 0 := by
        rw [List.replicate_succ, List.cons_append, List.cons.injEq, Nat.add_sub_add_right]
        simp
      have e2 : (1 :: figs rs.length (p / 3) = List.replicate (A + 1) 1 ++ List.replicate (rs.length + 1 - (A + 1)) 2 ++ [P.length - 1]) ↔ figs rs.length (p / 3) = List.replicate A 1 ++ List.replicate (rs.length - A) 2 ++ [P.length - 1] := by
        rw [List.replicate_succ, List.cons_append, List.cons_append, List.cons.injEq, Nat.add_sub_add_right]
        simp
      by_cases z0 : A = rs.length
      · rw [if_pos (e0.mpr z0), if_pos z0, aged_snoc, Nat.pow_succ, Nat.mul_comm, ← Nat.div_div_eq_div_mul]
      · rw [if_neg (fun q => z0 (e0.mp q)), if_neg z0]
        by_cases z1 : figs rs.length (p / 3) = List.replicate A 1 ++ List.replicate (rs.length - A + 1) 0
        · rw [if_pos (e1.mpr z1), if_pos z1, esc_nil]
        · rw [if_neg (fun q => z1 (e1.mp q)), if_neg z1]
          by_cases z2 : figs rs.length (p / 3) = List.replicate A 1 ++ List.replicate (rs.length - A) 2 ++ [P.length - 1]
          · rw [if_pos (e2.mpr z2), if_pos z2, esc_nil]
          · rw [if_neg (fun q => z2 (e2.mp q)), if_neg z2, ← aged_snoc]
            congr 1
            rw [List.drop_append_of_le_length (by rw [List.length_reverse]; omega)]
            congr 2
            omega
    · rw [d]
      simp only [show ¬ (2 = 1) by decide, show ¬ (2 = 0) by decide, if_false]
      rw [if_neg (by omega)]
      have e1 : ¬ (2 :: figs rs.length (p / 3) = List.replicate 0 1 ++ List.replicate (rs.length + 1 - 0 + 1) 0) := by
        rw [List.replicate_zero, List.nil_append, Nat.sub_zero, List.replicate_succ, List.cons.injEq]
        simp
      have e2 : (2 :: figs rs.length (p / 3) = List.replicate 0 1 ++ List.replicate (rs.length + 1 - 0) 2 ++ [P.length - 1]) ↔ p / 3 + 1 = P.length * 3 ^ rs.length := by
        rw [List.replicate_zero, List.nil_append, Nat.sub_zero, List.replicate_succ, List.cons_append, List.cons.injEq, figs_two _ hl]
        simp
      rw [if_neg e1]
      by_cases z : p / 3 + 1 = P.length * 3 ^ rs.length
      · rw [if_pos (e2.mpr z), if_pos z]
      · rw [if_neg (fun q => z (e2.mp q)), if_neg z]
        rw [show rs.length + 1 - 0 - 1 = rs.reverse.length by rw [List.length_reverse]; omega, List.drop_left, aged_escs]; rfl
theorem text_law (P : List T) (hP : P ≠ []) (hf : ∀ s ∈ P, 39 ∉ s) (hands : List Nat) :
    rounds hands (sep P) = sep ((List.range (P.length * 3 ^ hands.length)).map (lawGap P hands)) := by
  have e : (fun p => lawGap P hands p) = gapR P hands.reverse := funext fun p => by rw [← lawGap_gapR P hP, List.reverse_reverse]
  rw [rounds_sep hands hP hf, show lawGap P hands = gapR P hands.reverse from e]
  have := steps_map P hands.reverse
  rw [List.reverse_reverse, List.length_reverse] at this
  rw [this]
end Mine
end
section
namespace Mine
noncomputable def ws (c : Nat) : Bool := c == 32 || c == 9 || c == 13 || c == 10
inductive St where
  | sp | q | a
noncomputable def shl : St → T → T → Option (List T)
  | .sp, _, [] => some []
  | .q, _, [] => none
  | .a, tok, [] => some [tok]
  | .sp, _, c :: r => if ws c then shl .sp [] r else if c = 39 then shl .q [] r else shl .a [c] r
  | .q, tok, c :: r => if c = 39 then shl .a tok r else shl .q (tok ++ [c]) r
  | .a, tok, c :: r => if ws c then (shl .sp [] r).map (tok :: ·) else if c = 39 then shl .q tok r else shl .a (tok ++ [c]) r
noncomputable def evenGap : T → T → List T × T
  | word, [] => ([], word)
  | word, c :: r => if ws c then ((if word = [] then (evenGap [] r).1 else word :: (evenGap [] r).1), (evenGap [] r).2) else evenGap (word ++ [c]) r
noncomputable def lawWords : Bool → T → List T → List T
  | _, word, [] => if word = [] then [] else [word]
  | true, word, g :: r => lawWords false (word ++ g) r
  | false, word, g :: r => (evenGap word g).1 ++ lawWords true (evenGap word g).2 r
noncomputable def good : Bool → List T → Bool
  | _, [] => false
  | f, [g] => f && g.isEmpty
  | f, g :: o :: r => if g.any ws then f && !o.isEmpty && good true r else good (f || !g.isEmpty || !o.isEmpty) r
theorem ws_39 : ws 39 = false := rfl
theorem evenGap_nows : ∀ (g w : T), g.any ws = false → evenGap w g = ([], w ++ g)
  | [], w, _ => by simp [evenGap]
  | c :: r, w, h => by
    simp only [List.any_cons, Bool.or_eq_false_iff] at h
    rw [evenGap, if_neg (by rw [h.1]; exact Bool.false_ne_true), evenGap_nows r (w ++ [c]) h.2]
    simp
theorem shl_q : ∀ (o : T) (tok X : T), 39 ∉ o → shl .q tok (o ++ 39 :: X) = shl .a (tok ++ o) X
  | [], tok, X, _ => by simp [shl]
  | c :: r, tok, X, h => by
    simp only [List.mem_cons, not_or] at h
    rw [List.cons_append, shl, if_neg (Ne.symm h.1), shl_q r _ _ h.2]
    simp
theorem shl_q_end : ∀ (o : T) (tok : T), 39 ∉ o → shl .q tok o = none
  | [], _, _ => rfl
  | c :: r, tok, h => by
    simp only [List.mem_cons, not_or] at h
    rw [shl, if_neg (Ne.symm h.1), shl_q_end r _ h.2]
theorem shl_g (X : T) : ∀ (g : T), 39 ∉ g →
    (shl .sp [] (g ++ 39 :: X) = (shl .q (evenGap [] g).2 X).map ((evenGap [] g).1 ++ ·)) ∧
    (∀ w, w ≠ [] → shl .a w (g ++ 39 :: X) = (shl .q (evenGap w g).2 X).map ((evenGap w g).1 ++ ·))
  | [], _ => ⟨by simp [shl, evenGap, ws_39], fun w _ => by simp [shl, evenGap, ws_39]⟩
  | c :: r, h => by
    simp only [List.mem_cons, not_or] at h
    obtain ⟨ih1, ih2⟩ := shl_g X r h.2
    refine ⟨?_, fun w hw => ?_⟩
    · rw [List.cons_append, shl, evenGap]
      by_cases hc : ws c
      · rw [if_pos hc, if_pos hc, ih1]; rfl
      · rw [if_neg hc, if_neg hc, if_neg (Ne.symm h.1), List.nil_append, ih2 [c] (by simp)]
    · rw [List.cons_append, shl, evenGap]
      by_cases hc : ws c
      · rw [if_pos hc, if_pos hc, ih1, if_neg hw, Option.map_map]; rfl
      · rw [if_neg hc, if_neg hc, if_neg (Ne.symm h.1), ih2 _ (by simp)]
theorem shl_g_nows (X : T) : ∀ (g w : T), 39 ∉ g → g.any ws = false → shl .a w (g ++ 39 :: X) = shl .q (w ++ g) X
  | [], w, _, _ => by simp [shl, ws_39]
  | c :: r, w, h, hn => by
    simp only [List.mem_cons, not_or] at h
    simp only [List.any_cons, Bool.or_eq_false_iff] at hn
    rw [List.cons_append, shl, hn.1, if_neg (by simp), if_neg (Ne.symm h.1), shl_g_nows X r _ h.2 hn.2]
    simp
theorem words_odd : ∀ (gs : List T) (st : St) (w : T) (f : Bool), (∀ g ∈ gs, 39 ∉ g) → (f = true ↔ w ≠ []) → (st = .a ∨ (st = .sp ∧ w = [])) → good f gs = true →
    shl st w (sep gs) = some (lawWords false w gs)
  | [], _, _, _, _, _, _, h => by simp [good] at h
  | [g], st, w, f, _, hw, hst, h => by
    simp only [good, Bool.and_eq_true, List.isEmpty_iff] at h
    obtain ⟨hf, rfl⟩ := h
    have hne := hw.mp hf
    rcases hst with rfl | ⟨_, e⟩
    · simp [sep, shl, lawWords, evenGap, hne]
    · exact absurd e hne
  | g :: o :: r, st, w, f, hfr, hw, hst, h => by
    have hg := hfr g (.head _)
    have ho := hfr o (.tail _ (.head _))
    have hr : ∀ x ∈ r, 39 ∉ x := fun x hx => hfr x (.tail _ (.tail _ hx))
    rw [good] at h
    have hrn : r ≠ [] := by
      intro e
      subst e
      simp [good] at h
    rw [sep_cons g (by simp), sep_cons o hrn]
    by_cases hws : g.any ws
    · rw [if_pos hws] at h
      simp only [Bool.and_eq_true, Bool.not_eq_true', List.isEmpty_eq_false_iff] at h
      obtain ⟨⟨hf, hon⟩, hgood⟩ := h
      have hne := hw.mp hf
      rcases hst with rfl | ⟨_, e⟩
      · rw [(shl_g _ g hg).2 w hne, shl_q o _ _ ho]
        rw [words_odd r .a _ true hr (by simp [hon]) (.inl rfl) hgood]
        simp [lawWords]
      · exact absurd e hne
    · rw [if_neg hws] at h
      have hws' : g.any ws = false := by simpa using hws
      have key : shl st w (g ++ 39 :: (o ++ 39 :: sep r)) = shl .q (w ++ g) (o ++ 39 :: sep r) := by
        rcases hst with rfl | ⟨rfl, rfl⟩
        · exact shl_g_nows _ g w hg hws'
        · rw [(shl_g _ g hg).1, evenGap_nows g [] hws']; simp
      rw [key, shl_q o _ _ ho]
      rw [words_odd r .a (w ++ g ++ o) (f || !g.isEmpty || !o.isEmpty) hr (by
        simp only [Bool.or_eq_true, Bool.not_eq_true', List.isEmpty_eq_false_iff, hw, ne_eq, List.append_eq_nil_iff]
        by_cases a : w = [] <;> by_cases b : g = [] <;> by_cases c : o = [] <;> simp [a, b, c]) (.inl rfl) h]
      simp [lawWords, evenGap_nows g w hws']
theorem shl_any (X : T) : ∀ (g w : T), 39 ∉ g → (∃ w' e, shl .a w (g ++ 39 :: X) = (shl .q w' X).map e) ∧ ∃ w' e, shl .sp [] (g ++ 39 :: X) = (shl .q w' X).map e
  | [], w, _ => ⟨⟨w, id, by simp [shl, ws_39]⟩, ⟨[], id, by simp [shl, ws_39]⟩⟩
  | c :: r, w, h => by
    simp only [List.mem_cons, not_or] at h
    obtain ⟨_, ⟨w2, e2, i2⟩⟩ := shl_any X r w h.2
    refine ⟨?_, ?_⟩
    · rw [List.cons_append, shl]
      by_cases hc : ws c
      · rw [if_pos hc, i2, Option.map_map]; exact ⟨_, _, rfl⟩
      · rw [if_neg hc, if_neg (Ne.symm h.1)]; exact (shl_any X r (w ++ [c]) h.2).1
    · rw [List.cons_append, shl]
      by_cases hc : ws c
      · rw [if_pos hc]; exact ⟨w2, e2, i2⟩
      · rw [if_neg hc, if_neg (Ne.symm h.1)]; exact (shl_any X r [c] h.2).1
theorem words_even : ∀ (gs : List T) (st : St) (w : T), (∀ g ∈ gs, 39 ∉ g) → (st = .a ∨ (st = .sp ∧ w = [])) → gs ≠ [] → gs.length % 2 = 0 → shl st w (sep gs) = none
  | [], _, _, _, _, h, _ => absurd rfl h
  | [_], _, _, _, _, _, h => by simp at h
  | g :: o :: r, st, w, hfr, hst, _, hl => by
    have hg := hfr g (.head _)
    have ho := hfr o (.tail _ (.head _))
    rw [sep_cons g (by simp)]
    have tail : ∀ w', shl .q w' (sep (o :: r)) = none := fun w' => by
      cases r with
      | nil => exact shl_q_end o w' ho
      | cons b r =>
        rw [sep_cons o (by simp), shl_q o _ _ ho]
        exact words_even (b :: r) .a _ (fun x hx => hfr x (.tail _ (.tail _ hx))) (.inl rfl) (by simp) (by simp only [List.length_cons] at hl ⊢; omega)
    obtain ⟨⟨w1, e1, i1⟩, ⟨w2, e2, i2⟩⟩ := shl_any (sep (o :: r)) g w hg
    rcases hst with rfl | ⟨rfl, rfl⟩
    · rw [i1, tail]; rfl
    · rw [i2, tail]; rfl
theorem good_map (G : Nat → T) (N : Nat) (hN : N % 2 = 1) (H1 : ∀ j, j % 2 = 0 → j < N → (G j).any ws = true → 1 ≤ j ∧ G (j - 1) ≠ [] ∧ G (j + 1) ≠ []) (H2 : G (N - 1) = [])
    (H3 : ∃ j, j < N ∧ G j ≠ []) : ∀ (k i : Nat), i + (2 * k + 1) = N → ∀ f, (f = true ↔ ∃ j, j < i ∧ G j ≠ []) → good f ((List.range' i (2 * k + 1)).map G) = true
  | 0, i, hi, f, hf => by
    have e : i = N - 1 := by omega
    subst e
    show (f && (G (N - 1)).isEmpty) = true
    rw [H2]
    obtain ⟨j, hj, hne⟩ := H3
    have : j < N - 1 := by
      rcases Nat.lt_or_ge j (N - 1) with h | h
      · exact h
      · exact absurd (by rw [show j = N - 1 by omega]; exact H2) hne
    simp [hf.mpr ⟨j, this, hne⟩]
  | k + 1, i, hi, f, hf => by
    have e : List.range' i (2 * (k + 1) + 1) = i :: (i + 1) :: List.range' (i + 2) (2 * k + 1) := by
      rw [show 2 * (k + 1) + 1 = (2 * k + 1) + 1 + 1 by omega, List.range'_succ, List.range'_succ]
    rw [e, List.map_cons, List.map_cons, good]
    by_cases hws : (G i).any ws
    · rw [if_pos hws]
      obtain ⟨h1, h2, h3⟩ := H1 i (by omega) (by omega) hws
      have hft : f = true := hf.mpr ⟨i - 1, by omega, h2⟩
      have hgo := good_map G N hN H1 H2 H3 k (i + 2) (by omega) true ⟨fun _ => ⟨i + 1, by omega, h3⟩, fun _ => rfl⟩
      rw [hft, hgo]
      simp [h3]
    · rw [if_neg hws]
      refine good_map G N hN H1 H2 H3 k (i + 2) (by omega) _ ?_
      simp only [Bool.or_eq_true, Bool.not_eq_true', List.isEmpty_eq_false_iff, hf]
      constructor
      · rintro ((⟨j, hj, hne⟩ | h) | h)
        · exact ⟨j, by omega, hne⟩
        · exact ⟨i, by omega, h⟩
        · exact ⟨i + 1, by omega, h⟩
      · rintro ⟨j, hj, hne⟩
        by_cases a : j < i
        · exact .inl (.inl ⟨j, a, hne⟩)
        · by_cases b : j = i
          · exact .inl (.inr (b ▸ hne))
          · exact .inr ((show j = i + 1 by omega) ▸ hne)
theorem q_nows (h : Nat) : (esc h [34]).any ws = false := by
  rw [esc_cons, esc_nil]; simp [escC, ws]
theorem q_ne (h : Nat) : esc h [34] ≠ [] := by
  rw [esc_cons, esc_nil]; simp [escC]
theorem esc_ne (h : Nat) {t : T} (ht : t ≠ []) : esc h t ≠ [] := by
  cases t with
  | nil => exact absurd rfl ht
  | cons c t =>
    rw [esc_cons]
    intro e
    have e1 : escC h c = [] := (List.append_eq_nil_iff.mp e).1
    revert e1
    unfold escC
    split
    · simp
    · split
      · simp
      · split <;> (repeat' split) <;> simp
theorem pow3_odd : ∀ r, 3 ^ r % 2 = 1
  | 0 => rfl
  | r + 1 => by have := pow3_odd r; rw [Nat.pow_succ]; omega
theorem odd_mul {a b : Nat} (ha : a % 2 = 1) (hb : b % 2 = 1) : a * b % 2 = 1 := by rw [Nat.mul_mod, ha, hb]
theorem good_gaps (P : List T) (h : Nat) (rs : List Nat) (hc : P.length % 2 = 1) (h0 : P.getD 0 [] ≠ []) :
    good false ((List.range (P.length * 3 ^ (h :: rs).length)).map (gapR P (h :: rs))) = true := by
  have hM : P.length * 3 ^ rs.length % 2 = 1 := odd_mul hc (pow3_odd _)
  have hN : P.length * 3 ^ (h :: rs).length = 3 * (P.length * 3 ^ rs.length) := by
    rw [List.length_cons, Nat.pow_succ, Nat.mul_comm (3 ^ rs.length) 3, ← Nat.mul_assoc, Nat.mul_comm P.length 3, Nat.mul_assoc]
  rw [hN]
  generalize hMM : P.length * 3 ^ rs.length = M at *
  have key := good_map (gapR P (h :: rs)) (3 * M) (by omega) (fun j j2 jN hj => ?_) ?_ ?_ ((3 * M - 1) / 2) 0 (by omega) false (by simp)
  · rw [show 2 * ((3 * M - 1) / 2) + 1 = 3 * M by omega] at key
    rw [List.range_eq_range']; exact key
  · have j1 : j % 3 = 1 := by
      apply Classical.byContradiction
      intro n1
      rw [gapR, if_neg n1] at hj
      by_cases n0 : j % 3 = 0
      · rw [if_pos n0] at hj
        by_cases z : j / 3 = 0
        · rw [if_pos z] at hj; simp at hj
        · rw [if_neg z, q_nows] at hj; simp at hj
      · rw [if_neg n0] at hj
        split at hj
        · simp at hj
        · rw [q_nows] at hj; simp at hj
    refine ⟨by omega, ?_, ?_⟩
    · rw [gapR, if_neg (by omega), if_pos (by omega), if_neg (by omega)]; exact q_ne h
    · rw [gapR, if_neg (by omega), if_neg (by omega), if_neg (by rw [hMM]; omega)]; exact q_ne h
  · rw [gapR, if_neg (by omega), if_neg (by omega), if_pos (by rw [hMM]; omega)]
  · by_cases h1 : M = 1
    · refine ⟨1, by omega, ?_⟩
      have hp : P.length = 1 := by
        rcases Nat.lt_or_ge 1 P.length with q | q
        · have : 0 < 3 ^ rs.length := Nat.pow_pos (by decide)
          have := Nat.le_mul_of_pos_right P.length this
          omega
        · omega
      have hr : rs = [] := by
        cases rs with
        | nil => rfl
        | cons a t =>
          rw [hp, List.length_cons, Nat.pow_succ] at hMM
          omega
      subst hr
      show esc h (P.getD (1 / 3) []) ≠ []
      exact esc_ne h h0
    · refine ⟨2, by omega, ?_⟩
      rw [gapR, if_neg (by omega), if_neg (by omega), if_neg (by rw [hMM]; omega)]; exact q_ne h
end Mine
end
section
namespace Mine
theorem plain_law (P : List T) (hands : List Nat) (hh : hands ≠ []) (hP : P ≠ []) (hf : ∀ s ∈ P, 39 ∉ s) (h0 : P.getD 0 [] ≠ []) :
    rounds hands (sep P) = sep ((List.range (P.length * 3 ^ hands.length)).map (lawGap P hands)) ∧
    shl .sp [] (rounds hands (sep P)) = if P.length % 2 = 1 then some (lawWords false [] ((List.range (P.length * 3 ^ hands.length)).map (lawGap P hands))) else none := by
  have e := text_law P hP hf hands
  refine ⟨e, ?_⟩
  have e2 : (fun p => lawGap P hands p) = gapR P hands.reverse := funext fun p => by rw [← lawGap_gapR P hP, List.reverse_reverse]
  have hsteps := steps_map P hands.reverse
  rw [List.reverse_reverse, List.length_reverse] at hsteps
  have hfr : ∀ g ∈ (List.range (P.length * 3 ^ hands.length)).map (lawGap P hands), 39 ∉ g := by
    rw [show lawGap P hands = gapR P hands.reverse from e2, ← hsteps]
    clear hsteps e2 e hh h0 hP
    induction hands generalizing P with
    | nil => exact hf
    | cons h hs ih => exact ih (step h P) (step_free hf)
  rw [e]
  by_cases hc : P.length % 2 = 1
  · rw [if_pos hc]
    refine words_odd _ .sp [] false hfr (by simp) (.inr ⟨rfl, rfl⟩) ?_
    rw [show lawGap P hands = gapR P hands.reverse from e2]
    obtain ⟨h, rs, hr⟩ : ∃ h rs, hands.reverse = h :: rs := by
      cases q : hands.reverse with
      | nil => exact absurd (List.reverse_eq_nil_iff.mp q) hh
      | cons h rs => exact ⟨h, rs, rfl⟩
    have hlen : hands.length = (h :: rs).length := by rw [← hr, List.length_reverse]
    rw [hr, hlen]
    exact good_gaps P h rs hc h0
  · rw [if_neg hc]
    refine words_even _ .sp [] hfr (.inr ⟨rfl, rfl⟩) ?_ ?_
    · have : 0 < P.length * 3 ^ hands.length := Nat.mul_pos (List.length_pos_iff.mpr hP) (Nat.pow_pos (by decide))
      intro q
      have := congrArg List.length q
      simp at this
      omega
    · rw [List.length_map, List.length_range, Nat.mul_mod, show P.length % 2 = 0 by omega]; simp
noncomputable def sure (c : Nat) : Bool := c != 34 && c != 92
theorem escC_sure {h c : Nat} (hc : c ≠ 92) : (escC h c).all sure = true := by
  unfold escC
  split
  · decide
  · rename_i h38
    split
    · decide
    · rename_i h34
      split <;> (repeat' split) <;> first | decide | simp [sure, h34, hc]
theorem esc_sure {h : Nat} {t : T} (ht : ∀ c ∈ t, c ≠ 92) : ∀ c ∈ esc h t, c ≠ 34 ∧ c ≠ 92 := by
  intro c hc
  obtain ⟨d, hd, hc⟩ := List.mem_flatMap.mp hc
  have := List.all_eq_true.mp (escC_sure (h := h) (ht d hd)) c hc
  simpa [sure] using this
theorem quo_92 {t : T} (ht : ∀ c ∈ t, c ≠ 92) : ∀ c ∈ quo t, c ≠ 92 := by
  intro c hc
  unfold quo at hc
  rw [List.mem_cons, List.mem_append, List.mem_singleton] at hc
  rcases hc with rfl | hc | rfl
  · decide
  · obtain ⟨d, hd, hc⟩ := List.mem_flatMap.mp hc
    unfold quoC at hc
    split at hc
    · simp only [List.mem_cons, List.not_mem_nil, or_false] at hc
      omega
    · simp only [List.mem_singleton] at hc
      subst hc; exact ht c hd
  · decide
theorem rounds_sure : ∀ (hands : List Nat) {t : T}, hands ≠ [] → (∀ c ∈ t, c ≠ 92) → ∀ c ∈ rounds hands t, c ≠ 34 ∧ c ≠ 92
  | [], _, h, _ => absurd rfl h
  | [h], t, _, ht => esc_sure (quo_92 ht)
  | h :: b :: hs, t, _, ht => rounds_sure (b :: hs) (by simp) fun c hc => (esc_sure (h := h) (quo_92 ht) c hc).2
theorem sep_mem : ∀ (P : List T) (c : Nat), c ∈ sep P → c = 39 ∨ ∃ s ∈ P, c ∈ s
  | [], c, h => by simp [sep] at h
  | [s], c, h => .inr ⟨s, .head _, h⟩
  | s :: b :: t, c, h => by
    rw [sep_cons s (by simp), List.mem_append, List.mem_cons] at h
    rcases h with h | rfl | h
    · exact .inr ⟨s, .head _, h⟩
    · exact .inl rfl
    · rcases sep_mem (b :: t) c h with h | ⟨x, hx, hc⟩
      · exact .inl h
      · exact .inr ⟨x, .tail _ hx, hc⟩
theorem escC_len (h c : Nat) : (escC h c).length ≤ 6 := by
  unfold escC
  split
  · decide
  · split
    · decide
    · split <;> (repeat' split) <;> simp
theorem esc_len (h : Nat) (t : T) : (esc h t).length ≤ 6 * t.length := by
  induction t with
  | nil => simp [esc]
  | cons c t ih => rw [esc_cons, List.length_append, List.length_cons]; have := escC_len h c; omega
theorem quoC_len (c : Nat) : (quoC c).length ≤ 5 := by unfold quoC; split <;> simp
theorem quo_len (t : T) : (quo t).length ≤ 5 * t.length + 2 := by
  have : (t.flatMap quoC).length ≤ 5 * t.length := by
    induction t with
    | nil => simp
    | cons c t ih => rw [List.flatMap_cons, List.length_append, List.length_cons]; have := quoC_len c; omega
  unfold quo
  simp only [List.length_cons, List.length_append, List.length_nil]
  omega
end Mine
end
section
open PySem PySem.W PyProof.Rows
set_option Elab.async false
set_option maxRecDepth 100000
set_option linter.all false
namespace Mine
noncomputable abbrev lz : List Str := looseW q loose
structure G (w : World) (mg mb : Str → Option Value) (h : Heap) : Prop where
  X : (K w.params).In h
  T : TopRead q lz mg mb h
theorem G.keeps {w : World} {mg mb : Str → Option Value} {h h' : Heap} (g : G w mg mb h) (k : ∀ b o, h.get? b = some o → h'.get? b = some o) : G w mg mb h' := ⟨fun a o e => k a o (g.X a o e), g.T.keeps k⟩
structure Fm (w : World) (mg mb : Str → Option Value) (h₀ : Heap) (L : Addr) (m : Str → Option Value) (h : Heap) : Prop where
  F : Fr h₀ L h m
  G : G w mg mb h₀
noncomputable abbrev upd (m : Str → Option Value) (x : Str) (v : Value) : Str → Option Value := fun y => if y = x then some v else m y
section
variable {w : World} {mg mb : Str → Option Value} {A : Around} {E : Value → Shared → Prop} {s : Shared} {nm : Str} {sc : Scope} {L fa : Addr} {cd : Value} {h₀ : Heap} {m : Str → Option Value}
theorem n_loc {x : Str} {pos : Pos} {v : Value} {Q : Value → Shared → Prop} (Φ : Fm w mg mb h₀ L m s.heap) (hv : m x = some v) (h : Q v s)
    (hk : sc.kind = .function := by rfl) (hl : (envOf nm sc L fa cd).kindOf x = some .local := by rfl) (hd : (x == ("__debug__" : Str)) = false := by decide) :
    wpAny (model pw w) A (eval (.Name x pos) (envOf nm sc L fa cd)) Q E s := ld Φ.F hv h hk hl hd
theorem n_glob {x : Str} {pos : Pos} {v : Value} {Q : Value → Shared → Prop} (Φ : Fm w mg mb h₀ L m s.heap) (e : nsIn (K w.params) mainGlobals x = some (some v)) (h : Q v s)
    (hk : sc.kind = .function := by rfl) (hx : (envOf nm sc L fa cd).kindOf x = some .globalImplicit := by rfl) (hd : (x == ("__debug__" : Str)) = false := by decide) :
    wpAny (model pw w) A (eval (.Name x pos) (envOf nm sc L fa cd)) Q E s := name_K Φ.F Φ.G.X Φ.G.T e h hk hx hd
theorem n_blt {x : Str} {pos : Pos} {v : Value} {Q : Value → Shared → Prop} (Φ : Fm w mg mb h₀ L m s.heap) (e : nsIn (K w.params) mainGlobals x = some none) (hv : bootBuiltins x = some v) (hn : x ≠ "__name__") (h : Q v s)
    (hk : sc.kind = .function := by rfl) (hx : (envOf nm sc L fa cd).kindOf x = some .globalImplicit := by rfl) (hd : (x == ("__debug__" : Str)) = false := by decide) :
    wpAny (model pw w) A (eval (.Name x pos) (envOf nm sc L fa cd)) Q E s := name_B Φ.F Φ.G.X Φ.G.T e hv hn h hk hx hd
theorem n_set {x : Str} {v : Value} {Q : Unit → Shared → Prop} (Φ : Fm w mg mb h₀ L m s.heap)
    (h : ∀ h', Fm w mg mb h₀ L (upd m x v) h' → Q () { s with heap := h', toks := s.toks + 1 })
    (hk : sc.kind = .function := by rfl) (hl : (envOf nm sc L fa cd).kindOf x = some .local := by rfl) :
    wpAny (model pw w) A (storeName (envOf nm sc L fa cd) x v) Q E s := PyProof.Rows.st Φ.F (fun h' F' => h h' ⟨F', Φ.G⟩) hk hl
end
theorem Fm.keeps {w : World} {mg mb : Str → Option Value} {h₀ : Heap} {L : Addr} {m : Str → Option Value} {h h' : Heap} (Φ : Fm w mg mb h₀ L m h) (k : ∀ b o, h.get? b = some o → h'.get? b = some o) : Fm w mg mb h₀ L m h' := by
  refine ⟨⟨?_, fun b o e => k b o (Φ.F.keep b o e), Φ.F.above⟩, Φ.G⟩
  obtain ⟨o, es, ep, ho, r⟩ := Φ.F.ns
  exact ⟨o, es, ep, k _ _ ho, r⟩
theorem Fm.gg {w : World} {mg mb : Str → Option Value} {h₀ : Heap} {L : Addr} {m : Str → Option Value} {h : Heap} (Φ : Fm w mg mb h₀ L m h) : Mine.G w mg mb h := Φ.G.keeps Φ.F.keep
theorem enter {w : World} {mg mb : Str → Option Value} {A : Around} {E : Value → Shared → Prop} {s : Shared} {Q : Value → Shared → Prop} {f : Addr} {args : List Value} {binds : List (Str × Value)}
    {name qual : Str} {params : Arguments} {body : List Stmt} {scope : Scope} {dV kV doc pm cdv ct oc : Value} {an od : Option Addr} {osl : Array (Option Value)}
    (g : G w mg mb s.heap) (hroom : A.depth < recursionLimit)
    (ho : (K w.params).lookup f = some ⟨oc, od, .func (fnOf name qual params body scope dV kV doc pm an cdv ct), osl⟩) (hcd : codeIn (K w.params) cdv qual = true)
    (hbind : BindsTo s (fnOf name qual params body scope dV kV doc pm an cdv ct) ⟨args, []⟩ binds) (hloc : ∀ y ∈ binds, scope.names.lookup y.1 = some .local)
    (h : ∀ h₁ L, L = s.heap.objs.size → Fm w mg mb s.heap L (fun x => binds.reverse.lookup x) h₁ →
      wpAny (model pw w) (A.deeper (envOf qual scope L f cdv)) (execs body (envOf qual scope L f cdv))
        (fun fl s' => Q (match fl with | .ret v => v | _ => .none) s') (fun _ _ => False) { s with heap := h₁, toks := s.toks + binds.length })
    (hco : scope.isCoroutine = false := by rfl) (hgen : scope.isGenerator = false := by rfl) (hk : scope.kind = .function := by rfl)
    (hcell : ∀ x ∈ scope.names, x.2 ≠ .cell := by decide) : wpAny (model pw w) A (call (.ref f) args) Q E s := by
  refine wpAny_call (codeAny_call_def (fd := fnOf name qual params body scope dV kV doc pm an cdv ct) (body := body) (binds := binds) hroom (g.X _ _ ho) rfl g.T.nolimit (codeRec_of g.X hcd) rfl hbind hcell hloc (fun h₁ hns hk₁ => ?_) hco hgen hk)
  exact wpAny_mono (h h₁ _ rfl ⟨⟨hns, hk₁, Nat.le_refl _⟩, g⟩) (fun _ _ x => x) (fun _ _ x => x.elim)
end Mine
end
section
open PySem PySem.W PyProof.Rows
set_option Elab.async false
set_option maxRecDepth 100000
set_option linter.all false
namespace Mine
noncomputable abbrev S (t : T) : Str := ⟨t.toArray⟩
theorem S_len (t : T) : (S t).length = t.length := rfl
theorem S_app (a b : T) : S a ++ S b = S (a ++ b) := by
  show Str.mk _ = Str.mk _
  simp
noncomputable def subst1 (c : Nat) (z : T) (t : T) : T := t.flatMap fun x => if x = c then z else [x]
theorem subst1_free {c : Nat} {z t : T} (h : c ∉ t) : subst1 c z t = t := by
  induction t with
  | nil => rfl
  | cons x r ih =>
    simp only [List.mem_cons, not_or] at h
    show (if x = c then z else [x]) ++ subst1 c z r = _
    rw [if_neg (fun e => h.1 e.symm), ih h.2]; rfl
theorem subst1_join (c : Nat) (z : T) : ∀ parts : List Str, (∀ p ∈ parts, c ∉ p.cps.toList) → subst1 c z (Str.join ⟨#[c]⟩ parts).cps.toList = (Str.join (S z) parts).cps.toList
  | [], _ => rfl
  | [p], h => subst1_free (h p (List.mem_singleton.mpr rfl))
  | p :: q :: r, h => by
    have ih := subst1_join c z (q :: r) fun a ha => h a (List.mem_cons_of_mem _ ha)
    show subst1 c z (p ++ ⟨#[c]⟩ ++ Str.join ⟨#[c]⟩ (q :: r)).cps.toList = (p ++ S z ++ Str.join (S z) (q :: r)).cps.toList
    simp only [Str.cps_append, Array.toList_append]
    rw [← ih]
    have hp := subst1_free (z := z) (h p (List.mem_cons_self ..))
    unfold subst1 at hp ⊢
    rw [List.flatMap_append, List.flatMap_append, hp]
    simp
theorem replace_S (c : Nat) (z t : T) : Txt.replace (S t) ⟨#[c]⟩ (S z) = S (subst1 c z t) := by
  rw [StrLaws.replace_one]
  have h := subst1_join c z _ (StrLaws.split_free (S t) c)
  rw [StrLaws.join_split] at h
  show _ = Str.mk _
  have h' : subst1 c z t = (Str.join (S z) (Txt.split (S t) ⟨#[c]⟩)).cps.toList := h
  rw [h']
section
open Builtin Builtin.Str
variable {prog : Program} {w : World} {A : Around} {E : Value → Shared → Prop} {s : Shared} {t u v : Tok} {Q : Value → Shared → Prop}
theorem r_replace {c : Nat} {z x : T} (hu : u ≠ 0) (hv : v ≠ 0) (huv : u ≠ v) (hyz : z ≠ [c]) (hb : x.length + (x.length + 1) * z.length ≤ 16777216)
    (hq : ∀ t' k, s.toks ≤ k → Q (.str (S (subst1 c z x)) t') { s with toks := k }) : wpAny (model prog w) A (call (.builtin "str.replace") [.str (S x) t, .str ⟨#[c]⟩ u, .str (S z) v]) Q E s := by
  have hyz' : ((⟨#[c]⟩ : Str) == S z) = false := by
    refine beq_eq_false_iff_ne.mpr fun e => hyz ?_
    have := congrArg (fun s : Str => s.cps.toList) e
    exact (by simpa using this.symm)
  have hl : tooLong ((S x).length + (occurrences (S x) ⟨#[c]⟩ 0 (S x).length ((S x).length + 1)).length * (S z).length) = false := by
    have h1 := StrLaws.occ_length_le (S x) ⟨#[c]⟩ 0 (S x).length ((S x).length + 1)
    have h2 : (occurrences (S x) ⟨#[c]⟩ 0 (S x).length ((S x).length + 1)).length * (S z).length ≤ ((S x).length + 1) * (S z).length := Nat.mul_le_mul_right _ h1
    simp only [S_len] at h1 h2 ⊢
    unfold tooLong sizeLine
    exact decide_eq_false (by omega)
  refine call_gives F.slot_str_replace (typeIs_str _ _ _) F.entry_str_replace (F.args_str_replace_3 _ _ _)
    (gives_str_replace _ _ _ t u v fun _ => ⟨by simp [hu, hv], by simp [huv], hyz', hl⟩) ?_
  have e := replace_S c z x
  rw [← e] at hq
  unfold Txt.replace at hq
  cases hc : ((occurrences (S x) ⟨#[c]⟩ 0 (S x).length ((S x).length + 1)).isEmpty || ((⟨#[c]⟩ : Str).length == 0 && (S z).length == 0))
  · rw [hc] at hq
    simp only [Bool.false_eq_true, if_false] at hq ⊢
    exact ⟨fits_replaced _ (by simpa only [S_len] using hb), hq _ _ (Nat.le_succ _)⟩
  · rw [hc] at hq
    simp only [if_true] at hq ⊢
    exact hq t s.toks (Nat.le_refl _)
end
end Mine
end
section
open PySem PySem.W PyProof.Rows
set_option Elab.async false
set_option maxRecDepth 100000
set_option linter.all false
namespace Mine
open Sre in
noncomputable def C0 : Array Nat := #[14, 17, 4, 1, 1, 21, 9, 0, 604043296, 1, 0, 0, 0, 0, 0, 8, 4, 0, 13, 14, 21, 9, 0, 604043296, 1, 0, 0, 0, 0, 0, 8, 4, 0, 1]
noncomputable def unsafeC (c : Nat) : Bool := c == 39 || c == 32 || c == 38 || c == 60 || c == 62 || c == 34 || c == 13 || c == 9 || c == 10
noncomputable def bad (c : Nat) : Bool := !(decide (c < 256) && (C0.getD (7 + c / 32) 0).testBit (c % 32) || Sre.isWord c)
theorem bad_of {c : Nat} (h : unsafeC c = true) : bad c = true := by
  simp only [unsafeC, Bool.or_eq_true, beq_iff_eq] at h
  rcases h with (((((((rfl | rfl) | rfl) | rfl) | rfl) | rfl) | rfl) | rfl) | rfl <;> decide
theorem tst5 (c : Nat) : (decide (c < 256) && (C0.getD (6 + (1 + c / 32)) 0).testBit (c % 32)) = (decide (c < 256) && (C0.getD (7 + c / 32) 0).testBit (c % 32)) := by
  by_cases h : c < 256
  · have : c / 32 < 8 := by omega
    have h2 : C0.getD (6 + (1 + c / 32)) 0 = C0.getD (7 + c / 32) 0 := by
      generalize c / 32 = k at this
      match k, this with
      | 0, _ => rfl | 1, _ => rfl | 2, _ => rfl | 3, _ => rfl | 4, _ => rfl | 5, _ => rfl | 6, _ => rfl | 7, _ => rfl
    rw [h2]
  · simp [h]
theorem inSet5 (c : Nat) (se : Sre.Seen) : ∃ se', Sre.inSet C0 c C0.size 5 true se = .ok (bad c, se') := by
  have e : Sre.inSet C0 c C0.size 5 true se = (if decide (c < 256) && (C0.getD (6 + (1 + c / 32)) 0).testBit (c % 32) then .ok (false, (se.add 21).add 9) else
      (do if ← Sre.category 4 c then pure (false, (((se.add 21).add 9).add 8).add (55 + 4)) else .ok (!false, ((((se.add 21).add 9).add 8).add (55 + 4)).add 0))) := by kernel_rfl
  rw [e, tst5]
  unfold bad
  have ec : Sre.category 4 c = .ok (Sre.isWord c) := by
    show Except.ok (Sre.isWord c != false) = _
    cases Sre.isWord c <;> rfl
  rw [ec]
  cases (decide (c < 256) && (C0.getD (7 + c / 32) 0).testBit (c % 32)) <;> cases Sre.isWord c <;> exact ⟨_, rfl⟩
theorem tst20 (c : Nat) : (decide (c < 256) && (C0.getD (21 + (1 + c / 32)) 0).testBit (c % 32)) = (decide (c < 256) && (C0.getD (7 + c / 32) 0).testBit (c % 32)) := by
  by_cases h : c < 256
  · have : c / 32 < 8 := by omega
    have h2 : C0.getD (21 + (1 + c / 32)) 0 = C0.getD (7 + c / 32) 0 := by
      generalize c / 32 = k at this
      match k, this with
      | 0, _ => rfl | 1, _ => rfl | 2, _ => rfl | 3, _ => rfl | 4, _ => rfl | 5, _ => rfl | 6, _ => rfl | 7, _ => rfl
    rw [h2]
  · simp [h]
theorem inSet20 (c : Nat) (se : Sre.Seen) : ∃ se', Sre.inSet C0 c C0.size 20 true se = .ok (bad c, se') := by
  have e : Sre.inSet C0 c C0.size 20 true se = (if decide (c < 256) && (C0.getD (21 + (1 + c / 32)) 0).testBit (c % 32) then .ok (false, (se.add 21).add 9) else
      (do if ← Sre.category 4 c then pure (false, (((se.add 21).add 9).add 8).add (55 + 4)) else .ok (!false, ((((se.add 21).add 9).add 8).add (55 + 4)).add 0))) := by kernel_rfl
  rw [e, tst20]
  unfold bad
  have ec : Sre.category 4 c = .ok (Sre.isWord c) := by
    show Except.ok (Sre.isWord c != false) = _
    cases Sre.isWord c <;> rfl
  rw [ec]
  cases (decide (c < 256) && (C0.getD (7 + c / 32) 0).testBit (c % 32)) <;> cases Sre.isWord c <;> exact ⟨_, rfl⟩
theorem admitted_bad (m : Sre.M) (hc : m.code = C0) (hl : m.lim = m.text.size) : ∀ (fuel s : Nat) (se : Sre.Seen), m.lim ≤ s + fuel → (∃ i, s ≤ i ∧ i < m.lim ∧ bad (m.text.getD i 0) = true) →
    ∃ s' se', m.admitted fuel s se = .ok (some s', se') ∧ s' < m.lim ∧ bad (m.text.getD s' 0) = true
  | 0, s, se, h, ⟨i, h1, h2, _⟩ => by omega
  | fuel + 1, s, se, h, ⟨i, h1, h2, h3⟩ => by
    unfold Sre.M.admitted
    rw [if_neg (by omega), hc]
    obtain ⟨se', e⟩ := inSet5 (m.text.getD s 0) se
    rw [e]
    cases hb : bad (m.text.getD s 0)
    · have hsi : s ≠ i := fun e => by subst e; rw [h3] at hb; cases hb
      exact admitted_bad m hc hl fuel (s + 1) se' (by omega) ⟨i, by omega, h2, h3⟩
    · exact ⟨s, se', rfl, by omega, hb⟩
theorem search_run (x : Array Nat) (h : ∃ i, i < x.size ∧ bad (x.getD i 0) = true) : ((Sre.forSearch C0 x 0 0 x.size false).runFor 4).outcome = some .matched := by
  obtain ⟨i, h1, h2⟩ := h
  have h0 : ¬ (x.size = 0) := by omega
  have e1 : Sre.forSearch C0 x 0 0 x.size false = Sre.M.attemptFrom { code := C0, text := x, lim := x.size, start := 0, pc := 18, pos := 0, handed := 0, marks := #[], mustAdvance := false, seen := ({} : Sre.Seen).add 14, lastStart := x.size } 0 true := by
    unfold Sre.forSearch
    have : ¬ (0 > x.size ∨ x.size - 0 < 1) := by omega
    show (if (decide (0 > x.size) || decide (x.size - 0 < 1)) = true then _ else _) = _
    rw [if_neg (by simp only [Bool.or_eq_true, decide_eq_true_eq]; omega)]
    rfl
  rw [e1]
  generalize hm : ({ code := C0, text := x, lim := x.size, start := 0, pc := 18, pos := 0, handed := 0, marks := #[], mustAdvance := false, seen := ({} : Sre.Seen).add 14, lastStart := x.size } : Sre.M) = m
  obtain ⟨s', se', ea, hs, hb⟩ := admitted_bad m (by rw [← hm]) (by rw [← hm]) (m.lim + 1 - 0) 0 m.seen (by omega) ⟨i, Nat.zero_le _, by rw [← hm]; exact h1, by rw [← hm]; exact h2⟩
  have e2 : m.attemptFrom 0 true = ({ m with mustAdvance := false, seen := se' } : Sre.M).attemptAt s' true := by
    unfold Sre.M.attemptFrom
    rw [show m.hasFirstSet = true by rw [← hm]; rfl, ea]
    rfl
  rw [e2]
  subst hm
  dsimp only at ea hs hb
  obtain ⟨se2, e3⟩ := inSet20 (x.getD s' 0) (se'.add 13)
  rw [hb] at e3
  have e4 : (Sre.M.attemptAt ({ code := C0, text := x, lim := x.size, start := 0, pc := 18, pos := 0, handed := 0, marks := #[], mustAdvance := false, seen := se', lastStart := x.size } : Sre.M) s' true).runFor 4 =
      Sre.M.runFor 3 (if s' ≥ x.size then ({ code := C0, text := x, lim := x.size, start := s', pc := 18, pos := s', handed := s', marks := #[], mustAdvance := false, seen := se'.add 13, lastStart := x.size, frames := [{ wait := .nextStart, pc := 18, pos := s', outermost := true }], weight := 1 } : Sre.M).say false else
        match Sre.inSet C0 (x.getD s' 0) C0.size 20 true (se'.add 13) with
        | .error why => ({ code := C0, text := x, lim := x.size, start := s', pc := 18, pos := s', handed := s', marks := #[], mustAdvance := false, seen := se'.add 13, lastStart := x.size, frames := [{ wait := .nextStart, pc := 18, pos := s', outermost := true }], weight := 1 } : Sre.M).stick why
        | .ok (false, seen) => ({ code := C0, text := x, lim := x.size, start := s', pc := 18, pos := s', handed := s', marks := #[], mustAdvance := false, seen := seen, lastStart := x.size, frames := [{ wait := .nextStart, pc := 18, pos := s', outermost := true }], weight := 1 } : Sre.M).say false
        | .ok (true, seen) => ({ code := C0, text := x, lim := x.size, start := s', pc := 33, pos := s' + 1, handed := s', marks := #[], mustAdvance := false, seen := seen, lastStart := x.size, frames := [{ wait := .nextStart, pc := 18, pos := s', outermost := true }], weight := 1 } : Sre.M)) := rfl
  show (Sre.M.runFor 4 (Sre.M.attemptAt ({ code := C0, text := x, lim := x.size, start := 0, pc := 18, pos := 0, handed := 0, marks := #[], mustAdvance := false, seen := se', lastStart := x.size } : Sre.M) s' true)).outcome = _
  rw [e4, if_neg (by omega), e3]
  rfl
end Mine
end
section
open PySem PySem.W PyProof.Rows Builtin Builtin.Re
set_option Elab.async false
set_option maxRecDepth 100000
set_option linter.all false
namespace Mine
theorem reDrive_now {n : Nat} (hn : 0 < n) {m : Sre.M} (h : (m.runFor 4).outcome.isSome = true) : reDrive n m = pure (m.runFor 4) := by
  cases n with
  | zero => omega
  | succ n =>
    unfold reDrive
    show (if ((m.runFor 4).outcome.isSome) = true then _ else _) = _
    rw [if_pos h]; rfl
section
variable {prog : Program} {w : World} {A : Around} {s : Shared} {M : Model}
theorem wp_reRun {E : Value → Shared → Prop} {m : Sre.M} {Q : Option Sre.M → Shared → Prop} (h : (m.runFor 4).outcome = some .matched) (q : Q (some (m.runFor 4)) s) : wpAny M A (reRunToEnd m) Q E s := by
  unfold reRunToEnd
  refine wpAny_bind ?_
  rw [reDrive_now (by decide) (by rw [h]; rfl)]
  refine wpAny_pure ?_
  refine wpAny_bind (wpAny_forIn_list _ (fun _ _ s' => s' = s) _ (fun x rest b s' e => ?_) (fun b s' e => ?_) _ _ rfl)
  · subst e
    split
    · exact wpAny_bind (wpAny_rule (wpAny_pure rfl))
    · first | exact wpAny_pure rfl | (refine wpAny_bind ?_; exact wpAny_pure (wpAny_pure rfl))
  · subst e
    rw [h]
    exact wpAny_pure q
end
theorem entry_search : entryFor table "re.Pattern.search" = some Builtin.«re.Pattern.search» := entryFor_of_tree (by kernel_rfl)
theorem named_eq (x : Str) (u : Tok) : reNamed "re.Pattern.search" "search" ["string", "pos", "endpos"] 1 [.str x u] [] = pure [some (.str x u), none, none] := by kernel_rfl
section
variable {w : World} {A : Around} {s : Shared} {R : Result → Shared → Prop}
theorem target_wp {M : Model} {t : T} {u : Tok} {Q : ReTarget → Shared → Prop} {E : Value → Shared → Prop} (h49 : s.heap.get? 49 = some (o49 w.params)) (h48 : s.heap.get? 48 = some (o48 w.params)) (hlen : t.length < 2 ^ 62)
    (h : Q ⟨.ref 49, .str (S t) u, C0, t.toArray, 0, 0, 0, t.toArray.size⟩ s) : wpAny M A (reTarget "re.Pattern.search" "search" ⟨[.ref 49, .str (S t) u], []⟩) Q E s := by
  obtain ⟨hh, g, dr, tk, os⟩ := s
  dsimp only at h49 h48 h
  unfold reTarget
  dsimp only
  refine wpAny_bind (wpAny_of_eq (named_eq (S t) u) ?_)
  dsimp only
  repeat lk
  refine cast (congrArg (fun x => Q x _) ?_) h
  have e : min ((2 : Int) ^ 63 - 1).toNat t.toArray.size = t.toArray.size := by
    refine Nat.min_eq_right ?_
    rw [List.size_toArray]
    have : ((2 : Int) ^ 63 - 1).toNat = 9223372036854775807 := by decide
    omega
  have e0 : min (Int.toNat 0) t.toArray.size = 0 := Nat.min_eq_left (Nat.zero_le _)
  show ReTarget.mk _ _ _ _ _ _ _ _ = ReTarget.mk _ _ _ _ _ _ (min (Int.toNat 0) t.toArray.size) (min ((2 : Int) ^ 63 - 1).toNat t.toArray.size)
  rw [e, e0]
  kernel_rfl
theorem find_call {t : T} {u : Tok} (hlen : t.length < 2 ^ 62) (X : (K w.params).In s.heap) (hc : ∃ c ∈ t, unsafeC c = true)
    (h : ∀ a h', (∀ b o, s.heap.get? b = some o → h'.get? b = some o) → R (.ok (.ret (.ref a))) { s with heap := h' }) :
    codeAny (model pw w) A (.call (.ref 745) ⟨[.str (S t) u], []⟩) R s := by
  have h745 : s.heap.get? 745 = some (o745 w.params) := X _ _ rfl
  have h49 : s.heap.get? 49 = some (o49 w.params) := X _ _ rfl
  have h48 : s.heap.get? 48 = some (o48 w.params) := X _ _ rfl
  obtain ⟨hh, g, dr, tk, os⟩ := s
  refine codeAny_of_tree ?_
  show wpAny _ _ (callAny (.ref 745) _) _ _ _
  dsimp only at h745 h49 h48 h
  refine nd_load h745 ?_
  repeat lk
  refine ⟨plainId_quiet (by kernel_rfl) _, codeAny_builtin (id := "re.Pattern.search") entry_search ?_⟩
  show wpAny _ _ («re.Pattern.search» ⟨[.ref 49, .str (S t) u], []⟩) _ _ _
  unfold «re.Pattern.search»
  refine wpAny_bind (target_wp h49 h48 hlen ?_)
  unfold reAnswer
  have hb : ∃ i, i < t.toArray.size ∧ bad (t.toArray.getD i 0) = true := by
    obtain ⟨c, hm, hu⟩ := hc
    obtain ⟨i, hi, e⟩ := List.getElem_of_mem hm
    exact ⟨i, by simpa using hi, by simp [hi, e, bad_of hu]⟩
  refine wpAny_bind (wp_reRun (search_run _ hb) ?_)
  dsimp only
  refine wpAny_bind ?_
  unfold reNewMatch
  repeat lk
  exact h _ _ fun b o e => Heap.get?_push_of_some _ (Heap.get?_push_of_some _ e)
end
end Mine
end
section
open PySem PySem.W PyProof.Rows Builtin Builtin.Re
set_option Elab.async false
set_option maxRecDepth 100000
set_option linter.all false
namespace Mine
noncomputable def dA (s : Stmt) : Arguments := match s with | .FunctionDef _ a _ _ _ _ _ _ _ _ => a | _ => default
noncomputable def dB (s : Stmt) : List Stmt := match s with | .FunctionDef _ _ b _ _ _ _ _ _ _ => b | _ => []
noncomputable def dS (s : Stmt) : Scope := match s with | .FunctionDef _ _ _ _ _ _ sc _ _ _ => sc | _ => default
noncomputable abbrev Keeps (h h' : Heap) : Prop := ∀ b o, h.get? b = some o → h'.get? b = some o
noncomputable abbrev up (s : Shared) (h : Heap) (k : Nat) : Shared := { s with heap := h, toks := k }
theorem Fm.kept {w : World} {mg mb : Str → Option Value} {h₀ : Heap} {L : Addr} {m : Str → Option Value} {h : Heap} (Φ : Fm w mg mb h₀ L m h) : Keeps h₀ h := Φ.F.keep
theorem call_pure {w : World} {mg mb : Str → Option Value} {A : Around} {E : Value → Shared → Prop} {s : Shared} {hh : Heap} {tk : Nat} {Q : Value → Shared → Prop} {f : Addr} {args : List Value} (binds : List (Str × Value))
    {name qual : Str} {d : Stmt} {dV kV doc pm cdv ct oc : Value} {an od : Option Addr} {osl : Array (Option Value)}
    (g : G w mg mb hh) (hroom : A.depth < recursionLimit)
    (ho : (K w.params).lookup f = some ⟨oc, od, .func (fnOf name qual (dA d) (dB d) (dS d) dV kV doc pm an cdv ct), osl⟩) (hcd : codeIn (K w.params) cdv qual = true)
    (hbind : BindsTo (up s hh tk) (fnOf name qual (dA d) (dB d) (dS d) dV kV doc pm an cdv ct) ⟨args, []⟩ binds)
    (h : ∀ h₁ L k, L = hh.objs.size → Fm w mg mb hh L (fun x => binds.reverse.lookup x) h₁ → 0 < k →
      wpAny (model pw w) (A.deeper (envOf qual (dS d) L f cdv)) (execs (dB d) (envOf qual (dS d) L f cdv))
        (fun fl s' => Q (match fl with | .ret v => v | _ => .none) s') (fun _ _ => False) (up s h₁ k))
    (hne : binds.isEmpty = false := by rfl) (hloc : (binds.all fun y => (dS d).names.lookup y.1 == some .local) = true := by rfl)
    (hco : (dS d).isCoroutine = false := by rfl) (hgen : (dS d).isGenerator = false := by rfl) (hk : (dS d).kind = .function := by rfl)
    (hcell : ((dS d).names.all fun x => x.2 != .cell) = true := by rfl) : wpAny (model pw w) A (call (.ref f) args) Q E (up s hh tk) :=
  enter (s := up s hh tk) g hroom ho hcd hbind (fun y hy => beq_iff_eq.mp (List.all_eq_true.mp hloc y hy)) (fun h₁ L e Φ => h h₁ L _ e Φ (Nat.lt_of_lt_of_le (List.length_pos_iff.mpr (by rintro rfl; cases hne)) (Nat.le_add_left _ _))) hco hgen hk (fun x hx => bne_iff_ne.mp (List.all_eq_true.mp hcell x hx))
section
variable {M : Model} {A : Around} {E : Value → Shared → Prop} {s : Shared} {hh : Heap} {tk : Nat} {env : Env}
theorem t_Name {x : Str} {p : Pos} {Q : Bool → Shared → Prop} (h : wpAny M A (eval (.Name x p) env) (fun v s₁ => wpAny M A (truthy v) Q E s₁) E s) : wpAny M A (isTrue (.Name x p) env (eval (.Name x p) env)) Q E s := wpAny_isTrue_value h
theorem t_Call {f : Expr} {as : List Expr} {ks : List Keyword} {p : Pos} {Q : Bool → Shared → Prop} (h : wpAny M A (eval (.Call f as ks p) env) (fun v s₁ => wpAny M A (truthy v) Q E s₁) E s) : wpAny M A (isTrue (.Call f as ks p) env (eval (.Call f as ks p) env)) Q E s := wpAny_isTrue_value h
theorem t_Attr {o : Expr} {n : Str} {p : Pos} {Q : Bool → Shared → Prop} (h : wpAny M A (eval (.Attribute o n p) env) (fun v s₁ => wpAny M A (truthy v) Q E s₁) E s) : wpAny M A (isTrue (.Attribute o n p) env (eval (.Attribute o n p) env)) Q E s := wpAny_isTrue_value h
theorem t_BinOp {a : Expr} {op : Operator} {b : Expr} {p : Pos} {Q : Bool → Shared → Prop} (h : wpAny M A (eval (.BinOp a op b p) env) (fun v s₁ => wpAny M A (truthy v) Q E s₁) E s) : wpAny M A (isTrue (.BinOp a op b p) env (eval (.BinOp a op b p) env)) Q E s := wpAny_isTrue_value h
theorem k_str (t : T) {x : Str} {k : Nat} {pos : Pos} {Q : Value → Shared → Prop} (e : x = S t) (h : Q (.str (S t) tk) (up s hh (tk + 1))) : wpAny M A (eval (.Constant (.str x) k pos) env) Q E (up s hh tk) := by
  subst e; exact Calls.Constant_str (s := up s hh tk) h
theorem k_int {i : Int} {k : Nat} {pos : Pos} {Q : Value → Shared → Prop} (h : Q (.int i tk) (up s hh (tk + 1))) : wpAny M A (eval (.Constant (.int i) k pos) env) Q E (up s hh tk) := wpAny_Constant_int (s := up s hh tk) h
theorem k_set {w : World} {mg mb : Str → Option Value} {m : Str → Option Value} {h₀ : Heap} {L fa : Addr} {nm : Str} {sc : Scope} {cd : Value} {x : Str} {v : Value} {Q : Unit → Shared → Prop} (Φ : Fm w mg mb h₀ L m hh)
    (h : ∀ h', Fm w mg mb h₀ L (upd m x v) h' → Q () (up s h' (tk + 1)))
    (hk : sc.kind = .function) (hl : (envOf nm sc L fa cd).kindOf x = some .local) :
    wpAny (model pw w) A (storeName (envOf nm sc L fa cd) x v) Q E (up s hh tk) := n_set (s := up s hh tk) Φ h hk hl
theorem c_find {w : World} {pos : Pos} {e : Expr} {Q : Value → Shared → Prop} (X : (K w.params).In s.heap)
    (h : wpAny M A (spliced (backTo pos (starEach [e] env))) (fun vs s₁ => (K w.params).In s₁.heap ∧ wpAny M A (call (.ref 745) vs) Q E s₁) E s)
    (he : starEach [e] env = (false, eval e env) :: starEach [] env := by rfl) : wpAny M A (callWith pos (.ref 745) [] (backTo pos (starEach [e] env)) []) Q E s := by
  rw [he] at h ⊢
  refine callWith_of (P := fun h => (K w.params).In h) rfl (fun hh X => ⟨.machine, .inr (.inl rfl), ?_⟩) (Calls.evalArgs_plain h)
  exact (Looks.ld (part := none) (X 745 _ rfl)).andThen .now
theorem r_find {w : World} {t : T} {u : Tok} {Q : Value → Shared → Prop} (X : (K w.params).In hh) (hl : t.length < 2 ^ 62) (hc : ∃ c ∈ t, unsafeC c = true)
    (h : ∀ a h', Keeps hh h' → Q (.ref a) (up s h' tk)) : wpAny (model pw w) A (call (.ref 745) [.str (S t) u]) Q E (up s hh tk) :=
  wpAny_call (find_call (s := up s hh tk) hl X hc h)
end
section
variable {prog : Program} {w : World} {A : Around} {E : Value → Shared → Prop} {s : Shared} {hh : Heap} {tk : Nat} {x y : T} {t u : Tok}
theorem r_truthy {Q : Bool → Shared → Prop} (hl : x.length < 2 ^ 62) (h : Q (!x.isEmpty) (up s hh (tk + 2))) : wpAny (model prog w) A (truthy (.str (S x) t)) Q E (up s hh tk) := by
  refine P.truthy_str (by simp only [S_len]; omega) ?_
  have e : (((S x).length : Int) != 0) = !x.isEmpty := by
    cases x
    · rfl
    · simp [S_len]
      omega
  rw [e]; exact h
theorem r_add {Q : Value → Shared → Prop} (hsz : x.length + y.length ≤ 2 ^ 24) (h : ∀ t' k, tk ≤ k → Q (.str (S (x ++ y)) t') (up s hh k)) : wpAny (model prog w) A (binaryOp .Add (.str (S x) t) (.str (S y) u)) Q E (up s hh tk) := by
  refine P.add_str ?_
  have e := S_app x y
  split
  · rename_i hx
    have : x = [] := by simpa [S_len] using hx
    subst this
    exact h u tk (Nat.le_refl _)
  · split
    · rename_i hy
      have : y = [] := by simpa [S_len] using hy
      subst this
      have := h t tk (Nat.le_refl _)
      rwa [List.append_nil] at this
    · rw [e]
      exact ⟨by rw [S_len, List.length_append, sizeLine_eq]; omega, h _ _ (Nat.le_succ _)⟩
theorem r_rep {c : Nat} {z : T} {u v : Nat} {Q : Value → Shared → Prop} (hu : @Ne Nat u 0) (hv : @Ne Nat v 0) (huv : @Ne Nat u v) (hyz : z ≠ [c]) (hb : x.length + (x.length + 1) * z.length ≤ 2 ^ 24)
    (hq : ∀ t' k, tk ≤ k → Q (.str (S (subst1 c z x)) t') (up s hh k)) : wpAny (model prog w) A (call (.builtin "str.replace") [.str (S x) t, .str (S [c]) u, .str (S z) v]) Q E (up s hh tk) :=
  r_replace (s := up s hh tk) hu hv huv hyz hb hq
end
end Mine
end
open PySem PySem.W PyProof.Rows Builtin Builtin.Re
set_option compiler.extract_closed false
namespace Mine
section
variable {M : Model} {A : Around} {env : Env} {E : Value → Shared → Prop}
abbrev qN (M : Model) (A : Around) (env : Env) (E : Value → Shared → Prop) (rest : List Stmt) (Q : Flow → Shared → Prop) (f : Flow) (s : Shared) : Prop := match f with | .next => wpAny M A (execs rest env) Q E s | f => Q f s
abbrev qIf (M : Model) (A : Around) (env : Env) (E : Value → Shared → Prop) (body orelse : List Stmt) (Q : Flow → Shared → Prop) (b : Bool) (s : Shared) : Prop := match b with | true => wpAny M A (execs body env) Q E s | false => wpAny M A (execs orelse env) Q E s
abbrev qA2 (Q : List Value → Shared → Prop) (v : Value) (vs : List Value) (s : Shared) : Prop := Q (v :: vs) s
abbrev qA1 (M : Model) (A : Around) (env : Env) (E : Value → Shared → Prop) (pos : Pos) (rest : List Expr) (Q : List Value → Shared → Prop) (v : Value) (s : Shared) : Prop := wpAny M A (spliced (backTo pos (starEach rest env))) (qA2 Q v) E s
abbrev qT (M : Model) (A : Around) (E : Value → Shared → Prop) (Q : Bool → Shared → Prop) (v : Value) (s : Shared) : Prop := wpAny M A (truthy v) Q E s
abbrev qCm (M : Model) (A : Around) (E : Value → Shared → Prop) (op : CmpOp) (a : Value) (Q : Value → Shared → Prop) (b : Value) (s : Shared) : Prop := wpAny M A (compareOp op a b) Q E s
abbrev qC (M : Model) (A : Around) (env : Env) (E : Value → Shared → Prop) (op : CmpOp) (r : Expr) (Q : Value → Shared → Prop) (a : Value) (s : Shared) : Prop := wpAny M A (eval r env) (qCm M A E op a Q) E s
abbrev qU (Q : Flow → Shared → Prop) (_ : Unit) (s : Shared) : Prop := Q Flow.next s
abbrev qAs (M : Model) (A : Around) (env : Env) (E : Value → Shared → Prop) (x : Str) (Q : Flow → Shared → Prop) (v : Value) (s : Shared) : Prop := wpAny M A (storeName env x v) (qU Q) E s
abbrev qB2 (M : Model) (A : Around) (E : Value → Shared → Prop) (op : Operator) (a : Value) (Q : Value → Shared → Prop) (b : Value) (s : Shared) : Prop := wpAny M A (binaryOp op a b) Q E s
abbrev qB1 (M : Model) (A : Around) (env : Env) (E : Value → Shared → Prop) (op : Operator) (r : Expr) (Q : Value → Shared → Prop) (a : Value) (s : Shared) : Prop := wpAny M A (eval r env) (qB2 M A E op a Q) E s
abbrev qCa (M : Model) (A : Around) (env : Env) (E : Value → Shared → Prop) (pos : Pos) (args : List Expr) (Q : Value → Shared → Prop) (f : Value) (s : Shared) : Prop := wpAny M A (callWith pos f [] (backTo pos (starEach args env)) []) Q E s
abbrev qM2 (M : Model) (A : Around) (env : Env) (E : Value → Shared → Prop) (pos : Pos) (args : List Expr) (Q : Value → Shared → Prop) (fx : Value × List Value) (s : Shared) : Prop := wpAny M A (callWith pos fx.1 fx.2 (backTo pos (starEach args env)) []) Q E s
abbrev qM1 (M : Model) (A : Around) (env : Env) (E : Value → Shared → Prop) (name : Str) (pl : Sem Bool) (Q : Value × List Value → Shared → Prop) (ov : Value) (s : Shared) : Prop := wpAny M A (getMethod ov name pl) Q E s
abbrev qAnd (M : Model) (A : Around) (env : Env) (E : Value → Shared → Prop) (rest : List Expr) (pos : Pos) (whole : Sem Value) (Q : Bool → Shared → Prop) (b : Bool) (s : Shared) : Prop := match b with | true => wpAny M A (isTrue (.BoolOp .And rest pos) env whole) Q E s | false => Q false s
abbrev qOr (M : Model) (A : Around) (env : Env) (E : Value → Shared → Prop) (rest : List Expr) (pos : Pos) (whole : Sem Value) (Q : Bool → Shared → Prop) (b : Bool) (s : Shared) : Prop := match b with | true => Q true s | false => wpAny M A (isTrue (.BoolOp .Or rest pos) env whole) Q E s
abbrev qNot (Q : Bool → Shared → Prop) (b : Bool) (s : Shared) : Prop := match b with | true => Q false s | false => Q true s
abbrev qSA (M : Model) (A : Around) (E : Value → Shared → Prop) (attr : Str) (v : Value) (Q : Flow → Shared → Prop) (ov : Value) (s : Shared) : Prop := wpAny M A (setAttr ov attr v) (qU Q) E s
abbrev qAA (M : Model) (A : Around) (env : Env) (E : Value → Shared → Prop) (o : Expr) (attr : Str) (Q : Flow → Shared → Prop) (v : Value) (s : Shared) : Prop := wpAny M A (eval o env) (qSA M A E attr v Q) E s
abbrev qCl (M : Model) (A : Around) (E : Value → Shared → Prop) (f : Value) (first : List Value) (Q : Value → Shared → Prop) (vs : List Value) (s : Shared) : Prop := wpAny M A (call f (first ++ vs)) Q E s
abbrev qCb (M : Model) (A : Around) (E : Value → Shared → Prop) (f : Value) (Q : Value → Shared → Prop) (vs : List Value) (s : Shared) : Prop := wpAny M A (call f vs) Q E s
abbrev qCK (M : Model) (A : Around) (E : Value → Shared → Prop) (K : Frag) (f : Value) (first : List Value) (Q : Value → Shared → Prop) (vs : List Value) (s : Shared) : Prop := K.In s.heap ∧ wpAny M A (call f (first ++ vs)) Q E s
abbrev qR (Q : Flow → Shared → Prop) (v : Value) (s : Shared) : Prop := Q (.ret v) s
abbrev qIE (M : Model) (A : Around) (env : Env) (E : Value → Shared → Prop) (body orelse : Expr) (Q : Value → Shared → Prop) (b : Bool) (s : Shared) : Prop := match b with | true => wpAny M A (eval body env) Q E s | false => wpAny M A (eval orelse env) Q E s
abbrev qEx (Q : Flow → Shared → Prop) (v : Value) (s : Shared) : Prop := match v with | .ref _ => False | _ => Q Flow.next s
abbrev qI2 (M : Model) (A : Around) (E : Value → Shared → Prop) (o : Value) (Q : Value → Shared → Prop) (i : Value) (s : Shared) : Prop := ItemOn M A E o i Q s
abbrev qI1 (M : Model) (A : Around) (env : Env) (E : Value → Shared → Prop) (slice : Expr) (Q : Value → Shared → Prop) (o : Value) (s : Shared) : Prop := wpAny M A (eval slice env) (qI2 M A E o Q) E s
abbrev qL (M : Model) (A : Around) (E : Value → Shared → Prop) (Q : Value → Shared → Prop) (vs : List Value) (s : Shared) : Prop := wpAny M A (newList vs) Q E s
abbrev qTu (M : Model) (A : Around) (E : Value → Shared → Prop) (Q : Value → Shared → Prop) (vs : List Value) (s : Shared) : Prop := wpAny M A (newTuple vs) Q E s
abbrev qIn (M : Model) (A : Around) (E : Value → Shared → Prop) (op : Operator) (old : Value) (Q : Value → Shared → Prop) (v : Value) (s : Shared) : Prop := wpAny M A (inplaceOp op old v) Q E s
abbrev qG4 (M : Model) (A : Around) (E : Value → Shared → Prop) (attr : Str) (ov : Value) (Q : Flow → Shared → Prop) (new : Value) (s : Shared) : Prop := wpAny M A (setAttr ov attr new) (qU Q) E s
abbrev qG3 (M : Model) (A : Around) (env : Env) (E : Value → Shared → Prop) (op : Operator) (value : Expr) (Q : Value → Shared → Prop) (old : Value) (s : Shared) : Prop := wpAny M A (eval value env) (qIn M A E op old Q) E s
abbrev qG1 (M : Model) (A : Around) (env : Env) (E : Value → Shared → Prop) (op : Operator) (value : Expr) (attr : Str) (Q : Flow → Shared → Prop) (ov : Value) (s : Shared) : Prop := wpAny M A (getAttr ov attr true) (qG3 M A env E op value (qG4 M A E attr ov Q)) E s
abbrev qF2 (M : Model) (A : Around) (env : Env) (E : Value → Shared → Prop) (target : Expr) (body orelse : List Stmt) (Q : Flow → Shared → Prop) (it : Value) (s : Shared) : Prop := codeAny M A (Code.forLoop target it body orelse env) (fun r s' => match r with | .ok f => Q f s' | .error e => cameBackBy M A env E e s') s
abbrev qF1 (M : Model) (A : Around) (E : Value → Shared → Prop) (Q : Value → Shared → Prop) (x : Value) (s : Shared) : Prop := wpAny M A (pyIter x) Q E s
abbrev qWh (M : Model) (A : Around) (env : Env) (E : Value → Shared → Prop) (body : List Stmt) (Q : Flow → Shared → Prop) (b : Bool) (s : Shared) : Prop := match b with
  | true => wpAny M A (execs body env) (fun f s₃ => match f with | .next | .cont => False | .brk => Q .next s₃ | .ret v => Q (.ret v) s₃) E s
  | false => Q .next s
variable {s : Shared}
theorem q_cons {rest : List Stmt} {st : Stmt} {Q : Flow → Shared → Prop} (h : wpAny M A (exec st env) (qN M A env E rest Q) E s) : wpAny M A (execs (st :: rest) env) Q E s := wpAny_execs_cons h
theorem q_nil {Q : Flow → Shared → Prop} (h : Q .next s) : wpAny M A (execs [] env) Q E s := wpAny_execs_nil h
theorem q_If {body orelse : List Stmt} {Q : Flow → Shared → Prop} {test : Expr} {pos : Pos} (h : wpAny M A (isTrue test env (eval test env)) (qIf M A env E body orelse Q) E s) : wpAny M A (exec (.If test body orelse pos) env) Q E s :=
  wpAny_If (wpAny_mono h (fun b s h => by cases b <;> exact h) fun _ _ h => h)
theorem q_acons {rest : List Expr} {e : Expr} {pos : Pos} {Q : List Value → Shared → Prop} (h : wpAny M A (eval e env) (qA1 M A env E pos rest Q) E s) (he : starEach (e :: rest) env = (false, eval e env) :: starEach rest env := by rfl) :
    wpAny M A (spliced (backTo pos (starEach (e :: rest) env))) Q E s := args_cons h he
theorem q_ctest {op : CmpOp} {r l : Expr} {Q : Bool → Shared → Prop} {pos : Pos} {whole : Sem Value} (h : wpAny M A (eval l env) (qC M A env E op r (qT M A E Q)) E s) (hm : behindInMarks op r = false := by with_unfolding_all rfl) :
    wpAny M A (isTrue (.Compare l [op] [r] pos) env whole) Q E s := wpAny_isTrue_Compare1 h hm
theorem q_cmp {op : CmpOp} {r l : Expr} {Q : Value → Shared → Prop} {pos : Pos} (h : wpAny M A (eval l env) (qC M A env E op r Q) E s) (hm : behindInMarks op r = false := by with_unfolding_all rfl) :
    wpAny M A (eval (.Compare l [op] [r] pos) env) Q E s := wpAny_Compare1 h hm
theorem q_asn {x : Str} {Q : Flow → Shared → Prop} {pos' : Pos} {value : Expr} {pos : Pos} (h : wpAny M A (eval value env) (qAs M A env E x Q) E s) (hs : swapsWith value (some (.Name x pos')) pos.line env = pure false := by rfl) :
    wpAny M A (exec (.Assign [.Name x pos'] value pos) env) Q E s := wpAny_Assign_Name h hs
theorem q_bin {op : Operator} {r l : Expr} {Q : Value → Shared → Prop} {pos : Pos} (h : wpAny M A (eval l env) (qB1 M A env E op r Q) E s) : wpAny M A (eval (.BinOp l op r pos) env) Q E s := wpAny_BinOp h
theorem q_call {pos : Pos} {args : List Expr} {Q : Value → Shared → Prop} {func : Expr} (h : wpAny M A (eval func env) (qCa M A env E pos args Q) E s)
    (he : eval (.Call func args [] pos) env = (do let f ← eval func env; callWith pos f [] (backTo pos (starEach args env)) (backToKw pos (keywordEach [] env))) := by rfl) : wpAny M A (eval (.Call func args [] pos) env) Q E s := Call_ h he
theorem q_meth {pos : Pos} {args : List Expr} {Q : Value → Shared → Prop} {name : Str} {pl : Sem Bool} {o : Expr} {apos : Pos} (h : wpAny M A (eval o env) (qM1 M A env E name pl (qM2 M A env E pos args Q)) E s)
    (he : eval (.Call (.Attribute o name apos) args [] pos) env = (do
      let ov ← eval o env
      standAt apos.atName
      let (f, first) ← holding [ov] (getMethod ov name pl)
      callWith pos f first (backTo pos (starEach args env)) []) := by rfl) : wpAny M A (eval (.Call (.Attribute o name apos) args [] pos) env) Q E s := MethodCall_ h he
theorem q_and {rest : List Expr} {pos : Pos} {whole : Sem Value} {Q : Bool → Shared → Prop} {x : Expr} (h : wpAny M A (isTrue x env (eval x env)) (qAnd M A env E rest pos whole Q) E s) : wpAny M A (isTrue (.BoolOp .And (x :: rest) pos) env whole) Q E s :=
  isTrue_and (wpAny_mono h (fun b s h => by cases b <;> exact h) fun _ _ h => h)
theorem q_or {rest : List Expr} {pos : Pos} {whole : Sem Value} {Q : Bool → Shared → Prop} {x : Expr} (h : wpAny M A (isTrue x env (eval x env)) (qOr M A env E rest pos whole Q) E s) : wpAny M A (isTrue (.BoolOp .Or (x :: rest) pos) env whole) Q E s :=
  isTrue_or (wpAny_mono h (fun b s h => by cases b <;> exact h) fun _ _ h => h)
theorem q_not {Q : Bool → Shared → Prop} {x : Expr} {pos : Pos} {whole : Sem Value} (h : wpAny M A (isTrue x env (eval x env)) (qNot Q) E s) : wpAny M A (isTrue (.UnaryOp .Not x pos) env whole) Q E s :=
  wpAny_isTrue_Not (wpAny_mono h (fun b s h => by cases b <;> exact h) fun _ _ h => h)
theorem q_aattr {o : Expr} {attr : Str} {Q : Flow → Shared → Prop} {pos' : Pos} {value : Expr} {pos : Pos} (h : wpAny M A (eval value env) (qAA M A env E o attr Q) E s) (hs : swapsWith value (some (.Attribute o attr pos')) pos.line env = pure false := by rfl) :
    wpAny M A (exec (.Assign [.Attribute o attr pos'] value pos) env) Q E s := plainObj_wpAny_Assign_Attribute h hs
theorem q_cm {pos : Pos} {id : String} {first : List Value} {e : Expr} {rest : List Expr} {Q : Value → Shared → Prop} (h : wpAny M A (spliced (backTo pos (starEach (e :: rest) env))) (qCl M A E (.builtin id) first Q) E s)
    (he : starEach (e :: rest) env = (false, eval e env) :: starEach rest env := by rfl) (hplain : ((backTo pos (starEach rest env)).any fun x => x.1) = false := by rfl) :
    wpAny M A (callWith pos (.builtin id) first (backTo pos (starEach (e :: rest) env)) []) Q E s := callWith_method1 h he hplain
theorem q_ct {pos : Pos} {T : String} {e : Expr} {rest : List Expr} {Q : Value → Shared → Prop} (h : wpAny M A (spliced (backTo pos (starEach (e :: rest) env))) (qCb M A E (.type T) Q) E s)
    (he : starEach (e :: rest) env = (false, eval e env) :: starEach rest env := by rfl) (hplain : ((backTo pos (starEach rest env)).any fun x => x.1) = false := by rfl) :
    wpAny M A (callWith pos (.type T) [] (backTo pos (starEach (e :: rest) env)) []) Q E s := PyProof.Rows.callWith_type1 h he hplain
theorem q_ck {K : Frag} {pos : Pos} {f : Value} {first : List Value} {Q : Value → Shared → Prop} {h₀ : Heap} {e : Expr} {rest : List Expr} (X : K.In h₀) (hk : keepIn K f = true) (h : wpAny M A (spliced (backTo pos (starEach (e :: rest) env))) (qCK M A E K f first Q) E s)
    (he : starEach (e :: rest) env = (false, eval e env) :: starEach rest env := by rfl) (hplain : ((backTo pos (starEach rest env)).any fun x => x.1) = false := by rfl) :
    wpAny M A (callWith pos f first (backTo pos (starEach (e :: rest) env)) []) Q E s := callWith_K X hk h he hplain
theorem q_ret {Q : Flow → Shared → Prop} {e : Expr} {pos : Pos} (h : wpAny M A (eval e env) (qR Q) E s) : wpAny M A (exec (.Return (some e) pos) env) Q E s := wpAny_Return_some h
theorem q_tn {Q : Bool → Shared → Prop} {x : Str} {p : Pos} (h : wpAny M A (eval (.Name x p) env) (qT M A E Q) E s) : wpAny M A (isTrue (.Name x p) env (eval (.Name x p) env)) Q E s := t_Name h
theorem q_tc {Q : Bool → Shared → Prop} {f : Expr} {as : List Expr} {ks : List Keyword} {p : Pos} (h : wpAny M A (eval (.Call f as ks p) env) (qT M A E Q) E s) : wpAny M A (isTrue (.Call f as ks p) env (eval (.Call f as ks p) env)) Q E s := t_Call h
theorem q_ta {Q : Bool → Shared → Prop} {o : Expr} {n : Str} {p : Pos} (h : wpAny M A (eval (.Attribute o n p) env) (qT M A E Q) E s) : wpAny M A (isTrue (.Attribute o n p) env (eval (.Attribute o n p) env)) Q E s := t_Attr h
theorem q_tb {Q : Bool → Shared → Prop} {a : Expr} {op : Operator} {b : Expr} {p : Pos} (h : wpAny M A (eval (.BinOp a op b p) env) (qT M A E Q) E s) : wpAny M A (isTrue (.BinOp a op b p) env (eval (.BinOp a op b p) env)) Q E s := t_BinOp h
theorem q_ife {body orelse : Expr} {Q : Value → Shared → Prop} {test : Expr} {pos : Pos} (h : wpAny M A (isTrue test env (eval test env)) (qIE M A env E body orelse Q) E s) : wpAny M A (eval (.IfExp test body orelse pos) env) Q E s :=
  wpAny_IfExp (wpAny_mono h (fun b s h => by cases b <;> exact h) fun _ _ h => h)
theorem q_exp {Q : Flow → Shared → Prop} {e : Expr} {pos : Pos} (h : wpAny M A (eval e env) (qEx Q) E s) (hi : interactive env = false := by rfl) (hs : swapsWith e none pos.line env = pure false := by rfl) : wpAny M A (exec (.Expr e pos) env) Q E s :=
  wpAny_Expr (wpAny_mono h (fun v s h => by cases v <;> exact h) fun _ _ h => h) hi hs
theorem q_sname {value : Expr} {n : Str} {p : Pos} {Q : Value → Shared → Prop} {pos : Pos} (h : wpAny M A (eval value env) (qI1 M A env E (.Name n p) Q) E s) (ht : ∀ o r : Value, letTemporaryGo value o r = pure () := by intro _ _; rfl) :
    wpAny M A (eval (.Subscript value (.Name n p) pos) env) Q E s := Subscript_Name h ht
theorem q_list {elts : List Expr} {pos : Pos} {Q : Value → Shared → Prop} (h : wpAny M A (spliced (backTo pos (starEach elts env))) (qL M A E Q) E s) : wpAny M A (eval (.List elts pos) env) Q E s := List_ h
theorem q_tup {elts : List Expr} {k : Nat} {pos : Pos} {Q : Value → Shared → Prop} (h : wpAny M A (spliced (backTo pos (starEach elts env))) (qTu M A E Q) E s) : wpAny M A (eval (.Tuple elts k pos) env) Q E s := Tuple_ h
theorem q_augn {x : Str} {pos' pos : Pos} {op : Operator} {value : Expr} {Q : Flow → Shared → Prop} (h : wpAny M A (loadName env x) (qG3 M A env E op value (qAs M A env E x Q)) E s) : wpAny M A (exec (.AugAssign (.Name x pos') op value pos) env) Q E s := wpAny_AugAssign_Name h
theorem q_auga {o value : Expr} {attr : Str} {tpos pos : Pos} {op : Operator} {Q : Flow → Shared → Prop} (h : wpAny M A (eval o env) (qG1 M A env E op value attr Q) E s) : wpAny M A (exec (.AugAssign (.Attribute o attr tpos) op value pos) env) Q E s := wpAny_AugAssign_AttributeAny h
theorem q_for {target iter : Expr} {body orelse : List Stmt} {pos : Pos} {Q : Flow → Shared → Prop} (h : wpAny M A (eval iter env) (qF1 M A E (qF2 M A env E target body orelse Q)) E s) (hf : ∀ x : Value, foldedSetIterable iter env x = pure x := by intro _; rfl) :
    wpAny M A (exec (.For target iter body orelse pos) env) Q E s := wpAny_For h hf
theorem if_ws {F : Bool → Shared → Prop} {c : Nat} (h1 : ws c = true → F true s) (h2 : ws c = false → F false s) : F (decide (c ∈ [32, 9, 13, 10])) s := by
  have e : decide (c ∈ [32, 9, 13, 10]) = ws c := by
    unfold ws; rw [Bool.eq_iff_iff]; simp [or_assoc]
  rw [e]
  cases hw : ws c
  · exact h2 hw
  · exact h1 hw
theorem if_dec {F : Bool → Shared → Prop} {c : Prop} [Decidable c] (h1 : c → F true s) (h2 : ¬ c → F false s) : F (decide c) s := by
  by_cases h : c
  · rw [decide_eq_true h]; exact h1 h
  · rw [decide_eq_false h]; exact h2 h
theorem if_dn {F : Bool → Shared → Prop} {c : Prop} [Decidable c] (n : ¬ c) (h : F false s) : F (decide c) s := by rw [decide_eq_false n]; exact h
theorem if_dt {F : Bool → Shared → Prop} {c : Prop} [Decidable c] (n : c) (h : F true s) : F (decide c) s := by rw [decide_eq_true n]; exact h
theorem if_e0 {F : Bool → Shared → Prop} (h : F false s) : F (!List.isEmpty ([] : T)) s := h
theorem if_e1 {F : Bool → Shared → Prop} {a : Nat} {r : T} (h : F true s) : F (!List.isEmpty (a :: r)) s := h
theorem if_ff {F : Bool → Shared → Prop} (h : F false s) : F false s := h
theorem if_tt {F : Bool → Shared → Prop} (h : F true s) : F true s := h
theorem if_ndn {F : Bool → Shared → Prop} {c : Prop} [Decidable c] (n : ¬ c) (h : F true s) : F (!decide c) s := by rw [decide_eq_false n]; exact h
theorem if_ndt {F : Bool → Shared → Prop} {c : Prop} [Decidable c] (n : c) (h : F false s) : F (!decide c) s := by rw [decide_eq_true n]; exact h
theorem if_nin {F : Bool → Shared → Prop} {c : Nat} (h : F true s) : F (!decide (c ∈ ([] : T))) s := if_ndn List.not_mem_nil h
theorem if_int {F : Bool → Shared → Prop} {n : Nat} (h1 : n = 0 → F false s) (h2 : n ≠ 0 → F true s) : F (((n : Nat) : Int) != 0) s := by
  by_cases h : n = 0
  · subst h; exact h1 rfl
  · rw [show (((n : Nat) : Int) != 0) = true by simp; omega]; exact h2 h
theorem ite_b {F : Bool → Shared → Prop} {b : Bool} (h1 : b = true → F true s) (h2 : b = false → F false s) : F b s := by cases b <;> simp_all
theorem if_join {body orelse : List Stmt} {c : Bool} {Q : Flow → Shared → Prop} (R : Shared → Prop) (h1 : c = true → wpAny M A (execs body env) (fun f s' => f = .next ∧ R s') E s)
    (h2 : c = false → wpAny M A (execs orelse env) (fun f s' => f = .next ∧ R s') E s) (h3 : ∀ s', R s' → Q .next s') : qIf M A env E body orelse Q c s := by
  cases c
  · exact wpAny_mono (h2 rfl) (fun f s' h => by obtain ⟨rfl, h⟩ := h; exact h3 _ h) fun _ _ z => z
  · exact wpAny_mono (h1 rfl) (fun f s' h => by obtain ⟨rfl, h⟩ := h; exact h3 _ h) fun _ _ z => z
theorem if_joinV {body orelse : Expr} {c : Bool} {Q : Value → Shared → Prop} (R : Value → Shared → Prop) (h1 : c = true → wpAny M A (eval body env) R E s) (h2 : c = false → wpAny M A (eval orelse env) R E s) (h3 : ∀ v s', R v s' → Q v s') : qIE M A env E body orelse Q c s := by
  cases c
  · exact wpAny_mono (h2 rfl) h3 fun _ _ z => z
  · exact wpAny_mono (h1 rfl) h3 fun _ _ z => z
end
local macro_rules | `(tactic| walk_at $s:str) => do
  let i (n : String) : Lean.Ident := Lean.mkIdent ((n.splitOn ".").foldl Lean.Name.str .anonymous)
  match s.getString.splitOn ";" with
  | [c] => match c.splitOn " " with
    | ["l", n] => `(tactic| refine $(i n) (by assumption) (by first | assumption | rfl) ?_ (by kernel_rfl) (by kernel_rfl))
    | ["g", n, g] => `(tactic| refine $(i n) (by assumption) (by with_reducible exact $(i g) _) ?_ (by kernel_rfl) (by kernel_rfl))
    | ["b", n, g] => `(tactic| refine $(i n) (by assumption) (by kernel_rfl) (by with_reducible exact $(i g)) (by decide) ?_ (by kernel_rfl) (by kernel_rfl))
    | ["hs", n] => `(tactic| ((with_reducible refine $(i n) (hs := ?hs) ?h); (case hs => rfl)))
    | ["he", n] => `(tactic| ((with_reducible refine $(i n) (he := ?he) ?h); (case he => rfl)))
    | ["M"] => `(tactic| ((with_reducible refine $(i "q_meth") (pl := ?pl) (he := ?he) ?h); (case he => rfl)))
    | ["hm", n] => `(tactic| ((with_reducible refine $(i n) (hm := ?hm) ?h); (case hm => with_unfolding_all rfl)))
    | ["ht", n] => `(tactic| ((with_reducible refine $(i n) (ht := ?ht) ?h); (case ht => intro _ _; rfl)))
    | ["hp", n] => `(tactic| ((with_reducible refine $(i n) (he := ?he) (hplain := ?hp) ?h); (case he => rfl); (case hp => rfl)))
    | ["K"] => `(tactic| ((with_reducible refine $(i "q_ck") ($(i "Fm.gg") (by assumption)).X ?hk (he := ?he) (hplain := ?hp) ?h); (case hk => kernel_rfl); (case he => rfl); (case hp => rfl)))
    | ["X"] => `(tactic| ((with_reducible refine $(i "q_exp") (hi := ?hi) (hs := ?hs) ?h); (case hi => rfl); (case hs => rfl)))
    | ["A"] => `(tactic| refine And.intro ($(i "Fm.gg") (by assumption)).X ?_)
    | ["dn"] => `(tactic| ((with_reducible refine $(i "if_dn") ?dn ?dq); (case dn => first | assumption | decide | exact List.not_mem_nil)))
    | ["sB"] => `(tactic| (refine $(i "k_setB") (by assumption) ?_ (by kernel_rfl) (by kernel_rfl); intro _ _ _))
    | ["sI"] => `(tactic| (refine $(i "k_setIo") (by assumption) (by assumption) (by assumption) (by assumption) ?_ (by kernel_rfl) (by kernel_rfl); intro _ _ _ _))
    | ["sL"] => `(tactic| (refine $(i "k_setLx") (by assumption) (by assumption) (by assumption) (by assumption) (by assumption) (by assumption) (by assumption) ?_ (by kernel_rfl) (by kernel_rfl); intro _ _ _ _ _))
    | ["G"] => `(tactic| ((with_reducible refine' $(i "k_genL") ?za ?zb ?zc ?zd ?ze ?zf ?zg); (case za => assumption); (case zb => assumption); (case zc => assumption); (case zd => assumption); (case ze => kernel_rfl); (case zf => decide); intro _ _ _ _ _))
    | ["y", n] => `(tactic| ((with_reducible refine' $(i n) ?ya ?yb ?yc ?yd ?ye ?yf ?yg ?yh); (case ya => assumption); (case yc => assumption); (case yb => (first | assumption | rfl)); (case yd => (first | assumption | rfl)); (case yf => kernel_rfl); (case yg => kernel_rfl); (case yh => decide)))
    | ["z", n] => `(tactic| ((with_reducible refine' $(i n) ?za ?zb ?zc ?zd ?ze ?zf ?zg ?zh); (case za => assumption); (case zb => assumption); (case zc => assumption); (case zd => assumption); (case ze => assumption); (case zf => assumption); (case zg => assumption); intro _ _ _ _ _ _))
    | ["x", n] => `(tactic| ((with_reducible refine' $(i n) ?xa ?xb ?xc ?xd ?xe ?xf ?xg ?xh); (case xa => assumption); (case xb => (first | assumption | rfl)); (case xc => assumption); (case xd => rfl); (case xf => kernel_rfl); (case xg => kernel_rfl); (case xh => decide)))
    | ["r", n] => `(tactic| with_reducible refine $(i n) ?_)
    | _ => Lean.Macro.throwUnsupported
  | cs => do
    let ts ← cs.mapM fun c => `(tactic| walk_at $(Lean.quote c):str)
    `(tactic| ($[$ts.toArray];*))
local macro_rules | `(tactic| walk_at "x1") => `(tactic| ((repeat (first | assumption | refine Nat.lt_trans ?_ (by assumption))); done))
local macro_rules | `(tactic| walk_at "x2") => `(tactic| first | (refine Nat.ne_of_gt ?_; walk_at "x1") | (refine Nat.ne_of_lt ?_; walk_at "x1") | walk_at "x1" | (refine Nat.le_of_lt ?_; walk_at "x1") | omega)
theorem nameQ {α : Type} {M : Model} {A : Around} {t : Sem α} {Q : α → Shared → Prop} {E : Value → Shared → Prop} {s : Shared} (h : ∀ Q', Q' = Q → wpAny M A t Q' E s) : wpAny M A t Q E s := h Q rfl
theorem nameR {α : Type} {M : Model} {A : Around} {t : Sem α} {Q : α → Shared → Prop} {E : Value → Shared → Prop} {s : Shared} (h : ∀ Q' E', Q' = Q → E' = E → wpAny M A t Q' E' s) : wpAny M A t Q E s := h Q E rfl rfl
theorem f752 (P : Params) : (K P).lookup 752 = some ⟨.type "function", none, .func (fnOf "quote" "quote" (dA (st 26)) (dB (st 26)) (dS (st 26)) .none .none .none (.str "cpy313.shlex" 1088) none (.ref 751) .none), #[]⟩ := by kernel_rfl
section
variable {w : World} {mg mb : Str → Option Value} {A : Around} {E : Value → Shared → Prop} {s : Shared} {hh : Heap} {tk : Nat}
theorem subst1_quo (t : T) : subst1 39 [39, 34, 39, 34, 39] t = t.flatMap quoC := rfl
theorem c_quote {t : T} {u : Tok} {Q : Value → Shared → Prop} (g : G w mg mb hh) (hroom : A.depth < recursionLimit)
    (hl : t.length ≤ 2 ^ 20) (hc : ∃ c ∈ t, unsafeC c = true) (h : ∀ h' k u', Keeps hh h' → Q (.str (S (quo t)) u') (up s h' k)) :
    wpAny (model pw w) A (call (.ref 752) [.str (S t) u]) Q E (up s hh tk) := by
  have hne : t ≠ [] := by rintro rfl; obtain ⟨c, hm, _⟩ := hc; exact absurd hm (by simp)
  have hlen : 0 < t.length := List.length_pos_iff.mpr hne
  refine call_pure [("s", .str (S t) u)] g hroom (f752 _) (by kernel_rfl) (.of_eq (by rfl)) fun h₁ L k hL Φ hk => ?_
  refine q_cons ?_
  walk_at "r q_If;r q_not;r q_tn"; refine n_loc (by assumption) (by rfl) ?_
  refine r_truthy (by omega) ?_
  rw [show (!t.isEmpty) = true by simp [hne]]
  walk_at "r q_nil;r q_cons;r q_If"; refine q_ctest ?_; refine q_call ?_; refine n_glob (by assumption) (by rfl) ?_
  refine c_find Φ.gg.X ?_
  refine q_acons ?_; refine n_loc (by assumption) (by rfl) ?_; walk_at "r args_nil"
  refine ⟨Φ.gg.X, r_find Φ.gg.X (by omega) hc fun a h2 k2 => ?_⟩
  have Φ2 := Φ.keeps k2
  walk_at "r wpAny_Constant_none"
  refine wpAny_is_other rfl (fun e => nomatch e) ?_
  walk_at "r wpAny_truthy_bool"
  walk_at "r q_nil;r q_cons;r q_ret;r q_bin;r q_bin"
  refine k_str [39] (by kernel_rfl) ?_
  refine q_meth ?_; refine n_loc (by assumption) (by rfl) ?_; refine GM.replace ?_; refine q_cm ?_; refine q_acons ?_
  refine k_str [39] (by kernel_rfl) ?_
  refine q_acons ?_
  refine k_str [39, 34, 39, 34, 39] (by kernel_rfl) ?_
  walk_at "r args_nil"
  refine r_rep (by omega) (by omega) (by omega) (by decide) (by simp only [List.length_cons, List.length_nil]; omega) fun t1 k1 hk1 => ?_
  have hq := quo_len t
  have hqe : quo t = 39 :: (t.flatMap quoC ++ [39]) := rfl
  have hq2 : (t.flatMap quoC).length ≤ 5 * t.length := by
    rw [hqe] at hq; simp only [List.length_cons, List.length_append, List.length_nil] at hq; omega
  rw [subst1_quo]
  refine r_add (by simp only [List.length_cons, List.length_nil]; omega) fun t2 k2' hk2 => ?_
  refine k_str [39] (by kernel_rfl) ?_
  refine r_add (by simp only [List.length_cons, List.length_append, List.length_nil]; omega) fun t3 k3 hk3 => ?_
  exact h _ _ _ Φ2.kept
end
section
variable {w : World} {mg mb : Str → Option Value} {A : Around} {E : Value → Shared → Prop} {s : Shared} {hh : Heap} {tk : Nat}
theorem try_calm {env : Env} {body orelse : List Stmt} {h₀ : ExceptHandler} {hs : List ExceptHandler} {pos : Pos} {Q : Flow → Shared → Prop}
    (h : wpAny (model pw w) A (execs body env) (fun f s₁ => match f with | .next => wpAny (model pw w) A (execs orelse env) Q E s₁ | f => Q f s₁) (fun _ _ => False) s) :
    wpAny (model pw w) A (exec (.Try body (h₀ :: hs) orelse [] pos) env) Q E s :=
  wpAny_Try_except (wpAny_mono h (fun _ _ x => x) fun _ _ x => x.elim)
theorem r_in {x : T} {c : Nat} {t u : Tok} {Q : Value → Shared → Prop} (h : Q (.bool (decide (c ∈ x))) s) : wpAny (model pw w) A (compareOp .In (.str (S [c]) u) (.str (S x) t)) Q E s := by
  refine P.in_str ?_
  rw [StrLaws.found_one (S x) c]
  exact h
theorem if_rep {m : Str → Option Value} {h₀ : Heap} {L fa : Addr} {nm nx cs zs : Str} {sc : Scope} {cd : Value} {x z : T} {c : Nat} {t : Tok} {k1 k2 k3 : Nat} {p1 p2 p3 p4 p5 p6 p7 p8 p9 p10 p11 : Pos} {Q : Flow → Shared → Prop} {pl : Sem Bool}
    (he : eval (.Call (.Attribute (.Name nx p5) "replace" p6) [.Constant (.str cs) k2 p7, .Constant (.str zs) k3 p8] [] p9) (envOf nm sc L fa cd) = (do
      let ov ← eval (.Name nx p5) (envOf nm sc L fa cd)
      standAt p6.atName
      let (f, first) ← holding [ov] (getMethod ov "replace" pl)
      callWith p9 f first (backTo p9 (starEach [.Constant (.str cs) k2 p7, .Constant (.str zs) k3 p8] (envOf nm sc L fa cd))) []))
    (Φ : Fm w mg mb h₀ L m hh) (hm : m nx = some (.str (S x) t)) (tk0 : 0 < tk) (hb : x.length ≤ 2 ^ 20) (hz : z.length ≤ 8) (hyz : z ≠ [c]) (ec : cs = S [c]) (ez : zs = S z)
    (hk : sc.kind = .function) (hl : (envOf nm sc L fa cd).kindOf nx = some .local) (hd : (nx == ("__debug__" : Str)) = false)
    (h : ∀ t' h' k', tk ≤ k' → Fm w mg mb h₀ L (upd m nx (.str (S (subst1 c z x)) t')) h' → Q .next (up s h' k')) :
    wpAny (model pw w) A (exec (.If (.Compare (.Constant (.str cs) k1 p1) [.In] [.Name nx p2] p3) [.Assign [.Name nx p4] (.Call (.Attribute (.Name nx p5) "replace" p6) [.Constant (.str cs) k2 p7, .Constant (.str zs) k3 p8] [] p9) p10] [] p11) (envOf nm sc L fa cd)) Q E (up s hh tk) := by
  refine q_If (q_ctest (k_str [c] ec (n_loc (s := up s hh _) Φ hm (r_in (wpAny_truthy_bool ?_)) hk hl hd)))
  refine ite_b (fun hc => ?_) fun hc => ?_
  · refine q_cons (q_asn (q_meth (n_loc (s := up s hh _) Φ hm ?_ hk hl hd) he))
    refine GM.replace ?_
    refine q_cm (q_acons (k_str [c] ec (q_acons (k_str z ez (args_nil ?_)))))
    refine r_rep ?_ ?_ ?_ hyz ?_ fun t' k' hk' => k_set Φ (fun h' Φ' => q_nil (h t' h' _ ?_ Φ')) hk hl
    · omega
    · omega
    · omega
    · have : (x.length + 1) * z.length ≤ (x.length + 1) * 8 := Nat.mul_le_mul_left _ hz
      omega
    · omega
  · have e : upd m nx (.str (S (subst1 c z x)) t) = m := by
      funext y
      unfold upd
      split
      · rename_i hy; rw [hy, hm, subst1_free (of_decide_eq_false hc)]
      · rfl
    refine q_nil (h t hh _ (Nat.le_succ _) ?_)
    rw [e]; exact Φ
end
theorem subst1_append (c : Nat) (z a b : T) : subst1 c z (a ++ b) = subst1 c z a ++ subst1 c z b := List.flatMap_append
theorem subst1_ge (c : Nat) (z x : T) (hz : z ≠ []) : x.length ≤ (subst1 c z x).length := by
  induction x with
  | nil => simp
  | cons a r ih =>
    have e : subst1 c z (a :: r) = (if a = c then z else [a]) ++ subst1 c z r := rfl
    rw [e, List.length_append, List.length_cons]
    have : 1 ≤ (if a = c then z else [a]).length := by
      split
      · exact List.length_pos_iff.mpr hz
      · simp
    omega
theorem comp1 (t : T) : subst1 34 [38, 113, 117, 111, 116, 59] (subst1 62 [38, 103, 116, 59] (subst1 38 [38, 97, 109, 112, 59] t)) = esc 1 t := by
  induction t with
  | nil => rfl
  | cons c r ih =>
    have e : c :: r = [c] ++ r := rfl
    rw [e]
    simp only [subst1_append, esc_append, ih]
    congr 1
    by_cases h1 : c = 38
    · subst h1; rfl
    by_cases h2 : c = 62
    · subst h2; rfl
    by_cases h3 : c = 34
    · subst h3; rfl
    simp [subst1, esc, escC, h1, h2, h3]
theorem comp2 (t : T) : subst1 13 [38, 35, 120, 68, 59] (subst1 10 [38, 35, 120, 65, 59] (subst1 9 [38, 35, 120, 57, 59] (subst1 34 [38, 113, 117, 111, 116, 59] (subst1 60 [38, 108, 116, 59] (subst1 38 [38, 97, 109, 112, 59] t))))) = esc 2 t := by
  induction t with
  | nil => rfl
  | cons c r ih =>
    have e : c :: r = [c] ++ r := rfl
    rw [e]
    simp only [subst1_append, esc_append, ih]
    congr 1
    by_cases h1 : c = 38
    · subst h1; rfl
    by_cases h2 : c = 60
    · subst h2; rfl
    by_cases h3 : c = 34
    · subst h3; rfl
    by_cases h4 : c = 9
    · subst h4; rfl
    by_cases h5 : c = 10
    · subst h5; rfl
    by_cases h6 : c = 13
    · subst h6; rfl
    simp [subst1, esc, escC, h1, h2, h3, h4, h5, h6]
theorem comp0 (t : T) : subst1 9 [38, 35, 48, 57, 59] (subst1 10 [38, 35, 49, 48, 59] (subst1 13 [38, 35, 49, 51, 59] (subst1 34 [38, 113, 117, 111, 116, 59] (subst1 62 [38, 103, 116, 59] (subst1 60 [38, 108, 116, 59] (subst1 38 [38, 97, 109, 112, 59] t)))))) = esc 0 t := by
  induction t with
  | nil => rfl
  | cons c r ih =>
    have e : c :: r = [c] ++ r := rfl
    rw [e]
    simp only [subst1_append, esc_append, ih]
    congr 1
    by_cases h1 : c = 38
    · subst h1; rfl
    by_cases h2 : c = 60
    · subst h2; rfl
    by_cases h3 : c = 34
    · subst h3; rfl
    by_cases h4 : c = 9
    · subst h4; rfl
    by_cases h5 : c = 10
    · subst h5; rfl
    by_cases h6 : c = 13
    · subst h6; rfl
    by_cases h7 : c = 62
    · subst h7; rfl
    simp [subst1, esc, escC, h1, h2, h3, h4, h5, h6, h7]
section
variable {w : World} {mg mb : Str → Option Value} {A : Around} {E : Value → Shared → Prop} {s : Shared} {hh : Heap} {tk : Nat}
theorem f872 (P : Params) : (K P).lookup 872 = some ⟨.type "function", none, .func (fnOf "_escape_attrib" "_escape_attrib" (dA (st 47)) (dB (st 47)) (dS (st 47)) .none .none .none (.str "cpy313.xml.etree.ElementTree" 1397) none (.ref 871) .none), #[]⟩ := by kernel_rfl
theorem c_esc0 {t : T} {u : Tok} {Q : Value → Shared → Prop} (g : G w mg mb hh) (hroom : A.depth < recursionLimit)
    (hl : t.length ≤ 2 ^ 17) (h : ∀ h' k u', Keeps hh h' → Q (.str (S (esc 0 t)) u') (up s h' k)) :
    wpAny (model pw w) A (call (.ref 872) [.str (S t) u]) Q E (up s hh tk) := by
  refine call_pure [("text", .str (S t) u)] g hroom (f872 _) (by kernel_rfl) (.of_eq (by rfl)) fun h₁ L k hL Φ hk => ?_
  have hlen := esc_len 0 t
  have g0 := subst1_ge 38 [38, 97, 109, 112, 59] t (by decide)
  have g1 := subst1_ge 60 [38, 108, 116, 59] (subst1 38 [38, 97, 109, 112, 59] t) (by decide)
  have g2 := subst1_ge 62 [38, 103, 116, 59] (subst1 60 [38, 108, 116, 59] (subst1 38 [38, 97, 109, 112, 59] t)) (by decide)
  have g3 := subst1_ge 34 [38, 113, 117, 111, 116, 59] (subst1 62 [38, 103, 116, 59] (subst1 60 [38, 108, 116, 59] (subst1 38 [38, 97, 109, 112, 59] t))) (by decide)
  have g4 := subst1_ge 13 [38, 35, 49, 51, 59] (subst1 34 [38, 113, 117, 111, 116, 59] (subst1 62 [38, 103, 116, 59] (subst1 60 [38, 108, 116, 59] (subst1 38 [38, 97, 109, 112, 59] t)))) (by decide)
  have g5 := subst1_ge 10 [38, 35, 49, 48, 59] (subst1 13 [38, 35, 49, 51, 59] (subst1 34 [38, 113, 117, 111, 116, 59] (subst1 62 [38, 103, 116, 59] (subst1 60 [38, 108, 116, 59] (subst1 38 [38, 97, 109, 112, 59] t))))) (by decide)
  have g6 := subst1_ge 9 [38, 35, 48, 57, 59] (subst1 10 [38, 35, 49, 48, 59] (subst1 13 [38, 35, 49, 51, 59] (subst1 34 [38, 113, 117, 111, 116, 59] (subst1 62 [38, 103, 116, 59] (subst1 60 [38, 108, 116, 59] (subst1 38 [38, 97, 109, 112, 59] t)))))) (by decide)
  have ec : (subst1 9 [38, 35, 48, 57, 59] (subst1 10 [38, 35, 49, 48, 59] (subst1 13 [38, 35, 49, 51, 59] (subst1 34 [38, 113, 117, 111, 116, 59] (subst1 62 [38, 103, 116, 59] (subst1 60 [38, 108, 116, 59] (subst1 38 [38, 97, 109, 112, 59] t))))))) = esc 0 t := comp0 t
  rw [ec] at g6
  refine q_cons (try_calm ?_)
  refine q_cons (if_rep (c := 38) (z := [38, 97, 109, 112, 59]) rfl Φ rfl (by omega) (by omega) (by decide) (by decide) (by kernel_rfl) (by kernel_rfl) rfl rfl (by decide) fun t0 h0 k0 hk0 Φ1 => ?_)
  refine q_cons (if_rep (c := 60) (z := [38, 108, 116, 59]) rfl Φ1 rfl (by omega) (by omega) (by decide) (by decide) (by kernel_rfl) (by kernel_rfl) rfl rfl (by decide) fun t1 h1 k1 hk1 Φ2 => ?_)
  refine q_cons (if_rep (c := 62) (z := [38, 103, 116, 59]) rfl Φ2 rfl (by omega) (by omega) (by decide) (by decide) (by kernel_rfl) (by kernel_rfl) rfl rfl (by decide) fun t2 h2 k2 hk2 Φ3 => ?_)
  refine q_cons (if_rep (c := 34) (z := [38, 113, 117, 111, 116, 59]) rfl Φ3 rfl (by omega) (by omega) (by decide) (by decide) (by kernel_rfl) (by kernel_rfl) rfl rfl (by decide) fun t3 h3 k3 hk3 Φ4 => ?_)
  refine q_cons (if_rep (c := 13) (z := [38, 35, 49, 51, 59]) rfl Φ4 rfl (by omega) (by omega) (by decide) (by decide) (by kernel_rfl) (by kernel_rfl) rfl rfl (by decide) fun t4 h4 k4 hk4 Φ5 => ?_)
  refine q_cons (if_rep (c := 10) (z := [38, 35, 49, 48, 59]) rfl Φ5 rfl (by omega) (by omega) (by decide) (by decide) (by kernel_rfl) (by kernel_rfl) rfl rfl (by decide) fun t5 h5 k5 hk5 Φ6 => ?_)
  refine q_cons (if_rep (c := 9) (z := [38, 35, 48, 57, 59]) rfl Φ6 rfl (by omega) (by omega) (by decide) (by decide) (by kernel_rfl) (by kernel_rfl) rfl rfl (by decide) fun t6 h6 k6 hk6 Φ7 => ?_)
  walk_at "r q_cons;r q_ret"; refine n_loc (by assumption) (by rfl) ?_ (by kernel_rfl) (by kernel_rfl)
  rw [ec]
  exact h _ _ _ Φ7.kept
theorem f879 (P : Params) : (K P).lookup 879 = some ⟨.type "function", none, .func (fnOf "_escape_attrib_html" "_escape_attrib_html" (dA (st 48)) (dB (st 48)) (dS (st 48)) .none .none .none (.str "cpy313.xml.etree.ElementTree" 1397) none (.ref 878) .none), #[]⟩ := by kernel_rfl
theorem c_esc1 {t : T} {u : Tok} {Q : Value → Shared → Prop} (g : G w mg mb hh) (hroom : A.depth < recursionLimit)
    (hl : t.length ≤ 2 ^ 17) (h : ∀ h' k u', Keeps hh h' → Q (.str (S (esc 1 t)) u') (up s h' k)) :
    wpAny (model pw w) A (call (.ref 879) [.str (S t) u]) Q E (up s hh tk) := by
  refine call_pure [("text", .str (S t) u)] g hroom (f879 _) (by kernel_rfl) (.of_eq (by rfl)) fun h₁ L k hL Φ hk => ?_
  have hlen := esc_len 1 t
  have g0 := subst1_ge 38 [38, 97, 109, 112, 59] t (by decide)
  have g1 := subst1_ge 62 [38, 103, 116, 59] (subst1 38 [38, 97, 109, 112, 59] t) (by decide)
  have g2 := subst1_ge 34 [38, 113, 117, 111, 116, 59] (subst1 62 [38, 103, 116, 59] (subst1 38 [38, 97, 109, 112, 59] t)) (by decide)
  have ec : (subst1 34 [38, 113, 117, 111, 116, 59] (subst1 62 [38, 103, 116, 59] (subst1 38 [38, 97, 109, 112, 59] t))) = esc 1 t := comp1 t
  rw [ec] at g2
  refine q_cons (try_calm ?_)
  refine q_cons (if_rep (c := 38) (z := [38, 97, 109, 112, 59]) rfl Φ rfl (by omega) (by omega) (by decide) (by decide) (by kernel_rfl) (by kernel_rfl) rfl rfl (by decide) fun t0 h0 k0 hk0 Φ1 => ?_)
  refine q_cons (if_rep (c := 62) (z := [38, 103, 116, 59]) rfl Φ1 rfl (by omega) (by omega) (by decide) (by decide) (by kernel_rfl) (by kernel_rfl) rfl rfl (by decide) fun t1 h1 k1 hk1 Φ2 => ?_)
  refine q_cons (if_rep (c := 34) (z := [38, 113, 117, 111, 116, 59]) rfl Φ2 rfl (by omega) (by omega) (by decide) (by decide) (by kernel_rfl) (by kernel_rfl) rfl rfl (by decide) fun t2 h2 k2 hk2 Φ3 => ?_)
  walk_at "r q_cons;r q_ret"; refine n_loc (by assumption) (by rfl) ?_ (by kernel_rfl) (by kernel_rfl)
  rw [ec]
  exact h _ _ _ Φ3.kept
theorem f886 (P : Params) : (K P).lookup 886 = some ⟨.type "function", none, .func (fnOf "_escape_attrib_c14n" "_escape_attrib_c14n" (dA (st 49)) (dB (st 49)) (dS (st 49)) .none .none .none (.str "cpy313.xml.etree.ElementTree" 1397) none (.ref 885) .none), #[]⟩ := by kernel_rfl
theorem c_esc2 {t : T} {u : Tok} {Q : Value → Shared → Prop} (g : G w mg mb hh) (hroom : A.depth < recursionLimit)
    (hl : t.length ≤ 2 ^ 17) (h : ∀ h' k u', Keeps hh h' → Q (.str (S (esc 2 t)) u') (up s h' k)) :
    wpAny (model pw w) A (call (.ref 886) [.str (S t) u]) Q E (up s hh tk) := by
  refine call_pure [("text", .str (S t) u)] g hroom (f886 _) (by kernel_rfl) (.of_eq (by rfl)) fun h₁ L k hL Φ hk => ?_
  have hlen := esc_len 2 t
  have g0 := subst1_ge 38 [38, 97, 109, 112, 59] t (by decide)
  have g1 := subst1_ge 60 [38, 108, 116, 59] (subst1 38 [38, 97, 109, 112, 59] t) (by decide)
  have g2 := subst1_ge 34 [38, 113, 117, 111, 116, 59] (subst1 60 [38, 108, 116, 59] (subst1 38 [38, 97, 109, 112, 59] t)) (by decide)
  have g3 := subst1_ge 9 [38, 35, 120, 57, 59] (subst1 34 [38, 113, 117, 111, 116, 59] (subst1 60 [38, 108, 116, 59] (subst1 38 [38, 97, 109, 112, 59] t))) (by decide)
  have g4 := subst1_ge 10 [38, 35, 120, 65, 59] (subst1 9 [38, 35, 120, 57, 59] (subst1 34 [38, 113, 117, 111, 116, 59] (subst1 60 [38, 108, 116, 59] (subst1 38 [38, 97, 109, 112, 59] t)))) (by decide)
  have g5 := subst1_ge 13 [38, 35, 120, 68, 59] (subst1 10 [38, 35, 120, 65, 59] (subst1 9 [38, 35, 120, 57, 59] (subst1 34 [38, 113, 117, 111, 116, 59] (subst1 60 [38, 108, 116, 59] (subst1 38 [38, 97, 109, 112, 59] t))))) (by decide)
  have ec : (subst1 13 [38, 35, 120, 68, 59] (subst1 10 [38, 35, 120, 65, 59] (subst1 9 [38, 35, 120, 57, 59] (subst1 34 [38, 113, 117, 111, 116, 59] (subst1 60 [38, 108, 116, 59] (subst1 38 [38, 97, 109, 112, 59] t)))))) = esc 2 t := comp2 t
  rw [ec] at g5
  refine q_cons (try_calm ?_)
  refine q_cons (if_rep (c := 38) (z := [38, 97, 109, 112, 59]) rfl Φ rfl (by omega) (by omega) (by decide) (by decide) (by kernel_rfl) (by kernel_rfl) rfl rfl (by decide) fun t0 h0 k0 hk0 Φ1 => ?_)
  refine q_cons (if_rep (c := 60) (z := [38, 108, 116, 59]) rfl Φ1 rfl (by omega) (by omega) (by decide) (by decide) (by kernel_rfl) (by kernel_rfl) rfl rfl (by decide) fun t1 h1 k1 hk1 Φ2 => ?_)
  refine q_cons (if_rep (c := 34) (z := [38, 113, 117, 111, 116, 59]) rfl Φ2 rfl (by omega) (by omega) (by decide) (by decide) (by kernel_rfl) (by kernel_rfl) rfl rfl (by decide) fun t2 h2 k2 hk2 Φ3 => ?_)
  refine q_cons (if_rep (c := 9) (z := [38, 35, 120, 57, 59]) rfl Φ3 rfl (by omega) (by omega) (by decide) (by decide) (by kernel_rfl) (by kernel_rfl) rfl rfl (by decide) fun t3 h3 k3 hk3 Φ4 => ?_)
  refine q_cons (if_rep (c := 10) (z := [38, 35, 120, 65, 59]) rfl Φ4 rfl (by omega) (by omega) (by decide) (by decide) (by kernel_rfl) (by kernel_rfl) rfl rfl (by decide) fun t4 h4 k4 hk4 Φ5 => ?_)
  refine q_cons (if_rep (c := 13) (z := [38, 35, 120, 68, 59]) rfl Φ5 rfl (by omega) (by omega) (by decide) (by decide) (by kernel_rfl) (by kernel_rfl) rfl rfl (by decide) fun t5 h5 k5 hk5 Φ6 => ?_)
  walk_at "r q_cons;r q_ret"; refine n_loc (by assumption) (by rfl) ?_ (by kernel_rfl) (by kernel_rfl)
  rw [ec]
  exact h _ _ _ Φ6.kept
end
section
variable {w : World} {mg mb : Str → Option Value} {A : Around} {E : Value → Shared → Prop} {s : Shared} {hh : Heap} {tk : Nat}
theorem r_type {t : T} {u : Tok} {Q : Value → Shared → Prop} (h : Q (.type "str") (up s hh tk)) : wpAny (model pw w) A (call (.type "type") [.str (S t) u]) Q E (up s hh tk) := call_type_of (typeIs_str _ _ _) (by decide) h
theorem nested_str {d : Int} {n : Tok} {R : Result → Shared → Prop} (h : R (.ok (.ret (.bool true))) (up s hh tk)) : codeAny (model pw w) A (.call (.builtin "issubclass.nested") ⟨[.type "str", .type "str", .int d n], []⟩) R (up s hh tk) := by
  refine codeAny_of_tree ?_
  show wpAny _ _ (callAny (.builtin "issubclass.nested") _) _ _ _
  repeat lk
  refine ⟨Code.quiet_builtin _ (by decide +kernel), codeAny_builtin F.entry_issubclass_nested ?_⟩
  unfold Builtin.«issubclass.nested»
  repeat lk
  exact h
theorem r_issub {a : Addr} {Q : Value → Shared → Prop} (ha : hh.get? a = some ⟨.type "tuple", none, .seq #[.type "str", .type "bytes"] 0, #[]⟩) (h : Q (.bool true) (up s hh tk)) : wpAny (model pw w) A (call (.builtin "issubclass") [.type "str", .ref a]) Q E (up s hh tk) := by
  refine wpAny_call (codeAny_of_tree ?_)
  show wpAny _ _ (callAny (.builtin "issubclass") _) _ _ _
  repeat lk
  refine ⟨Code.quiet_builtin _ (by decide +kernel), codeAny_builtin F.entry_issubclass ?_⟩
  show wpAny _ _ (Builtin.«issubclass» _) _ _ _
  unfold Builtin.«issubclass»
  repeat lk
  refine ⟨Code.quiet_builtin _ (by decide +kernel), codeAny_builtin F.entry_issubclass_nested ?_⟩
  unfold Builtin.«issubclass.nested»
  repeat lk
  refine X.x_call (nested_str ?_) (by intro h; cases h)
  repeat lk
  exact h
theorem k_newTuple {M : Model} {m : Str → Option Value} {h₀ : Heap} {L : Addr} {vs : List Value} {Q : Value → Shared → Prop} (Φ : Fm w mg mb h₀ L m hh) (hl : vs.length ≤ 2 ^ 20)
    (h : ∀ h', Keeps hh h' → Fm w mg mb h₀ L m h' → h'.get? hh.objs.size = some ⟨.type "tuple", none, .seq vs.toArray 0, #[]⟩ → Q (.ref hh.objs.size) (up s h' tk)) : wpAny M A (newTuple vs) Q E (up s hh tk) :=
  wpAny_newTuple (s := up s hh tk) (h _ (fun _ _ e => Heap.get?_push_of_some _ e) (Φ.keeps fun _ _ e => Heap.get?_push_of_some _ e) (Heap.get?_push_size _ rfl)) (by rw [sizeLine_eq]; omega)
theorem r_isbytes {x : Str} {u : Tok} {Q : Value → Shared → Prop} (h : Q (.bool false) (up s hh (tk + 1))) : wpAny (model pw w) A (call (.builtin "isinstance") [.str x u, .type "bytes"]) Q E (up s hh tk) := IsiPair.str_bytes (s := up s hh tk) h
theorem r_isstr {x : Str} {u : Tok} {Q : Value → Shared → Prop} (h : Q (.bool true) (up s hh tk)) : wpAny (model pw w) A (call (.builtin "isinstance") [.str x u, .type "str"]) Q E (up s hh tk) := IsiPair.str_str (s := up s hh tk) h
theorem f825 (P : Params) : (K P).lookup 825 = some ⟨.type "function", none, .func (fnOf "fspath" "fspath" (dA (st 35)) (dB (st 35)) (dS (st 35)) .none .none .none (.str "os" 1335) none (.ref 824) .none), #[]⟩ := by kernel_rfl
theorem c_fspath {t : T} {u : Tok} {Q : Value → Shared → Prop} (g : G w mg mb hh) (hroom : A.depth < recursionLimit)
    (h : ∀ h' k, Keeps hh h' → Q (.str (S t) u) (up s h' k)) :
    wpAny (model pw w) A (call (.ref 825) [.str (S t) u]) Q E (up s hh tk) := by
  refine call_pure [("path", .str (S t) u)] g hroom (f825 _) (by kernel_rfl) (.of_eq (by rfl)) fun h₁ L k hL Φ hk => ?_
  refine q_cons ?_
  refine q_asn ?_; refine q_call ?_; walk_at "b n_blt Boot.type"; refine q_ct ?_; refine q_acons ?_; refine n_loc (by assumption) (by rfl) ?_ (by kernel_rfl) (by kernel_rfl); walk_at "r args_nil"
  refine r_type ?_
  (refine k_set (by assumption) ?_ (by kernel_rfl) (by kernel_rfl)); (intro _ _); walk_at "r q_cons;r q_If;r q_tc"; refine q_call ?_; walk_at "b n_blt Boot.issubclass"; refine q_cm ?_; refine q_acons ?_; refine n_loc (by assumption) (by rfl) ?_ (by kernel_rfl) (by kernel_rfl); refine q_acons ?_; refine q_tup ?_; refine q_acons ?_; walk_at "b n_blt Boot.str"; refine q_acons ?_; walk_at "b n_blt Boot.bytes;r args_nil"
  refine k_newTuple (by assumption) (by decide) ?_
  intro h2 kp Φ2 hT
  walk_at "r args_nil"
  refine r_issub hT ?_
  walk_at "r wpAny_truthy_bool"
  walk_at "r q_cons;r q_ret"; refine n_loc (by assumption) (by rfl) ?_ (by kernel_rfl) (by kernel_rfl)
  exact h _ _ Φ2.kept
theorem f839 (P : Params) : (K P).lookup 839 = some ⟨.type "function", none, .func (fnOf "_get_sep" "_get_sep" (dA (st 40)) (dB (st 40)) (dS (st 40)) .none .none .none (.str "cpy313.posixpath" 1361) none (.ref 838) .none), #[]⟩ := by kernel_rfl
theorem c_sep {t : T} {u : Tok} {Q : Value → Shared → Prop} (g : G w mg mb hh) (hroom : A.depth < recursionLimit)
    (h : ∀ h' k v, Keeps hh h' → Q (.str (S [47]) v) (up s h' k)) :
    wpAny (model pw w) A (call (.ref 839) [.str (S t) u]) Q E (up s hh tk) := by
  refine call_pure [("path", .str (S t) u)] g hroom (f839 _) (by kernel_rfl) (.of_eq (by rfl)) fun h₁ L k hL Φ hk => ?_
  refine q_cons ?_
  walk_at "r q_If;r q_tc"; refine q_call ?_; walk_at "b n_blt Boot.isinstance"; refine q_cm ?_; refine q_acons ?_; refine n_loc (by assumption) (by rfl) ?_ (by kernel_rfl) (by kernel_rfl); refine q_acons ?_; walk_at "b n_blt Boot.bytes;r args_nil"
  refine r_isbytes ?_
  walk_at "r wpAny_truthy_bool"
  walk_at "r q_cons;r q_ret"
  refine k_str [47] (by kernel_rfl) ?_
  exact h _ _ _ Φ.kept
end
theorem call_star {w : World} {mg mb : Str → Option Value} {A : Around} {E : Value → Shared → Prop} {s : Shared} {hh : Heap} {tk : Nat} {Q : Value → Shared → Prop} {f : Addr} {args : List Value} (binds : List (Str × Value))
    {name qual : Str} {d : Stmt} {dV kV doc pm cdv ct oc : Value} {an od : Option Addr} {osl : Array (Option Value)} {P : Heap → Prop}
    (g : G w mg mb hh) (hroom : A.depth < recursionLimit)
    (ho : (K w.params).lookup f = some ⟨oc, od, .func (fnOf name qual (dA d) (dB d) (dS d) dV kV doc pm an cdv ct), osl⟩) (hcd : codeIn (K w.params) cdv qual = true)
    (hbind : ∀ (E' : Value → Shared → Prop) (Q' : List (Str × Value) → Shared → Prop), (∀ h₁, Keeps hh h₁ → P h₁ → Q' binds (up s h₁ tk)) → wpAny (model pw w) A.in1 (bindArgs (fnOf name qual (dA d) (dB d) (dS d) dV kV doc pm an cdv ct) ⟨args, []⟩) Q' E' (up s hh tk))
    (h : ∀ h₀ h₁ L k, Keeps hh h₀ → P h₀ → Fm w mg mb h₀ L (fun x => binds.reverse.lookup x) h₁ → 0 < k →
      wpAny (model pw w) (A.deeper (envOf qual (dS d) L f cdv)) (execs (dB d) (envOf qual (dS d) L f cdv))
        (fun fl s' => Q (match fl with | .ret v => v | _ => .none) s') (fun _ _ => False) (up s h₁ k))
    (hne : binds.isEmpty = false := by rfl) (hloc : (binds.all fun y => (dS d).names.lookup y.1 == some .local) = true := by rfl)
    (hco : (dS d).isCoroutine = false := by rfl) (hgen : (dS d).isGenerator = false := by rfl) (hk : (dS d).kind = .function := by rfl)
    (hcell : ((dS d).names.all fun x => x.2 != .cell) = true := by rfl) : wpAny (model pw w) A (call (.ref f) args) Q E (up s hh tk) := by
  have hcell' : ∀ x ∈ (dS d).names, x.2 ≠ .cell := fun x hx => bne_iff_ne.mp (List.all_eq_true.mp hcell x hx)
  have hloc' : ∀ y ∈ binds, (dS d).names.lookup y.1 = some .local := fun y hy => beq_iff_eq.mp (List.all_eq_true.mp hloc y hy)
  refine wpAny_call (codeAny_call_function (fd := fnOf name qual (dA d) (dB d) (dS d) dV kV doc pm an cdv ct) (body := dB d) hroom (g.X _ _ ho) rfl hco hgen rfl (codeRec_of g.X hcd) (hbind _ _ fun h₁ kp hP => ?_))
  have g₁ := g.keeps kp
  refine wpAny_newFunctionEnv hcell' hloc' (fun h₂ hns₂ hsb₂ => ⟨g₁.T.nolimit.fresh _ hsb₂, codeAny_func ?_⟩) hk
  have hk₂ : ∀ b o, h₁.get? b = some o → h₂.get? b = some o := fun b o e => hsb₂.extBut b o (Nat.ne_of_lt (Heap.lt_size e)) (Heap.get?_push_of_some _ e)
  exact wpAny_mono (h h₁ h₂ _ _ kp hP ⟨⟨hns₂, hk₂, Nat.le_refl _⟩, g₁⟩ (Nat.lt_of_lt_of_le (List.length_pos_iff.mpr (by rintro rfl; cases hne)) (Nat.le_add_left _ _))) (fun _ _ x => x) (fun _ _ x => x.elim)
section
variable {w : World} {mg mb : Str → Option Value} {A : Around} {E : Value → Shared → Prop} {s : Shared} {hh : Heap} {tk : Nat}
theorem f846 (P : Params) : (K P).lookup 846 = some ⟨.type "function", none, .func (fnOf "join" "join" (dA (st 41)) (dB (st 41)) (dS (st 41)) .none .none .none (.str "cpy313.posixpath" 1361) none (.ref 845) .none), #[]⟩ := by kernel_rfl
theorem bind_join {M : Model} {v b : Value} {E' : Value → Shared → Prop} {Q' : List (Str × Value) → Shared → Prop} (h : ∀ h₁, Keeps hh h₁ → h₁.get? hh.objs.size = some ⟨.type "tuple", none, .seq #[b] 0, #[]⟩ → Q' [("a", v), ("p", .ref hh.objs.size)] (up s h₁ tk)) :
    wpAny M A (bindArgs (fnOf "join" "join" (dA (st 41)) (dB (st 41)) (dS (st 41)) .none .none .none (.str "cpy313.posixpath" 1361) none (.ref 845) .none) ⟨[v, b], []⟩) Q' E' (up s hh tk) := by
  unfold bindArgs
  repeat lk
  refine cast (congrArg (fun x => Q' x _) ?_) (h _ (fun b o e => Heap.get?_push_of_some _ e) (Heap.get?_push_size _ rfl))
  kernel_rfl
end
noncomputable abbrev KB (X : List Addr) (h h' : Heap) : Prop := ∀ b o, b ∉ X → h.get? b = some o → h'.get? b = some o
theorem KB.refl {X : List Addr} (h : Heap) : KB X h h := fun _ _ _ e => e
theorem KB.trans {X : List Addr} {a b c : Heap} (x : KB X a b) (y : KB X b c) : KB X a c := fun p o n e => y p o n (x p o n e)
theorem KB.mono {X Y : List Addr} {a b : Heap} (x : KB X a b) (s : ∀ p ∈ X, p ∈ Y) : KB Y a b := fun p o n e => x p o (fun m => n (s p m)) e
theorem KB.of {X : List Addr} {a b : Heap} (x : Keeps a b) : KB X a b := fun p o _ e => x p o e
theorem KB.ns {X : List Addr} {h h' : Heap} {L : Addr} {m : Str → Option Value} (x : KB X h h') (n : L ∉ X) (i : h.Ns L m) : h'.Ns L m := let ⟨o, es, ep, ho, r⟩ := i; ⟨o, es, ep, x _ _ n ho, r⟩
theorem Fm.kb {w : World} {mg mb : Str → Option Value} {h₀ : Heap} {L : Addr} {m : Str → Option Value} {h h' : Heap} {X : List Addr} (Φ : Fm w mg mb h₀ L m h) (x : KB X h h') (hL : L ∉ X) (ho : ∀ b ∈ X, h₀.objs.size ≤ b) : Fm w mg mb h₀ L m h' :=
  ⟨⟨x.ns hL Φ.F.ns, fun b o e => x b o (fun hb => absurd (Heap.lt_size e) (Nat.not_lt.mpr (ho b hb))) (Φ.F.keep b o e), Φ.F.above⟩, Φ.G⟩
section
variable {M : Model} {A : Around} {E : Value → Shared → Prop} {s : Shared} {hh : Heap} {tk : Nat} {env : Env}
variable {w : World} {mg mb : Str → Option Value} {m : Str → Option Value} {h₀ : Heap} {L fa : Addr} {nm : Str} {sc : Scope} {cd : Value}
theorem k_setB {x : Str} {v : Value} {Q : Unit → Shared → Prop} (Φ : Fm w mg mb h₀ L m hh)
    (h : ∀ h', Fm w mg mb h₀ L (upd m x v) h' → KB [L] hh h' → Q () (up s h' (tk + 1)))
    (hk : sc.kind = .function) (hl : (envOf nm sc L fa cd).kindOf x = some .local) :
    wpAny M A (storeName (envOf nm sc L fa cd) x v) Q E (up s hh tk) :=
  wpAny_storeName_local (s := up s hh tk) hl Φ.F.ns (fun h' hn hs => h h' ⟨Φ.F.set hn hs, Φ.G⟩ fun b o nb e => (hs.2 b (fun q => nb (by rw [q]; exact .head _))).trans e)
    (by show (sc.kind == .class || (sc.kind == .module && L != mainGlobals)) = false; rw [hk]; rfl)
end
section
variable {A : Around} {E : Value → Shared → Prop} {s : Shared} {hh : Heap} {tk : Nat}
variable {w : World} {mg mb : Str → Option Value} {m : Str → Option Value} {h₀ : Heap} {L fa : Addr} {nm : Str} {sc : Scope} {cd : Value}
theorem loop_W {R : Result → Shared → Prop} {I : Addr} {fp wr : List Addr} {n : Nat} {P : Nat → Value → Prop} {St : Nat → Heap → Prop} {x : Str} {px : Pos} {body : List Stmt}
    (W : Walks pw w A I fp wr n P St) (X : List Addr) (hfp : ∀ b ∈ fp, b ∉ X ∧ b ≠ L) (hwr : ∀ b ∈ wr, h₀.objs.size ≤ b)
    (J : Nat → (Str → Option Value) → Heap → Prop) (Jk : ∀ i m h h', J i m h → KB (L :: wr) h h' → J i m h')
    (Φ : Fm w mg mb h₀ L m hh) (st : St 0 hh) (j : J 0 m hh) (hk : sc.kind = .function) (hl : (envOf nm sc L fa cd).kindOf x = some .local)
    (turn : ∀ i v m' h' k, i < n → P i v → KB (L :: (wr ++ X)) hh h' → J i m' h' → Fm w mg mb h₀ L (upd m' x v) h' → 0 < k →
      wpAny (model pw w) A (execs body (envOf nm sc L fa cd)) (fun f s' => match f with
        | .next | .cont => ∃ m'' h'' k'', s' = up s h'' k'' ∧ Fm w mg mb h₀ L m'' h'' ∧ J (i + 1) m'' h'' ∧ KB (L :: X) h' h''
        | .brk => R (.ok .next) s'
        | .ret v => R (.ok (.ret v)) s') (fun _ _ => False) (up s h' k))
    (fin : ∀ m' h' k, KB (L :: (wr ++ X)) hh h' → J n m' h' → Fm w mg mb h₀ L m' h' → R (.ok .next) (up s h' k)) :
    codeAny (model pw w) A (.forLoop (.Name x px) (.ref I) body [] (envOf nm sc L fa cd)) R (up s hh tk) := by
  have wrL : L ∉ wr := fun hb => (hfp L (W.sub _ hb)).2 rfl
  refine codeAny_forLoop (fun r s' => ∃ i m' h' k, s' = up s h' k ∧ KB (L :: (wr ++ X)) hh h' ∧ J i m' h' ∧ Fm w mg mb h₀ L m' h' ∧ St i h' ∧ i ≤ n ∧ r = n + 1 - i) ?_ (n + 1) ⟨0, m, hh, tk, rfl, KB.refl _, j, Φ, st, Nat.zero_le _, rfl⟩
  rintro r s' ⟨i, m', h', k, rfl, kb, ji, Φi, sti, hi, rfl⟩
  by_cases hlt : i < n
  · refine W.item i _ _ _ hlt sti fun v h1 t1 hP st1 k1 => ?_
    have kb1 : KB wr h' h1 := k1
    have Φ1 := Φi.kb kb1 wrL hwr
    refine wpAny_assign_Name (k_setB (s := s) (tk := t1) Φ1 (fun h2 Φ2 kb2 => ?_) hk hl)
    have kb3 : KB (L :: wr) h' h2 := (kb1.mono fun p hp => .tail _ hp).trans (kb2.mono fun p hp => by simp at hp; simp [hp])
    have j2 := Jk _ _ _ _ ji kb3
    have st2 : St (i + 1) h2 := W.frame _ _ _ st1 fun b hb o e => kb2 b o (by simp; exact (hfp b hb).2) e
    have kb4 : KB (L :: (wr ++ X)) hh h2 := kb.trans (kb3.mono fun p hp => by simp at hp ⊢; rcases hp with hp | hp <;> simp [hp])
    refine wpAny_mono (turn i v m' h2 (t1 + 1) hlt hP kb4 j2 Φ2 (Nat.succ_pos _)) (fun f s3 hq => ?_) fun _ _ q => q.elim
    have next : (∃ m'' h'' k'', s3 = up s h'' k'' ∧ Fm w mg mb h₀ L m'' h'' ∧ J (i + 1) m'' h'' ∧ KB (L :: X) h2 h'') →
        ∃ q, q < n + 1 - i ∧ ∃ i m' h' k, s3 = up s h' k ∧ KB (L :: (wr ++ X)) hh h' ∧ J i m' h' ∧ Fm w mg mb h₀ L m' h' ∧ St i h' ∧ i ≤ n ∧ q = n + 1 - i := by
      rintro ⟨m3, h3, k3, e, Φ3, j3, kb5⟩
      refine ⟨n + 1 - (i + 1), by omega, i + 1, m3, h3, k3, e, kb4.trans (kb5.mono fun p hp => by simp at hp ⊢; rcases hp with hp | hp <;> simp [hp]), j3, Φ3, ?_, by omega, rfl⟩
      exact W.frame _ _ _ st2 fun b hb o e => kb5 b o (by simp; exact ⟨(hfp b hb).2, (hfp b hb).1⟩) e
    cases f with
    | next => exact next hq
    | cont => exact next hq
    | brk => exact hq
    | ret v => exact hq
  · have e : i = n := by omega
    subst e
    refine W.done _ _ _ sti fun h1 t1 k1 => q_nil ?_
    have kb1 : KB wr h' h1 := k1
    exact fin m' h1 t1 (kb.trans (kb1.mono fun p hp => by simp [hp])) (Jk _ _ _ _ ji (kb1.mono fun p hp => .tail _ hp)) (Φi.kb kb1 wrL hwr)
end
theorem g825 (P : Params) : nsIn (K P) mainGlobals (Str.ofString "fspath") = some (some (.ref 825)) := by kernel_rfl
theorem g839 (P : Params) : nsIn (K P) mainGlobals (Str.ofString "_get_sep") = some (some (.ref 839)) := by kernel_rfl
theorem g846 (P : Params) : nsIn (K P) mainGlobals (Str.ofString "join_posixpath") = some (some (.ref 846)) := by kernel_rfl
theorem g853 (P : Params) : nsIn (K P) mainGlobals (Str.ofString "basename") = some (some (.ref 853)) := by kernel_rfl
theorem g858 (P : Params) : nsIn (K P) mainGlobals (Str.ofString "commonpath") = some (some (.ref 858)) := by kernel_rfl
theorem g752 (P : Params) : nsIn (K P) mainGlobals (Str.ofString "quote") = some (some (.ref 752)) := by kernel_rfl
theorem g744 (P : Params) : nsIn (K P) mainGlobals (Str.ofString "split") = some (some (.ref 744)) := by kernel_rfl
theorem g872 (P : Params) : nsIn (K P) mainGlobals (Str.ofString "_escape_attrib") = some (some (.ref 872)) := by kernel_rfl
theorem g879 (P : Params) : nsIn (K P) mainGlobals (Str.ofString "_escape_attrib_html") = some (some (.ref 879)) := by kernel_rfl
theorem g886 (P : Params) : nsIn (K P) mainGlobals (Str.ofString "_escape_attrib_c14n") = some (some (.ref 886)) := by kernel_rfl
theorem g893 (P : Params) : nsIn (K P) mainGlobals (Str.ofString "_law_aged") = some (some (.ref 893)) := by kernel_rfl
theorem g900 (P : Params) : nsIn (K P) mainGlobals (Str.ofString "_law_way") = some (some (.ref 900)) := by kernel_rfl
theorem g907 (P : Params) : nsIn (K P) mainGlobals (Str.ofString "_law_words") = some (some (.ref 907)) := by kernel_rfl
theorem g732 (P : Params) : nsIn (K P) mainGlobals (Str.ofString "shlex") = some (some (.ref 732)) := by kernel_rfl
theorem g597 (P : Params) : nsIn (K P) mainGlobals (Str.ofString "StringIO") = some (some (.ref 597)) := by kernel_rfl
theorem g63 (P : Params) : nsIn (K P) mainGlobals (Str.ofString "_index") = some (some (.ref 63)) := by kernel_rfl
section
variable {M : Model} {A : Around} {E : Value → Shared → Prop} {s : Shared} {hh : Heap} {tk : Nat}
variable {w : World} {mg mb : Str → Option Value} {m : Str → Option Value} {h₀ : Heap} {L fa : Addr} {nm : Str} {sc : Scope} {cd : Value}
theorem n_ldn {x : Str} {v : Value} {Q : Value → Shared → Prop} (Φ : Fm w mg mb h₀ L m s.heap) (hv : m x = some v) (h : Q v s)
    (hk : sc.kind = .function) (hl : (envOf nm sc L fa cd).kindOf x = some .local) : wpAny M A (loadName (envOf nm sc L fa cd) x) Q E s := ldn Φ.F hv h hk hl
theorem Fm.lt (Φ : Fm w mg mb h₀ L m hh) : L < hh.objs.size := Φ.F.ns.lt
theorem Fm.le (Φ : Fm w mg mb h₀ L m hh) : h₀.objs.size ≤ hh.objs.size := Nat.le_trans Φ.F.above (Nat.le_of_lt Φ.lt)
theorem p_tuple {ax : Addr} {items : Array Value} {Q : Value → Shared → Prop} (Φ : Fm w mg mb h₀ L m hh) (ht : hh.IsTuple ax items)
    (h : ∀ h', Keeps hh h' → Fm w mg mb h₀ L m h' → h'.IsTupleIter hh.objs.size ax 0 → h'.IsTuple ax items → Q (.ref hh.objs.size) (up s h' tk)) : wpAny (model pw w) A (pyIter (.ref ax)) Q E (up s hh tk) :=
  wpAny_pyIter_tuple (s := up s hh tk) ht (h _ (fun _ _ e => Heap.get?_push_of_some _ e) (Φ.keeps fun _ _ e => Heap.get?_push_of_some _ e) ⟨_, Heap.get?_push_size _ rfl, rfl, rfl⟩ (ht.push _))
theorem p_list {ax : Addr} {items : Array Value} {Q : Value → Shared → Prop} (Φ : Fm w mg mb h₀ L m hh) (ht : hh.IsList ax items)
    (h : ∀ h', Keeps hh h' → Fm w mg mb h₀ L m h' → h'.IsListIter hh.objs.size ax 0 → h'.IsList ax items → Q (.ref hh.objs.size) (up s h' tk)) : wpAny (model pw w) A (pyIter (.ref ax)) Q E (up s hh tk) :=
  wpAny_pyIter_list (s := up s hh tk) ht (h _ (fun _ _ e => Heap.get?_push_of_some _ e) (Φ.keeps fun _ _ e => Heap.get?_push_of_some _ e) ⟨_, Heap.get?_push_size _ rfl, rfl, rfl⟩ (ht.at fun _ e => Heap.get?_push_of_some _ e))
theorem p_str {x : Str} {t : Tok} {Q : Value → Shared → Prop} (Φ : Fm w mg mb h₀ L m hh)
    (h : ∀ h' St, Keeps hh h' → Fm w mg mb h₀ L m h' → (∀ A' : Around, A'.handled = none → Walks pw w A' hh.objs.size [hh.objs.size] [hh.objs.size] x.cps.size (SignAt x) St) → St 0 h' → Q (.ref hh.objs.size) (up s h' tk)) : wpAny (model pw w) A (pyIter (.str x t)) Q E (up s hh tk) :=
  wpAny_pyIter_str (s := up s hh tk) fun o St W st => h _ St (fun _ _ e => Heap.get?_push_of_some _ e) (Φ.keeps fun _ _ e => Heap.get?_push_of_some _ e) W st
theorem starts1 (x : T) (c : Nat) : Txt.startswith (S x) (S [c]) = decide (x.head? = some c) := by
  rw [Bool.eq_iff_iff, decide_eq_true_eq]
  unfold Txt.startswith
  have h := StrLaws.subAt_one (S x) c 0
  simp only [Bool.and_eq_true, decide_eq_true_eq]
  rw [List.head?_eq_getElem?]
  exact h
theorem ends1 (x : T) (c : Nat) : Txt.endswith (S x) (S [c]) = decide (x.getLast? = some c) := by
  rw [Bool.eq_iff_iff, decide_eq_true_eq]
  unfold Txt.endswith
  have h := StrLaws.subAt_one (S x) c ((S x).length - 1)
  simp only [Bool.and_eq_true, decide_eq_true_eq]
  rw [List.getLast?_eq_getElem?]
  show (0 + 1 ≤ x.length ∧ Builtin.Str.subAt (S x) ⟨#[c]⟩ ((S x).length - 1) = true) ↔ _
  constructor
  · rintro ⟨h1, h2⟩
    exact h.mp ⟨by show x.length - 1 + 1 ≤ x.length; omega, h2⟩
  · intro h1
    have h2 : x[x.length - 1]? = some c := h1
    have := (List.getElem?_eq_some_iff.mp h2).1
    exact ⟨by omega, (h.mpr h1).2⟩
theorem r_starts {x : T} {c : Nat} {t u : Tok} {Q : Value → Shared → Prop} (h : Q (.bool (decide (x.head? = some c))) s) : wpAny (model pw w) A (call (.builtin "str.startswith") [.str (S x) t, .str (S [c]) u]) Q E s := SC.startswith (by rw [starts1]; exact h)
theorem r_ends {x : T} {c : Nat} {t u : Tok} {Q : Value → Shared → Prop} (h : Q (.bool (decide (x.getLast? = some c))) s) : wpAny (model pw w) A (call (.builtin "str.endswith") [.str (S x) t, .str (S [c]) u]) Q E s := SC.endswith (by rw [ends1]; exact h)
theorem r_iadd {x y : T} {t u : Tok} {Q : Value → Shared → Prop} (hsz : x.length + y.length ≤ 2 ^ 24) (h : ∀ t' k, tk ≤ k → Q (.str (S (x ++ y)) t') (up s hh k)) : wpAny (model pw w) A (inplaceOp .Add (.str (S x) t) (.str (S y) u)) Q E (up s hh tk) := by
  refine P.iadd_str ?_
  have e := S_app x y
  split
  · rename_i hx
    have : x = [] := by simpa [S_len] using hx
    subst this
    exact h u tk (Nat.le_refl _)
  · split
    · rename_i hy
      have : y = [] := by simpa [S_len] using hy
      subst this
      have := h t tk (Nat.le_refl _)
      rwa [List.append_nil] at this
    · rw [e]
      exact ⟨by rw [S_len, List.length_append, sizeLine_eq]; omega, h _ _ (Nat.le_succ _)⟩
end
local macro_rules | `(tactic| walk_at "kb") => `(tactic| repeat (first
  | exact KB.refl _ | assumption
  | (refine KB.trans ?_ (KB.mono (by assumption) (by intro p hp; simp only [List.mem_cons, List.mem_append, List.not_mem_nil, or_false] at hp ⊢; simp only [hp, true_or, or_true])))
  | (refine KB.trans ?_ (KB.of (by assumption)))))
section
variable {w : World} {mg mb : Str → Option Value} {A : Around} {E : Value → Shared → Prop} {s : Shared} {hh : Heap} {tk : Nat}
noncomputable def joined (a b : T) : T := if a.getLast? = some 47 then a ++ b else a ++ 47 :: b
theorem c_join {a b : T} {u v : Tok} {Q : Value → Shared → Prop} (g : G w mg mb hh) (hroom : A.depth + 1 < recursionLimit) (hA : A.handled = none)
    (ha : a ≠ []) (hb : b.head? ≠ some 47) (hl : a.length + b.length ≤ 2 ^ 20) (h : ∀ h' k t', Keeps hh h' → Q (.str (S (joined a b)) t') (up s h' k)) :
    wpAny (model pw w) A (call (.ref 846) [.str (S a) u, .str (S b) v]) Q E (up s hh tk) := by
  refine call_star [("a", .str (S a) u), ("p", .ref hh.objs.size)] (P := fun h => h.get? hh.objs.size = some ⟨.type "tuple", none, .seq #[.str (S b) v] 0, #[]⟩) g (by walk_at "x2") (f846 _) (by kernel_rfl) (fun E' Q' hq => bind_join hq) fun h₀ h₁ L k kp hT Φ hk => ?_
  refine nameR fun Qn1 En1 hQ1 hE1 => ?_
  refine q_cons ?_
  refine q_asn ?_; refine q_call ?_; walk_at "g n_glob g825"; refine q_ck (Fm.gg (by assumption)).X (by kernel_rfl) ?_; refine q_acons ?_; walk_at "l n_loc;r args_nil;A"
  have hr : ∀ e, (A.deeper e).depth < recursionLimit := fun e => by rw [depth_deeper]; omega
  refine c_fspath Φ.gg (hr _) fun h2 k2 kp2 => ?_
  have Φ2 := Φ.keeps kp2
  walk_at "sB;r q_cons"; refine q_asn ?_; refine q_call ?_; walk_at "g n_glob g839"; refine q_ck (Fm.gg (by assumption)).X (by kernel_rfl) ?_; refine q_acons ?_; walk_at "l n_loc;r args_nil;A"
  refine c_sep (Fm.gg (by assumption)) (hr _) fun h3 k3 u3 kp3 => ?_
  have Φ3 := Fm.keeps (by assumption) kp3
  walk_at "sB;r q_cons"; refine q_asn ?_; walk_at "l n_loc;sB;r q_cons"
  refine try_calm ?_
  refine q_cons (q_for ?_)
  walk_at "l n_loc"
  rename_i h4 Φ4 _
  refine p_tuple (items := #[.str (S b) v]) Φ4 ⟨_, Φ4.kept _ _ hT, rfl, 0, rfl⟩ fun h5 kp5 Φ5 hi hti => ?_
  have hL := Φ4.lt
  have hx : h4.objs.size ≠ hh.objs.size := by
    have := Heap.lt_size (Φ4.kept _ _ hT)
    try subst hQ1 hE1
    exact Nat.ne_of_gt this
  have hT2 : hh.objs.size ≠ L := Nat.ne_of_lt (Nat.lt_of_lt_of_le (Heap.lt_size hT) Φ.F.above)
  refine loop_W (Walks.tuple (A := A.deeper _) hA h4.objs.size hh.objs.size hx.symm #[.str (S b) v]) [] ?_ ?_
    (fun i m _ => if i = 0 then m = _ else ∃ t', m "path" = some (.str (S (joined a b)) t')) (fun _ _ _ _ j _ => j) Φ5 ⟨hi, hti⟩ rfl (by kernel_rfl) (by kernel_rfl) ?_ ?_
  · intro p hp
    simp only [List.mem_cons, List.not_mem_nil, or_false] at hp
    rcases hp with rfl | rfl
    · try subst hQ1 hE1
      exact ⟨List.not_mem_nil, Nat.ne_of_gt hL⟩
    · try subst hQ1 hE1
      exact ⟨List.not_mem_nil, hT2⟩
  · intro p hp
    simp only [List.mem_cons, List.not_mem_nil, or_false] at hp
    subst hp; exact Φ4.le
  · intro i v1 m' h' k' hi hv kb j Φ' hk'
    have hi0 : i = 0 := Nat.lt_one_iff.mp hi
    subst hi0
    have e1 : .str (S b) v = v1 := Option.some.inj hv
    subst e1
    have e2 := j
    rw [if_pos rfl] at e2
    subst e2
    clear j hv
    refine nameQ fun Qn2 hQ2 => ?_
    refine q_cons ?_
    refine q_asn ?_; refine q_call ?_; walk_at "g n_glob g825"; refine q_ck (Fm.gg (by assumption)).X (by kernel_rfl) ?_; refine q_acons ?_; walk_at "l n_loc;r args_nil;A"
    refine c_fspath (Fm.gg (by assumption)) (hr _) fun h6 k6 kp6 => ?_
    have Φ6 := Fm.keeps (by assumption) kp6
    walk_at "sB;r q_cons;r q_If;r q_or;r q_tc"; refine q_meth ?_; walk_at "l n_loc;r GM.startswith"; refine q_cm ?_; refine q_acons ?_; walk_at "l n_loc;r args_nil"
    refine r_starts ?_
    rw [decide_eq_false hb]
    walk_at "r wpAny_truthy_bool;r q_or;r q_not;r q_tn;l n_loc"
    by_cases he : a.getLast? = some 47
    · refine r_truthy (by walk_at "x2") ?_
      rw [show (!a.isEmpty) = true by cases a <;> simp_all]
      walk_at "r isTrue_or_nil;r q_cons;r q_If;r q_tc"; refine q_meth ?_; walk_at "l n_loc;r GM.endswith"; refine q_cm ?_; refine q_acons ?_; walk_at "l n_loc;r args_nil"
      refine r_ends ?_
      rw [decide_eq_true he]
      walk_at "r wpAny_truthy_bool;r q_cons"; refine q_augn ?_; walk_at "l n_ldn;l n_loc"
      refine r_iadd (by walk_at "x2") fun t7 k7 hk7 => ?_
      walk_at "sB;r q_nil;r q_nil;r q_nil"
      try subst hQ2
      refine ⟨_, _, _, rfl, by assumption, ?_, ?_⟩
      · try subst hQ2
        exact ⟨t7, by rw [joined, if_pos he]; rfl⟩
      · walk_at "kb"
    · refine r_truthy (by walk_at "x2") ?_
      rw [show (!a.isEmpty) = true by cases a <;> simp_all]
      walk_at "r isTrue_or_nil;r q_cons;r q_If;r q_tc"; refine q_meth ?_; walk_at "l n_loc;r GM.endswith"; refine q_cm ?_; refine q_acons ?_; walk_at "l n_loc;r args_nil"
      refine r_ends ?_
      rw [decide_eq_false he]
      walk_at "r wpAny_truthy_bool;r q_cons"; refine q_augn ?_; walk_at "l n_ldn;r q_bin;l n_loc;l n_loc"
      refine r_add (x := [47]) (by simp only [List.length_cons, List.length_nil]; omega) fun t6 k6 hk6 => ?_
      refine r_iadd (by simp only [List.length_cons, List.length_append, List.length_nil]; omega) fun t7 k7 hk7 => ?_
      walk_at "sB;r q_nil;r q_nil;r q_nil"
      try subst hQ2
      refine ⟨_, _, _, rfl, by assumption, ?_, ?_⟩
      · try subst hQ2
        exact ⟨t7, by rw [joined, if_neg he]; rfl⟩
      · walk_at "kb"
  · intro m' h' k' kb j Φ'
    obtain ⟨t', hp⟩ := j
    dsimp only
    walk_at "r q_nil;r q_nil;r q_cons;r q_ret;l n_loc"
    try subst hQ1 hE1
    exact h _ _ _ (fun b o e => Φ'.kept _ _ (kp _ _ e))
end
theorem slice_from (x : T) (n : Nat) (h : n ≤ x.length) : Txt.slice (S x) (some (n : Int)) none = S (x.drop n) := by
  rw [slice_from_eq (b := (x.length : Int)) (by omega) (by rw [S_len]; omega) rfl]
  show Str.mk _ = Str.mk _
  congr 2
  show (List.drop (n : Int).toNat x).take ((x.length : Int) - n).toNat = x.drop n
  rw [Int.toNat_natCast]
  refine List.take_of_length_le ?_
  rw [List.length_drop]; omega
theorem slice_mid (x : T) (a b : Nat) (h : a ≤ b) (hb : b ≤ x.length) : Txt.slice (S x) (some (a : Int)) (some (b : Int)) = S ((x.drop a).take (b - a)) := by
  have := StrLaws.sliceText_nat (S x) h hb
  exact this
section
variable {A : Around} {E : Value → Shared → Prop} {s : Shared} {hh : Heap} {tk : Nat} {env : Env}
variable {w : World}
theorem s_from {value lo : Expr} {p pos : Pos} {Q : Value → Shared → Prop} (ht : ∀ o r, letTemporaryGo value o r = pure ())
    (h : wpAny (model pw w) A (eval value env) (fun o s₁ => wpAny (model pw w) A (eval lo env) (fun vi s₂ => ∃ x t i u h k, ∃ n : Nat, o = .str (S x) t ∧ vi = .int i u ∧ i = (n : Int) ∧ n ≤ x.length ∧ x.length ≤ 2 ^ 20 ∧ s₂ = up s h k ∧
      ∀ h' k' t', Keeps h h' → Q (.str (S (x.drop n)) t') (up s h' k')) E s₁) E (up s hh tk)) :
    wpAny (model pw w) A (eval (.Subscript value (.Slice (some lo) none none p) pos) env) Q E (up s hh tk) := by
  refine Subscript_Slice (wpAny_mono h (fun o s₁ h₁ => wpAny_Slice (evalPart_some_step (wpAny_mono h₁ (fun vi s₂ h₂ => evalPart_none_step ?_) fun _ _ e => e))) fun _ _ e => e) ht
  obtain ⟨x, t, i, u, hp, k, n, rfl, rfl, rfl, hn, hl, rfl, hq⟩ := h₂
  refine evalPart_none_step ?_
  refine SBH.sliceItem_sn (s := up s hp k) (P := Keeps hp) (fun _ ob q b o e => Heap.get?_push_of_some _ (q b o e)) (fun _ _ e => e) (fun h' t' k' kp => ?_) (by rw [S_len, sizeLine_eq]; omega)
  rw [slice_from x n hn]
  exact hq h' k' t' kp
theorem rfind1 (pre b : T) (c : Nat) (hb : c ∉ b) : Txt.rfind (S (pre ++ c :: b)) (S [c]) = pre.length := by
  unfold Txt.rfind
  have key := StrLaws.subAt_one (S (pre ++ c :: b)) c
  have at_iff : ∀ i, StrLaws.At (S (pre ++ c :: b)) (S [c]) (S (pre ++ c :: b)).length i ↔ (pre ++ c :: b)[i]? = some c := key
  rcases StrLaws.last_spec (S (pre ++ c :: b)) (S [c]) with ⟨_, h2⟩ | ⟨i, h1, h2, h3⟩
  · exact absurd ((at_iff pre.length).mpr (by simp)) (h2 _)
  · rw [h1]
    have hi := (at_iff i).mp h2
    have h4 : ¬ i < pre.length := fun hlt => h3 _ hlt ((at_iff pre.length).mpr (by simp))
    have h5 : ¬ pre.length < i := fun hlt => by
      rw [List.getElem?_append_right (by omega)] at hi
      have e : i - pre.length = (i - pre.length - 1) + 1 := by omega
      rw [e, List.getElem?_cons_succ] at hi
      exact hb (List.mem_of_getElem? hi)
    have : i = pre.length := by omega
    rw [this]
end
section
variable {A : Around} {E : Value → Shared → Prop} {s : Shared} {hh : Heap} {tk : Nat} {env : Env}
variable {w : World} {mg mb : Str → Option Value}
theorem r_iaddi {a b : Int} {t u : Tok} {Q : Value → Shared → Prop} (h : Q (.int (a + b) tk) (up s hh (tk + 1))) : wpAny (model pw w) A (binaryOp .Add (.int a t) (.int b u)) Q E (up s hh tk) := add_int (s := up s hh tk) h
theorem f853 (P : Params) : (K P).lookup 853 = some ⟨.type "function", none, .func (fnOf "basename" "basename" (dA (st 43)) (dB (st 43)) (dS (st 43)) .none .none .none (.str "cpy313.posixpath" 1361) none (.ref 852) .none), #[]⟩ := by kernel_rfl
theorem c_base {pre b : T} {u : Tok} {Q : Value → Shared → Prop} (g : G w mg mb hh) (hroom : A.depth + 1 < recursionLimit)
    (hb : 47 ∉ b) (hl : (pre ++ 47 :: b).length ≤ 2 ^ 20) (h : ∀ h' k t', Keeps hh h' → Q (.str (S b) t') (up s h' k)) :
    wpAny (model pw w) A (call (.ref 853) [.str (S (pre ++ 47 :: b)) u]) Q E (up s hh tk) := by
  refine call_pure [("p", .str (S (pre ++ 47 :: b)) u)] g (by omega) (f853 _) (by kernel_rfl) (.of_eq (by rfl)) fun h₁ L k hL Φ hk => ?_
  have hr : ∀ e, (A.deeper e).depth < recursionLimit := fun e => by rw [depth_deeper]; omega
  refine q_cons ?_
  refine q_asn ?_; refine q_call ?_; walk_at "g n_glob g825"; refine q_ck (Fm.gg (by assumption)).X (by kernel_rfl) ?_; refine q_acons ?_; walk_at "l n_loc;r args_nil;A"
  refine c_fspath (Fm.gg (by assumption)) (hr _) fun h2 k2 kp2 => ?_
  have Φ2 := Fm.keeps (by assumption) kp2
  walk_at "sB;r q_cons"; refine q_asn ?_; refine q_call ?_; walk_at "g n_glob g839"; refine q_ck (Fm.gg (by assumption)).X (by kernel_rfl) ?_; refine q_acons ?_; walk_at "l n_loc;r args_nil;A"
  refine c_sep (Fm.gg (by assumption)) (hr _) fun h3 k3 u3 kp3 => ?_
  have Φ3 := Fm.keeps (by assumption) kp3
  walk_at "sB;r q_cons"; refine q_asn ?_; walk_at "r q_bin"; refine q_meth ?_; walk_at "l n_loc;r GM.rfind"; refine q_cm ?_; refine q_acons ?_; walk_at "l n_loc;r args_nil"
  refine SC.rfind ?_
  rw [rfind1 pre b 47 hb]
  walk_at "r k_int"
  refine r_iaddi ?_
  walk_at "sB;r q_cons;r q_ret"
  refine s_from (by intro _ _; rfl) ?_
  walk_at "l n_loc;l n_loc"
  refine ⟨_, _, _, _, _, _, pre.length + 1, rfl, rfl, by omega, ?_, hl, rfl, fun h4 k4 t4 kp4 => ?_⟩
  · simp only [List.length_append, List.length_cons]; omega
  · have e : (pre ++ 47 :: b).drop (pre.length + 1) = b := by
      rw [show pre.length + 1 = (pre ++ [47]).length by simp, show pre ++ 47 :: b = (pre ++ [47]) ++ b by simp]; exact List.drop_left
    rw [e]
    have Φ4 := Fm.keeps (by assumption) kp4
    exact h _ _ _ Φ4.kept
end
theorem dig_eq (n : Nat) (h : n < 10) : Str.ofString (toString (n : Int)) = S [48 + n] := by
  match n, h with
  | 0, _ => kernel_rfl | 1, _ => kernel_rfl | 2, _ => kernel_rfl | 3, _ => kernel_rfl | 4, _ => kernel_rfl
  | 5, _ => kernel_rfl | 6, _ => kernel_rfl | 7, _ => kernel_rfl | 8, _ => kernel_rfl | 9, _ => kernel_rfl
section
variable {A : Around} {E : Value → Shared → Prop} {s : Shared} {hh : Heap} {tk : Nat} {env : Env}
variable {w : World} {mg mb : Str → Option Value} {m : Str → Option Value} {h₀ : Heap} {L fa : Addr}
theorem r_mod {a b : Nat} {t u : Tok} {Q : Value → Shared → Prop} (hb : b ≠ 0) (h : Q (.int ((a % b : Nat) : Int) tk) (up s hh (tk + 1))) : wpAny (model pw w) A (binaryOp .Mod (.int (a : Nat) t) (.int (b : Nat) u)) Q E (up s hh tk) := by
  refine mod_int (s := up s hh tk) (by omega) ?_
  rw [show ((a : Int).fmod (b : Int)) = ((a % b : Nat) : Int) by rw [Int.fmod_eq_emod_of_nonneg _ (by omega)]; rfl]
  exact h
theorem r_fdiv {a b : Nat} {t u : Tok} {Q : Value → Shared → Prop} (hb : b ≠ 0) (ha : a < 2 ^ 20) (hb' : b < 2 ^ 20) (h : Q (.int ((a / b : Nat) : Int) tk) (up s hh (tk + 1))) : wpAny (model pw w) A (binaryOp .FloorDiv (.int (a : Nat) t) (.int (b : Nat) u)) Q E (up s hh tk) := by
  refine floordiv_int (s := up s hh tk) (by omega) ?_ (.inl (PyProof.noPylong_small (by omega)))
  rw [show ((a : Int).fdiv (b : Int)) = ((a / b : Nat) : Int) by rw [Int.fdiv_eq_ediv_of_nonneg _ (by omega)]; rfl]
  exact h
theorem r_dig {n : Nat} {t : Tok} {Q : Value → Shared → Prop} (hn : n < 10) (h : Q (.str (S [48 + n]) tk) (up s hh (tk + 1))) : wpAny (model pw w) A (call (.type "str") [.int (n : Nat) t]) Q E (up s hh tk) := by
  refine P.str_of_int (s := up s hh tk) ?_ ?_
  · have : ((n : Nat) : Int).natAbs = n := Int.natAbs_natCast n
    rw [this]
    match n, hn with
    | 0, _ => decide | 1, _ => decide | 2, _ => decide | 3, _ => decide | 4, _ => decide
    | 5, _ => decide | 6, _ => decide | 7, _ => decide | 8, _ => decide | 9, _ => decide
  · rw [dig_eq n hn]; exact h
theorem r_range {n : Nat} {v : Tok} {Q : Value → Shared → Prop} (Φ : Fm w mg mb h₀ L m hh)
    (h : ∀ h' t u, Keeps hh h' → Fm w mg mb h₀ L m h' → IsRange h' hh.objs.size 0 n 1 t v u → Q (.ref hh.objs.size) (up s h' (tk + 2))) : wpAny (model pw w) A (call (.type "range") [.int (n : Nat) v]) Q E (up s hh tk) :=
  call_range_1 (s := up s hh tk) (h _ _ _ (fun _ _ e => Heap.get?_push_of_some _ e) (Φ.keeps fun _ _ e => Heap.get?_push_of_some _ e) (IsRange.new _ _ _ _ _ _ _))
theorem p_range {r : Addr} {n : Nat} {t u v : Tok} {Q : Value → Shared → Prop} (Φ : Fm w mg mb h₀ L m hh) (hr : IsRange hh r 0 n 1 t u v) (hn : n < 2 ^ 20)
    (h : ∀ h', Keeps hh h' → Fm w mg mb h₀ L m h' → IsRangeIter h' hh.objs.size (0 + ((0 : Nat) : Int) * 1) ((n : Int) - ((0 : Nat) : Int)) 1 → Q (.ref hh.objs.size) (up s h' tk)) : wpAny (model pw w) A (pyIter (.ref r)) Q E (up s hh tk) := by
  refine wpAny_pyIter_range (s := up s hh tk) hr (small_one (by omega) (by omega) (by omega) (by omega)) (h _ (fun _ _ e => Heap.get?_push_of_some _ e) (Φ.keeps fun _ _ e => Heap.get?_push_of_some _ e) ?_)
  rw [rangeSize_one]
  have e : (if (0 : Int) < (n : Int) then (n : Int) - 0 else 0) = (n : Int) - ((0 : Nat) : Int) := by split <;> omega
  rw [e]
  exact Heap.get?_push_size _ rfl
end
noncomputable def wayGo : Nat → Nat → T → T
  | 0, p, a => joined a [48 + p]
  | r + 1, p, a => wayGo r (p / 3) (joined a [48 + p % 3])
theorem joined_len (a b : T) : (joined a b).length ≤ a.length + b.length + 1 := by
  unfold joined; split <;> simp <;> omega
theorem joined_ne (a : T) (x : Nat) : joined a [x] ≠ [] := by unfold joined; split <;> simp
section
variable {A : Around} {E : Value → Shared → Prop} {s : Shared} {hh : Heap} {tk : Nat} {env : Env}
variable {w : World} {mg mb : Str → Option Value}
theorem f900 (P : Params) : (K P).lookup 900 = some ⟨.type "function", none, .func (fnOf "_law_way" "_law_way" (dA (st 52)) (dB (st 52)) (dS (st 52)) .none .none .none (.str "law_rt0109_01" 1427) none (.ref 899) .none), #[]⟩ := by kernel_rfl
theorem c_way {p r : Nat} {u v : Tok} {Q : Value → Shared → Prop} (g : G w mg mb hh) (hroom : A.depth + 2 < recursionLimit) (hA : A.handled = none)
    (hr3 : r ≤ 3) (hp : p < 10 * 3 ^ r) (h : ∀ h' k t', Keeps hh h' → Q (.str (S (wayGo r p [47])) t') (up s h' k)) :
    wpAny (model pw w) A (call (.ref 900) [.int (p : Nat) u, .int (r : Nat) v]) Q E (up s hh tk) := by
  refine call_pure [("place", .int (p : Nat) u), ("rounds", .int (r : Nat) v)] g (by walk_at "x2") (f900 _) (by kernel_rfl) (.of_eq (by rfl)) fun h₁ L k hL Φ hk => ?_
  have hr : ∀ e, (A.deeper e).depth + 1 < recursionLimit := fun e => by rw [depth_deeper]; omega
  have h27 : (3 : Nat) ^ r ≤ 27 := by
    calc (3 : Nat) ^ r ≤ 3 ^ 3 := Nat.pow_le_pow_right (by decide) hr3
      _ = 27 := rfl
  refine q_cons ?_
  walk_at "hs q_asn"
  refine k_str [47] (by kernel_rfl) ?_
  walk_at "sB;r q_cons"
  rename_i h2 Φ2 _
  refine q_for ?_
  walk_at "he q_call;b n_blt Boot.range;hp q_ct;he q_acons;l n_loc;r args_nil"
  refine r_range Φ2 fun h3 t3 u3 kp3 Φ3 hr3' => ?_
  refine p_range Φ3 hr3' (by walk_at "x2") fun h4 kp4 Φ4 hi4 => ?_
  have hL3 := Φ3.lt
  refine loop_W (Walks.range (A := A.deeper _) hA h3.objs.size 0 1 r) [] ?_ ?_
    (fun i m _ => ∃ a q t u, m "way" = some (.str (S a) t) ∧ m "place" = some (.int ((q : Nat) : Int) u) ∧ wayGo (r - i) q a = wayGo r p [47] ∧ a ≠ [] ∧ a.length ≤ 1 + 2 * i ∧ q < 10 * 3 ^ (r - i)) (fun _ _ _ _ j _ => j) Φ4 hi4 ⟨[47], p, _, _, rfl, rfl, rfl, by decide, by decide, hp⟩ (by kernel_rfl) (by kernel_rfl) ?_ ?_
  · intro b hb
    simp only [List.mem_cons, List.not_mem_nil, or_false] at hb
    subst hb
    exact ⟨List.not_mem_nil, Nat.ne_of_gt hL3⟩
  · intro b hb
    simp only [List.mem_cons, List.not_mem_nil, or_false] at hb
    subst hb; exact Φ3.le
  · rintro i v1 m' h' k' hi ⟨t1, rfl⟩ kb ⟨a, q, t, u', hw, hpl, hgo, hne, hlen, hq⟩ Φ' hk'
    have hw' : (upd m' "_" (.int (0 + (i : Int) * 1) t1)) "way" = some (.str (S a) t) := hw
    have hpl' : (upd m' "_" (.int (0 + (i : Int) * 1) t1)) "place" = some (.int ((q : Nat) : Int) u') := hpl
    obtain ⟨e, he⟩ : ∃ e, r - i = e + 1 := ⟨r - i - 1, by omega⟩
    rw [he] at hgo hq
    have he' : r - (i + 1) = e := by omega
    have h3e : (3 : Nat) ^ e ≤ 27 := by
      calc (3 : Nat) ^ e ≤ 3 ^ 3 := Nat.pow_le_pow_right (by decide) (by walk_at "x2")
        _ = 27 := rfl
    rw [Nat.pow_succ] at hq
    refine nameQ fun Qn1 hQ1 => ?_
    refine q_cons ?_
    walk_at "hs q_asn;he q_call;g n_glob g846;K;he q_acons;l n_loc;he q_acons;he q_call;b n_blt Boot.str;hp q_ct;he q_acons;r q_bin;l n_loc;r k_int"
    refine r_mod (b := 3) (by decide) ?_
    walk_at "r args_nil"
    refine r_dig (by walk_at "x2") ?_
    walk_at "r args_nil;A"
    refine c_join (Fm.gg (by assumption)) (hr _) hA hne (by simp; omega) (by simp only [List.length_cons, List.length_nil]; omega) fun h6 k6 t6 kp6 => ?_
    have Φ6 := Fm.keeps (by assumption) kp6
    walk_at "sB;r q_cons;hs q_asn;r q_bin;l n_loc;r k_int"
    refine r_fdiv (b := 3) (by decide) (by walk_at "x2") (by decide) ?_
    walk_at "sB;r q_nil"
    try subst hQ1
    refine ⟨_, _, _, rfl, by assumption, ⟨joined a [48 + q % 3], q / 3, _, _, rfl, rfl, ?_, joined_ne _ _, ?_, ?_⟩, ?_⟩
    · rw [he', ← hgo]; rfl
    · have := joined_len a [48 + q % 3]
      simp only [List.length_cons, List.length_nil] at this
      omega
    · rw [he']; omega
    · walk_at "kb"
  · rintro m' h' k' kb ⟨a, q, t, u', hw, hpl, hgo, hne, hlen, hq⟩ Φ'
    rw [Nat.sub_self] at hgo hq
    rw [Nat.pow_zero] at hq
    dsimp only
    refine nameQ fun Qn2 hQ2 => ?_
    walk_at "r q_cons;r q_ret;he q_call;g n_glob g846;K;he q_acons;l n_loc;he q_acons;he q_call;b n_blt Boot.str;hp q_ct;he q_acons;l n_loc;r args_nil"
    refine r_dig (by walk_at "x2") ?_
    walk_at "r args_nil;A"
    refine c_join (Fm.gg (by assumption)) (hr _) hA hne (by simp; omega) (by simp only [List.length_cons, List.length_nil]; omega) fun h6 k6 t6 kp6 => ?_
    have Φ6 := Fm.keeps (by assumption) kp6
    have e : joined a [48 + q] = wayGo r p [47] := hgo
    rw [e]
    try subst hQ2
    exact h _ _ _ Φ6.kept
end
noncomputable def Li (h : Heap) (D : Addr) (items : Array Value) : Prop := ∃ n, h.get? D = some ⟨.type "list", none, .seq items n, #[]⟩
theorem Li.is {h : Heap} {D : Addr} {items : Array Value} (x : Li h D items) : h.IsList D items := let ⟨n, e⟩ := x; ⟨_, e, rfl, n, rfl⟩
theorem Li.kb {X : List Addr} {h h' : Heap} {D : Addr} {items : Array Value} (x : Li h D items) (k : KB X h h') (n : D ∉ X) : Li h' D items := let ⟨m, e⟩ := x; ⟨m, k _ _ n e⟩
theorem Li.keeps {h h' : Heap} {D : Addr} {items : Array Value} (x : Li h D items) (k : Keeps h h') : Li h' D items := let ⟨m, e⟩ := x; ⟨m, k _ _ e⟩
theorem Li.lt {h : Heap} {D : Addr} {items : Array Value} (x : Li h D items) : D < h.objs.size := let ⟨_, e⟩ := x; Heap.lt_size e
section
variable {A : Around} {E : Value → Shared → Prop} {s : Shared} {hh : Heap} {tk : Nat} {env : Env}
variable {w : World} {mg mb : Str → Option Value} {m : Str → Option Value} {h₀ : Heap} {L fa : Addr}
theorem k_newList {M : Model} {vs : List Value} {Q : Value → Shared → Prop} (Φ : Fm w mg mb h₀ L m hh) (hl : vs.length ≤ 2 ^ 20)
    (h : ∀ h', Keeps hh h' → Fm w mg mb h₀ L m h' → Li h' hh.objs.size vs.toArray → Q (.ref hh.objs.size) (up s h' tk)) : wpAny M A (newList vs) Q E (up s hh tk) :=
  wpAny_newObj_type (s := up s hh tk) (h _ (fun _ _ e => Heap.get?_push_of_some _ e) (Φ.keeps fun _ _ e => Heap.get?_push_of_some _ e) ⟨0, Heap.get?_push_size _ rfl⟩) (by show vs.toArray.size ≤ sizeLine; rw [List.size_toArray, sizeLine_eq]; omega)
theorem m_append {M : Model} {D : Addr} {items : Array Value} {pl : Sem Bool} {Q : Value × List Value → Shared → Prop} (x : Li hh D items) (h : Q (.builtin "list.append", [.ref D]) (up s hh tk)) :
    wpAny M A (getMethod (.ref D) "append" pl) Q E (up s hh tk) := let ⟨n, e⟩ := x; Calls.getMethod_list_append (s := up s hh tk) e rfl rfl h
theorem r_append {D : Addr} {items : Array Value} {v : Value} {Q : Value → Shared → Prop} (x : Li hh D items) (hsz : items.size ≤ 2 ^ 20)
    (h : ∀ h', Li h' D (items.push v) → KB [D] hh h' → Q .none (up s h' tk)) : wpAny (model pw w) A (call (.builtin "list.append") [.ref D, v]) Q E (up s hh tk) := by
  obtain ⟨n, e⟩ := x
  refine wpAny_call_entry slot_list_append (Heap.IsList.typeIs (s := up s hh tk) ⟨_, e, rfl, n, rfl⟩) entry_list_append ?_ (args_list_append _ _)
  show wpAny _ _ (updateSeq D (·.push v) >>= fun _ => ret .none) _ _ _
  refine wpAny_bind (wpAny_updateSeq (s := up s hh tk) e rfl (wpAny_pure ⟨.none, rfl, h _ ⟨_, Heap.get?_update_self _ e rfl⟩ ?_⟩))
  exact fun b o nb q => (Heap.get?_update_ne _ _ _ _ (fun z => nb (by rw [z]; exact .head _))).trans q
end
noncomputable def SV (l : List (Str × Str)) (kvs : List (Str × Value)) : Prop := match l, kvs with
  | [], [] => True
  | p :: l, q :: kvs => q.1 = p.1 ∧ (∃ t, q.2 = .str p.2 t) ∧ SV l kvs
  | _, _ => False
noncomputable def strPairs : List (Option Expr) → List Expr → Option (List (Str × Str))
  | some (.Constant (.str k) _ _) :: ks, .Constant (.str v) _ _ :: vs => (strPairs ks vs).map ((k, v) :: ·)
  | [], [] => some []
  | _, _ => none
theorem SV.keys : ∀ {l : List (Str × Str)} {kvs : List (Str × Value)}, SV l kvs → kvs.map (·.1) = l.map (·.1)
  | [], [], _ => rfl
  | _ :: _, _ :: _, ⟨a, _, c⟩ => by rw [List.map_cons, List.map_cons, a, SV.keys c]
theorem SV.at (k : Str) : ∀ {l : List (Str × Str)} {kvs : List (Str × Value)}, SV l kvs → (∀ v, (l.find? fun p => p.1 = k).map (·.2) = some v → ∃ t, valueAt kvs k = some (.str v t)) ∧ ((l.find? fun p => p.1 = k).map (·.2) = none → valueAt kvs k = none)
  | [], [], _ => ⟨fun _ h => (by cases h), fun _ => rfl⟩
  | p :: l, q :: kvs, ⟨a, ⟨t, b⟩, c⟩ => by
    have ih := SV.at k c
    unfold valueAt at ih ⊢
    rw [List.find?_cons, List.find?_cons, a]
    by_cases hk : p.1 = k
    · simp only [hk, decide_true]
      refine ⟨fun v h => ⟨t, ?_⟩, fun h => by cases h⟩
      have : p.2 = v := Option.some.inj h
      rw [← this, ← b]; rfl
    · simp only [hk, decide_false]
      exact ih
section
variable {A : Around} {E : Value → Shared → Prop} {s : Shared} {hh : Heap} {tk : Nat} {env : Env}
variable {w : World} {mg mb : Str → Option Value} {m : Str → Option Value} {h₀ : Heap} {L fa : Addr}
theorem strPairs_walk : ∀ (keys : List (Option Expr)) (values : List Expr) (l : List (Str × Str)) (pos : Pos) (tk : Nat) (Q : List (Value × Value) → Shared → Prop), strPairs keys values = some l →
    (∀ vs kvs k, SV l kvs → Carries (strKind pw w) vs kvs → Q vs (up s hh k)) → wpAny (model pw w) A (evalPairs (pairTrees keys values env pos)) Q E (up s hh tk)
  | [], [], l, pos, tk, Q, e, h => by
    cases e
    exact pairTrees_nil_walk (h [] [] tk trivial trivial)
  | [], _ :: _, _, _, _, _, e, _ => by cases e
  | none :: _, _, _, _, _, _, e, _ => by simp [strPairs] at e
  | some k :: ks, [], _, _, _, _, e, _ => by cases k <;> simp [strPairs] at e
  | some k :: ks, v :: vs, l, pos, tk, Q, e, h => by
    unfold strPairs at e
    split at e
    · rename_i ks' p1 p2 ks'' vs' p3 p4 q1 q2
      cases q1; cases q2
      obtain ⟨l', hl', rfl⟩ := Option.map_eq_some_iff.mp e
      refine pairTrees_cons_walk (Calls.Constant_str (s := up s hh tk) (Calls.Constant_str ?_))
      refine strPairs_walk ks vs l' pos (tk + 2) _ hl' fun vs2 kvs2 k2 sv ca => ?_
      exact h _ ((_, _) :: kvs2) k2 ⟨rfl, ⟨_, rfl⟩, sv⟩ ⟨strKind_is _ _ _ _, rfl, ca⟩
    · rename_i q _; cases q
    · cases e
theorem k_dict {keys : List (Option Expr)} {values : List Expr} {pos : Pos} {Q : Value → Shared → Prop} (l : List (Str × Str)) (Φ : Fm w mg mb h₀ L m hh) (e : strPairs keys values = some l)
    (hall : keys.all (·.isSome) = true) (hl : keys.length = values.length) (h0 : keys ≠ []) (hlen : keys.length ≤ 15) (hn : (l.map (·.1)).Nodup)
    (h : ∀ h' kvs k, SV l kvs → Keeps hh h' → Fm w mg mb h₀ L m h' → h'.DictOf (strKind pw w) hh.objs.size kvs → Q (.ref hh.objs.size) (up s h' k)) :
    wpAny (model pw w) A (eval (.Dict keys values pos) env) Q E (up s hh tk) := by
  refine wpAny_Dict_walk (knd := strKind pw w) (s := up s hh tk) hall hl h0 hlen ?_
  refine strPairs_walk (s := s) (hh := hh.push { cls := .type "dict", data := .dict #[] }) keys values l pos tk _ e fun vs kvs k sv ca => ⟨kvs, ca, ?_, fun h' hd sb => ?_⟩
  · exact Heap.DictOf.new hh
  · have kp : Keeps hh h' := fun b o q => (sb.2 b (Nat.ne_of_lt (Heap.lt_size q))).trans (Heap.get?_push_of_some _ q)
    rw [merged_nil_of_nodup kvs (by rw [sv.keys]; exact hn)] at hd
    exact h h' kvs _ sv kp (Φ.keeps kp) hd
end
noncomputable def tl : Nat → List (Str × Str)
  | 0 => [(S [60], S [108, 116, 59]), (S [62], S [103, 116, 59]), (S [34], S [113, 117, 111, 116, 59]), (S [13], S [35, 49, 51, 59]), (S [10], S [35, 49, 48, 59]), (S [9], S [35, 48, 57, 59])]
  | 1 => [(S [62], S [103, 116, 59]), (S [34], S [113, 117, 111, 116, 59])]
  | _ => [(S [60], S [108, 116, 59]), (S [34], S [113, 117, 111, 116, 59]), (S [13], S [35, 120, 68, 59]), (S [10], S [35, 120, 65, 59]), (S [9], S [35, 120, 57, 59])]
theorem S_one (a c : Nat) : (S [a] = S [c]) = (a = c) := by
  refine propext ⟨fun e => ?_, fun e => by rw [e]⟩
  have := congrArg (fun s : Str => s.cps.toList) e
  exact (by simpa using this)
theorem tl_find (h c : Nat) : ((tl h).find? fun p => p.1 = S [c]).map (·.2) = (told h c).map S := by
  match h with
  | 0 => ?_
  | 1 => ?_
  | n + 2 => ?_
  all_goals
    simp only [tl, told, List.find?_cons, List.find?_nil, S_one]
    by_cases h1 : c = 60
    · subst h1; rfl
    by_cases h2 : c = 62
    · subst h2; rfl
    by_cases h3 : c = 34
    · subst h3; rfl
    by_cases h4 : c = 13
    · subst h4; rfl
    by_cases h5 : c = 10
    · subst h5; rfl
    by_cases h6 : c = 9
    · subst h6; rfl
    simp [h1, h2, h3, h4, h5, h6, eq_comm]
theorem shownBy_len (h : Nat) (s : T) : (shownBy h s).length ≤ s.length + 5 := by
  unfold shownBy
  split
  · simp
  · split
    · simp
    · split
      · split
        · rename_i t e
          have : t.length ≤ 5 := by
            unfold told at e
            split at e <;> (repeat' split at e) <;> first | (cases e; decide) | cases e
          simp; omega
        · simp
      · simp
noncomputable def shows (hs : List Nat) (s : T) : T := hs.foldl (fun s h => shownBy h s) s
theorem shows_succ (hs : List Nat) (s : T) (i h : Nat) (e : hs[i]? = some h) : shows (hs.take (i + 1)) s = shownBy h (shows (hs.take i) s) := by
  unfold shows
  rw [List.take_succ, e, List.foldl_append]; rfl
theorem shows_len (c : Nat) : ∀ (hs : List Nat) (s : T), s.length ≤ c → (shows hs s).length ≤ c + 5 * hs.length
  | [], s, h => h
  | a :: hs, s, h => by
    have := shows_len (c + 5) hs (shownBy a s) (by have := shownBy_len a s; omega)
    show (shows hs (shownBy a s)).length ≤ _
    rw [List.length_cons]; omega
theorem shows_one (c : Nat) : ∀ (hs : List Nat), ∃ d r, shows hs [c] = d :: r ∧ (d ≠ 38 → r = []) := by
  intro hs
  have key : ∀ (hs : List Nat) (s : T), (∃ d r, s = d :: r ∧ (d ≠ 38 → r = [])) → ∃ d r, shows hs s = d :: r ∧ (d ≠ 38 → r = []) := by
    intro hs
    induction hs with
    | nil => exact fun s h => h
    | cons a hs ih =>
      rintro s ⟨d, r, rfl, hr⟩
      refine ih (shownBy a (d :: r)) ?_
      unfold shownBy
      dsimp only
      split
      · exact ⟨38, _, rfl, fun h => absurd rfl h⟩
      · rename_i h38
        rw [hr h38]
        dsimp only
        split
        · exact ⟨38, _, rfl, fun h => absurd rfl h⟩
        · exact ⟨d, [], rfl, fun _ => rfl⟩
  exact key hs [c] ⟨c, [], rfl, fun _ => rfl⟩
noncomputable def Ints (items : Array Value) (hs : List Nat) : Prop := items.size = hs.length ∧ ∀ i x : Nat, hs[i]? = some x → ∃ t, items[i]? = some (Value.int (x : Nat) t)
section
variable {A : Around} {E : Value → Shared → Prop} {s : Shared} {hh : Heap} {tk : Nat} {env : Env}
variable {w : World} {mg mb : Str → Option Value}
theorem f893 (P : Params) : (K P).lookup 893 = some ⟨.type "function", none, .func (fnOf "_law_aged" "_law_aged" (dA (st 51)) (dB (st 51)) (dS (st 51)) .none .none .none (.str "law_rt0109_01" 1427) none (.ref 892) .none), #[]⟩ := by kernel_rfl
end
theorem dict_kb {P : Program} {w : World} {X : List Addr} {h h' : Heap} {d : Addr} {kvs : List (Str × Value)} (x : h.DictOf (strKind P w) d kvs) (k : KB X h h') (n : d ∉ X) : h'.DictOf (strKind P w) d kvs :=
  let ⟨o, es, ep, ho, r⟩ := x; ⟨o, es, ep, k _ _ n ho, r⟩
theorem KB.drop {X Y : List Addr} {h h' : Heap} (x : KB Y h h') (s : ∀ p ∈ Y, p ∈ X ∨ h.objs.size ≤ p) : KB X h h' := fun b o n e => x b o (fun m => (s b m).elim n (fun le => absurd (Heap.lt_size e) (Nat.not_lt.mpr le))) e
section
variable {A : Around} {E : Value → Shared → Prop} {s : Shared} {hh : Heap} {tk : Nat} {env : Env}
variable {w : World} {mg mb : Str → Option Value} {m : Str → Option Value} {h₀ : Heap} {L fa : Addr}
theorem G.big (g : G w mg mb hh) : 914 < hh.objs.size := Heap.lt_size (g.X 914 _ rfl)
theorem i_str0 {d : Nat} {r : T} {t u : Tok} {Q : Value → Shared → Prop} (h : Q (.str (S [d]) tk) (up s hh (tk + 1))) : ItemOn (model pw w) A E (.str (S (d :: r)) t) (.int 0 u) Q (up s hh tk) := by
  have e : Txt.charAt (S (d :: r)) 0 = some d := by
    have h1 : seqIndex? 0 (S (d :: r)).length = some 0 := StrLaws.seqIndex_nonneg (by decide) (by rw [S_len, List.length_cons]; omega)
    show (seqIndex? 0 (S (d :: r)).length).bind ((S (d :: r)).cps[·]?) = some d
    rw [h1]; rfl
  refine SB.item (s := up s hh tk) (by decide) (by rw [e]; rfl) ?_
  have e2 : Txt.item (S (d :: r)) 0 = S [d] := by unfold Txt.item; rw [e]; rfl
  rw [e2]; exact h
theorem i_list {l : Addr} {items : Array Value} {i : Nat} {t : Tok} {x : Value} {Q : Value → Shared → Prop} (hl : Li hh l items) (hx : items[i]? = some x) (hi : i < 2 ^ 62) (h : Q x (up s hh tk)) :
    ItemOn (model pw w) A E (.ref l) (.int (i : Nat) t) Q (up s hh tk) :=
  ⟨"list", _, list_getitem_lookup, Heap.IsList.typeIs (s := up s hh tk) hl.is, wpAny_getItem_list (s := up s hh tk) hl.is (by omega) (by omega) (by rw [Int.toNat_natCast]; exact hx) h⟩
theorem i_dict {d : Addr} {kvs : List (Str × Value)} {k : Str} {t : Tok} {v : Value} {Q : Value → Shared → Prop} (hd : hh.DictOf (strKind pw w) d kvs) (hv : valueAt kvs k = some v) (h : Q v (up s hh (tk + 1))) :
    ItemOn (model pw w) A E (.ref d) (.str k t) Q (up s hh tk) :=
  ⟨"dict", _, slot_dict_getitem.lookup, Heap.DictOf.typeIs (s := up s hh tk) hd, wpAny_getItem_of (s := up s hh tk) (strKind_is _ _ _ _) hd.mapOf hv h⟩
theorem r_inD {d : Addr} {kvs : List (Str × Value)} {k : Str} {t : Tok} {Q : Value → Shared → Prop} (hd : hh.DictOf (strKind pw w) d kvs) (hs : (d == sysModules) = false) (h : Q (.bool (valueAt kvs k).isSome) (up s hh (tk + 1))) :
    wpAny (model pw w) A (compareOp .In (.str k t) (.ref d)) Q E (up s hh tk) := wpAny_in_of (s := up s hh tk) (strKind_is _ _ _ _) hs hd.mapOf h
theorem r_eqS {a b : T} {t u : Tok} {Q : Value → Shared → Prop} (h : Q (.bool (decide (a = b))) (up s hh tk)) : wpAny (model pw w) A (compareOp .Eq (.str (S a) t) (.str (S b) u)) Q E (up s hh tk) := by
  refine P.eq_str (s := up s hh tk) ?_
  have e : ((S a).cps.toList == (S b).cps.toList) = decide (a = b) := by
    show (a == b) = decide (a = b)
    by_cases hab : a = b
    · subst hab; simp
    · rw [decide_eq_false hab]; exact beq_eq_false_iff_ne.mpr hab
  rw [e]; exact h
theorem tail_on {value slice : Expr} {o i : Value} {Q : Value → Shared → Prop} (h : ItemOn (model pw w) A E o i Q s) (hs : subscripted slice false o i = operate [o, i] (getItem o i)) :
    wpAny (model pw w) A (subscriptTail value slice o i) Q E s := by
  obtain ⟨T, id, hl, hT, hg⟩ := h
  unfold subscriptTail
  refine wpAny_bind ?_
  rw [getitemInPython_of_ne hT.not_modules]
  refine wpAny_bind (wpAny_specialOf hT hl ?_)
  have fin : wpAny (model pw w) A (subscripted slice false o i) (fun r s₃ => wpAny (model pw w) A (letTemporaryGo value o r >>= fun _ => pure r) Q E s₃) E s := by
    rw [hs]
    exact wpAny_operating (wpAny_mono hg (fun r s₃ h₃ => wpAny_bind (wpAny_letTemporaryGo (wpAny_pure h₃))) fun _ _ x => x)
  first
    | exact wpAny_pure (wpAny_bind fin)
    | exact wpAny_bind (wpAny_pure (wpAny_bind fin))
    | exact wpAny_bind fin
theorem joinS (a : T) : ∀ ts : List T, Str.join (S a) (ts.map S) = S (a.intercalate ts)
  | [] => rfl
  | [x] => by show S x = S _; congr 1; simp [List.intercalate]
  | x :: y :: r => by
    have ih := joinS a (y :: r)
    show S x ++ S a ++ Str.join (S a) ((y :: r).map S) = _
    rw [ih, S_app, S_app]
    congr 1
    simp [List.intercalate]
theorem r_join {a : T} {D : Addr} {l : List (Str × Tok)} {ts : List T} {u : Tok} {Q : Value → Shared → Prop} (hD : hh.IsList D (strValues l).toArray) (ht : l.map (·.1) = ts.map S) (B : Nat) (hB : ∀ x ∈ ts, x.length ≤ B) (hf : ts.length * B + ts.length * a.length ≤ 2 ^ 24)
    (h : ∀ t' k, Q (.str (S (a.intercalate ts)) t') (up s hh k)) : wpAny (model pw w) A (call (.builtin "str.join") [.str (S a) u, .ref D]) Q E (up s hh tk) := by
  refine SC.join (s := up s hh tk) hD ht ?_ fun t' k => ?_
  · unfold JoinOk
    rw [Bool.not_eq_true']
    refine StrLaws.joinFits (B := B) (fun y hy => ?_) ?_
    · obtain ⟨x, hx, rfl⟩ := List.mem_map.mp hy
      exact hB x hx
    · rw [List.length_map, S_len]; omega
  · have e : Txt.join (S a) (ts.map S) = S (a.intercalate ts) := (StrLaws.glued_eq_join _ _).trans (joinS a ts)
    rw [e]; exact h t' k
end
theorem dict_lt {P : Program} {w : World} {h : Heap} {d : Addr} {kvs : List (Str × Value)} (x : h.DictOf (strKind P w) d kvs) : d < h.objs.size := let ⟨_, _, _, ho, _⟩ := x; Heap.lt_size ho
theorem told_at {w : World} {X : List Addr} {h : Heap} {v : Array Value} (d0 d1 d2 : Nat) {kv2 kv3 kv4 : List (Str × Value)} (hv : v = #[Value.ref d0, Value.ref d1, Value.ref d2])
    (e2 : h.DictOf (strKind pw w) d0 kv2) (sv2 : SV (tl 0) kv2) (b2 : 914 < d0) (e3 : h.DictOf (strKind pw w) d1 kv3) (sv3 : SV (tl 1) kv3) (b3 : 914 < d1)
    (e4 : h.DictOf (strKind pw w) d2 kv4) (sv4 : SV (tl 2) kv4) (b4 : 914 < d2) (x : Nat) (hx : x < 3) :
    ∃ (dd : Nat) (kvs : List (Str × Value)), v[x]? = some (Value.ref dd) ∧ h.DictOf (strKind pw w) dd kvs ∧ SV (tl x) kvs ∧ ((dd : Addr) == sysModules) = false := by
  subst hv
  have sy : ∀ dd : Nat, 914 < dd → ((dd : Addr) == sysModules) = false := fun dd h => beq_eq_false_iff_ne.mpr (fun e => by have : dd = 1 := e; omega)
  match x, hx with
  | 0, _ => exact ⟨d0, kv2, rfl, e2, sv2, sy _ b2⟩
  | 1, _ => exact ⟨d1, kv3, rfl, e3, sv3, sy _ b3⟩
  | 2, _ => exact ⟨d2, kv4, rfl, e4, sv4, sy _ b4⟩
theorem ni1 {a b : Nat} (h : a ≠ b) : a ∉ [b] := by simpa using h
theorem ni2 {a b c : Nat} (h : a ≠ b) (h2 : a ≠ c) : a ∉ [b, c] := by simp [h, h2]
theorem ni3 {a b c d : Nat} (h : a ≠ b) (h2 : a ≠ c) (h3 : a ≠ d) : a ∉ [b, c, d] := by simp [h, h2, h3]
local macro_rules | `(tactic| walk_at "x3") => `(tactic| first | (refine ni1 ?_; walk_at "x2") | (refine ni2 ?_ ?_ <;> walk_at "x2") | (refine ni3 ?_ ?_ ?_ <;> walk_at "x2"))
section
variable {A : Around} {E : Value → Shared → Prop} {s : Shared} {hh : Heap} {tk : Nat} {env : Env}
variable {w : World} {mg mb : Str → Option Value}
theorem c_aged {t : T} {u : Tok} {H : Nat} {items : Array Value} {hs : List Nat} {Q : Value → Shared → Prop} (g : G w mg mb hh) (hroom : A.depth < recursionLimit) (hA : A.handled = none)
    (ht : t.length ≤ 16) (hH : Li hh H items) (hi : Ints items hs) (hlt3 : ∀ x ∈ hs, x < 3) (hl : hs.length ≤ 3) (h : ∀ h' k t', Keeps hh h' → Q (.str (S (aged hs t)) t') (up s h' k)) :
    wpAny (model pw w) A (call (.ref 893) [.str (S t) u, .ref H]) Q E (up s hh tk) := by
  refine call_pure [("text", .str (S t) u), ("hands", .ref H)] g hroom (f893 _) (by kernel_rfl) (.of_eq (by rfl)) fun h₁ L k hL Φ hk => ?_
  refine q_cons ?_
  walk_at "hs q_asn;r q_list;he q_acons"
  (with_reducible refine k_dict (tl 0) Φ ?ex0 ?ax0 ?bx0 ?cx0 ?dx0 ?nx0 ?hx0); (case ex0 => kernel_rfl); (case ax0 => rfl); (case bx0 => rfl); (case cx0 => exact List.cons_ne_nil _ _); (case dx0 => exact Nat.le_of_ble_eq_true rfl); (case nx0 => decide +kernel)
  intro h2 kv2 k2 sv2 kp2 Φ2 hd2
  walk_at "he q_acons"
  (with_reducible refine k_dict (tl 1) Φ2 ?ex1 ?ax1 ?bx1 ?cx1 ?dx1 ?nx1 ?hx1); (case ex1 => kernel_rfl); (case ax1 => rfl); (case bx1 => rfl); (case cx1 => exact List.cons_ne_nil _ _); (case dx1 => exact Nat.le_of_ble_eq_true rfl); (case nx1 => decide +kernel)
  intro h3 kv3 k3 sv3 kp3 Φ3 hd3
  walk_at "he q_acons"
  (with_reducible refine k_dict (tl 2) Φ3 ?ex2 ?ax2 ?bx2 ?cx2 ?dx2 ?nx2 ?hx2); (case ex2 => kernel_rfl); (case ax2 => rfl); (case bx2 => rfl); (case cx2 => exact List.cons_ne_nil _ _); (case dx2 => exact Nat.le_of_ble_eq_true rfl); (case nx2 => decide +kernel)
  intro h4 kv4 k4 sv4 kp4 Φ4 hd4
  walk_at "r args_nil"
  refine k_newList Φ4 (by simp) fun h5 kp5 Φ5 hTd => ?_
  walk_at "sB;r q_cons;hs q_asn;r q_list;r args_nil"
  rename_i h6 Φ6 kb6
  refine k_newList Φ6 (by decide) fun h7 kp7 Φ7 hD => ?_
  walk_at "sB;r q_cons"
  rename_i h8 Φ8 kb8
  refine q_for ?_
  walk_at "l n_loc"
  refine p_str Φ8 fun h9 St kp9 Φ9 W st => ?_
  have hi' := hi
  have h3' := hlt3
  have hL' : @Eq Nat L hh.objs.size := hL
  have big : 914 < hh.objs.size := g.big
  have o0 : L < h₁.objs.size := Φ.lt
  have o1 : hh.objs.size < h₁.objs.size := hL ▸ Φ.lt
  have o2 : h₁.objs.size < h2.objs.size := dict_lt hd2
  have o3 : h2.objs.size < h3.objs.size := dict_lt hd3
  have o4 : h3.objs.size < h4.objs.size := dict_lt hd4
  have o6 : h4.objs.size < h6.objs.size := (hTd.kb kb6 (by walk_at "x3")).lt
  have o8 : h6.objs.size < h8.objs.size := (hD.kb kb8 (by walk_at "x3")).lt
  have HL : H < hh.objs.size := hH.lt
  have Td9 : Li h9 h4.objs.size _ := ((hTd.kb kb6 (by walk_at "x3")).keeps kp7).kb (kb8.trans (KB.of kp9)) (by walk_at "x3")
  have D9 : Li h9 h6.objs.size _ := hD.kb (kb8.trans (KB.of kp9)) (by walk_at "x3")
  have H9 : Li h9 H items := hH.keeps Φ9.kept
  have e2 : h9.DictOf (strKind pw w) h₁.objs.size kv2 := dict_kb (X := [L]) hd2 (by walk_at "kb") (by walk_at "x3")
  have e3 : h9.DictOf (strKind pw w) h2.objs.size kv3 := dict_kb (X := [L]) hd3 (by walk_at "kb") (by walk_at "x3")
  have e4 : h9.DictOf (strKind pw w) h3.objs.size kv4 := dict_kb (X := [L]) hd4 (by walk_at "kb") (by walk_at "x3")
  refine loop_W (W (A.deeper _) hA) [h6.objs.size] ?_ ?_
    (fun i m h => m "told" = some (.ref h4.objs.size) ∧ m "out" = some (.ref h6.objs.size) ∧ m "hands" = some (.ref H) ∧ ∃ l : List (Str × Tok), Li h h6.objs.size (strValues l).toArray ∧ l.map (·.1) = (t.take i).map (fun c => S (agedC hs c)))
    ?_ Φ9 st ⟨rfl, rfl, rfl, [], D9, rfl⟩ (by kernel_rfl) (by kernel_rfl) ?_ ?_
  · intro b hb
    obtain rfl := List.mem_singleton.mp hb
    exact ⟨ni1 (by walk_at "x2"), show @Ne Nat _ _ by walk_at "x2"⟩
  · intro b hb
    obtain rfl := List.mem_singleton.mp hb
    show @LE.le Nat _ _ _
    omega
  · rintro i m h h' ⟨a, b, c, l, x, y⟩ kb
    exact ⟨a, b, c, l, x.kb kb (by walk_at "x3"), y⟩
  · rintro i v1 m' h10 k10 hi ⟨c, u1, hc, rfl⟩ kb10 ⟨hto, hou, hha, l, Dl, hll⟩ Φ10 hk10
    have hc' : t[i]? = some c := by simpa using hc
    refine nameQ fun Qt1 hQt1 => ?_
    refine q_cons ?_
    walk_at "hs q_asn;l n_loc;sB;r q_cons"
    rename_i h11 Φ11 kb11
    have T11 : Li h11 h4.objs.size _ := (Td9.kb kb10 (by walk_at "x3")).kb kb11 (by walk_at "x3")
    have D11 := Dl.kb kb11 (by walk_at "x3")
    have H11 := (H9.kb kb10 (by walk_at "x3")).kb kb11 (by walk_at "x3")
    have e2' := dict_kb (dict_kb e2 kb10 (by walk_at "x3")) kb11 (by walk_at "x3")
    have e3' := dict_kb (dict_kb e3 kb10 (by walk_at "x3")) kb11 (by walk_at "x3")
    have e4' := dict_kb (dict_kb e4 kb10 (by walk_at "x3")) kb11 (by walk_at "x3")
    refine q_for ?_
    refine n_loc Φ11 hha ?_ (by kernel_rfl) (by kernel_rfl)
    refine p_list Φ11 H11.is fun h12 kp12 Φ12 hi12 hl12 => ?_
    have o11 : h6.objs.size < h11.objs.size := D11.lt
    have HI : H ≠ h11.objs.size := Nat.ne_of_lt H11.lt
    refine loop_W (Walks.list (A := A.deeper _) hA h11.objs.size H HI items) [] ?_ ?_
      (fun j m _ => m "told" = some (.ref h4.objs.size) ∧ m "out" = some (.ref h6.objs.size) ∧ m "hands" = some (.ref H) ∧ ∃ q, m "shown" = some (.str (S (shows (hs.take j) [c])) q))
      (fun _ _ _ _ j _ => j) Φ12 ⟨hi12, hl12⟩ ⟨hto, hou, hha, _, rfl⟩ (by kernel_rfl) (by kernel_rfl) ?_ ?_
    · intro b hb
      simp only [List.mem_cons, List.not_mem_nil, or_false] at hb
      rcases hb with rfl | rfl
      · exact ⟨List.not_mem_nil, show @Ne Nat _ _ by walk_at "x2"⟩
      · exact ⟨List.not_mem_nil, show @Ne Nat _ _ by walk_at "x2"⟩
    · intro b hb
      obtain rfl := List.mem_singleton.mp hb
      show @LE.le Nat _ _ _
      omega
    · rintro j v2 m2 h13 k13 hj hv2 kb13 ⟨jto, jou, jha, q, jsh⟩ Φ13 hk13
      obtain ⟨d, r, hsr, hd38⟩ := shows_one c (hs.take j)
      rw [hsr] at jsh
      have hjl : j < hs.length := by have := hi'.1; omega
      obtain ⟨x, hx⟩ : ∃ x, hs[j]? = some x := ⟨_, List.getElem?_eq_getElem hjl⟩
      obtain ⟨tx, hx2⟩ := hi'.2 j x hx
      rw [hx2] at hv2
      obtain rfl := Option.some.inj hv2
      have hx3 : x < 3 := h3' x (List.mem_of_getElem? hx)
      have hnext : shows (hs.take (j + 1)) [c] = shownBy x (d :: r) := by rw [shows_succ hs [c] j x hx, hsr]
      have hlen : (d :: r).length ≤ 16 := by
        rw [← hsr]
        have := shows_len 1 (hs.take j) [c] (by simp)
        have h4 : (hs.take j).length ≤ 3 := by rw [List.length_take]; omega
        omega
      have jsh' : (upd m2 "hand" (.int (x : Nat) tx)) "shown" = some (.str (S (d :: r)) q) := jsh
      have jto' : (upd m2 "hand" (.int (x : Nat) tx)) "told" = some (.ref h4.objs.size) := jto
      refine nameQ fun Qt2 hQt2 => ?_
      refine q_cons ?_
      walk_at "r q_If;hm q_ctest;ht Subscript_Constant;l n_loc;r k_int"
      refine i_str0 ?_
      refine k_str [38] (by kernel_rfl) ?_
      refine r_eqS ?_
      walk_at "r wpAny_truthy_bool"
      refine ite_b (fun hd => ?_) fun hd => ?_
      · have hd' : d = 38 := by simpa using hd
        subst hd'
        walk_at "r q_cons;hs q_asn;r q_bin"
        refine k_str [38, 97, 109, 112, 59] (by kernel_rfl) ?_
        refine s_from (by intro _ _; rfl) ?_
        walk_at "l n_loc;r k_int"
        refine ⟨_, _, _, _, _, _, 1, rfl, rfl, rfl, by simp, by omega, rfl, fun h14 k14 t14 kp14 => ?_⟩
        have Φ14 := Fm.keeps (by assumption) kp14
        refine r_add (by simp only [List.length_cons, List.length_nil, List.drop_succ_cons, List.drop_zero] at hlen ⊢; omega) fun t15 k15 hk15 => ?_
        walk_at "sB;r q_nil;r q_nil"
        rename_i h16 Φ16 kb16
        subst hQt2
        refine ⟨_, _, _, rfl, Φ16, ⟨jto, jou, jha, t15, by rw [hnext]; rfl⟩, ?_⟩
        walk_at "kb"
      · have hd' : d ≠ 38 := by simpa using hd
        have hr0 := hd38 hd'
        subst hr0
        have T13 : Li h13 h4.objs.size _ := (T11.keeps kp12).kb kb13 (by walk_at "x3")
        have f1 := told_at (w := w) (X := L :: ([h11.objs.size] ++ [])) (h := h13) (v := #[Value.ref h₁.objs.size, Value.ref h2.objs.size, Value.ref h3.objs.size]) h₁.objs.size h2.objs.size h3.objs.size rfl
          (dict_kb (dict_kb (X := []) e2' (KB.of kp12) List.not_mem_nil) kb13 (ni2 (by walk_at "x2") (by walk_at "x2"))) sv2 (by walk_at "x2")
          (dict_kb (dict_kb (X := []) e3' (KB.of kp12) List.not_mem_nil) kb13 (ni2 (by walk_at "x2") (by walk_at "x2"))) sv3 (by walk_at "x2")
          (dict_kb (dict_kb (X := []) e4' (KB.of kp12) List.not_mem_nil) kb13 (ni2 (by walk_at "x2") (by walk_at "x2"))) sv4 (by walk_at "x2") x hx3
        obtain ⟨dd, kvs, hdx, hdd, svx, hsy⟩ := f1
        obtain ⟨at1, at2⟩ := svx.at (S [d])
        rw [tl_find] at at1 at2
        walk_at "r q_cons;r q_If;hm q_ctest;l n_loc;ht q_sname;l n_loc;l n_loc"
        refine i_list T13 hdx (by walk_at "x2") ?_
        with_reducible refine r_inD hdd hsy ?_
        have hshow : shownBy x [d] = match told x d with | some t => 38 :: t | none => [d] := by
          show (if d = 38 then [38, 97, 109, 112, 59] ++ [] else (match told x d with | some t => 38 :: t | none => [d])) = _
          rw [if_neg hd']
        cases htold : told x d with
        | none =>
          rw [at2 (by rw [htold]; rfl), show (none : Option Value).isSome = false from rfl]
          walk_at "r wpAny_truthy_bool;r q_nil;r q_nil;r q_nil"
          subst hQt2
          refine ⟨_, _, _, rfl, Φ13, ⟨jto, jou, jha, q, by rw [hnext, hshow]; rw [htold]; exact jsh⟩, ?_⟩
          walk_at "kb"
        | some tt =>
          obtain ⟨tv, hat⟩ := at1 (S tt) (by rw [htold]; rfl)
          have htt : tt.length ≤ 16 := by
            have := shownBy_len x [d]
            rw [hshow, htold] at this
            simp at this; omega
          rw [hat, show ∀ v : Value, (some v).isSome = true from fun _ => rfl]
          walk_at "r wpAny_truthy_bool;r q_cons;hs q_asn;r q_bin"
          refine k_str [38] (by kernel_rfl) ?_
          with_reducible refine Subscript_ ?_
          walk_at "ht q_sname;l n_loc;l n_loc"
          refine i_list T13 hdx (by walk_at "x2") ?_
          walk_at "l n_loc"
          refine tail_on (i_dict hdd hat ?_) rfl
          refine r_add (by simp only [List.length_cons, List.length_nil]; omega) fun t15 k15 hk15 => ?_
          walk_at "sB;r q_nil;r q_nil;r q_nil"
          rename_i h16 Φ16 kb16
          subst hQt2
          refine ⟨_, _, _, rfl, Φ16, ⟨jto, jou, jha, t15, by rw [hnext, hshow]; rw [htold]; rfl⟩, ?_⟩
          walk_at "kb"
    · rintro m2 h13 k13 kb13 ⟨jto, jou, jha, q, jsh⟩ Φ13
      dsimp only
      have D13 := (D11.keeps kp12).kb kb13 (ni2 (by walk_at "x2") (by walk_at "x2"))
      have kb14 : KB [L] h11 h13 := KB.drop ((KB.of kp12).trans kb13) (fun p hp => by
        simp only [List.mem_cons, List.mem_append, List.not_mem_nil, or_false] at hp
        rcases hp with rfl | rfl
        · exact .inl (.head _)
        · exact .inr (Nat.le_refl _))
      walk_at "r q_cons;X;M;l n_loc"
      refine m_append D13 ?_
      walk_at "hp q_cm;he q_acons;l n_loc;r args_nil"
      have hlen2 : l.length ≤ 16 := by
        have := congrArg List.length hll
        simp only [List.length_map, List.length_take] at this
        omega
      refine r_append D13 (by simp [strValues]; omega) fun h15 D15 kb15 => ?_
      walk_at "r q_nil"
      have hfull : hs.take items.size = hs := by rw [hi'.1, List.take_length]
      rw [hfull] at jsh
      subst hQt1
      refine ⟨_, _, _, rfl, Φ13.kb kb15 (ni1 (by walk_at "x2")) (fun b hb => by obtain rfl := List.mem_singleton.mp hb; show @LE.le Nat _ _ _; walk_at "x2"), ⟨jto, jou, jha, l ++ [(S (agedC hs c), q)], ?_, ?_⟩, ?_⟩
      · have e : (strValues (l ++ [(S (agedC hs c), q)])).toArray = (strValues l).toArray.push (.str (S (shows (hs.take items.size) [c])) q) := by
          rw [hfull]; simp [strValues]; rfl
        rw [e]; exact D15
      · rw [List.map_append, hll, List.take_succ, hc', List.map_append]; rfl
      · exact ((kb11.trans kb14).mono (by intro p hp; simp at hp; simp [hp])).trans (kb15.mono (by intro p hp; simp at hp; simp [hp]))
  · rintro m' h10 k10 kb10 ⟨hto, hou, hha, l, Dl, hll⟩ Φ10
    dsimp only
    walk_at "r q_cons;r q_ret;M"
    refine k_str [] (by kernel_rfl) ?_
    walk_at "r GM.join;hp q_cm;he q_acons;l n_loc;r args_nil"
    have hts : t.take (S t).cps.size = t := by
      have : (S t).cps.size = t.length := rfl
      rw [this, List.take_length]
    rw [hts] at hll
    refine r_join (a := []) (ts := t.map (agedC hs)) Dl.is (by rw [hll, List.map_map]; rfl) 16 ?_ ?_ fun t' k' => ?_
    · intro x hx
      obtain ⟨c, _, rfl⟩ := List.mem_map.mp hx
      have := shows_len 1 hs [c] (by simp)
      have e : agedC hs c = shows hs [c] := rfl
      rw [e]; omega
    · simp only [List.length_map, List.length_nil]; omega
    · have e : ([] : T).intercalate (t.map (agedC hs)) = aged hs t := by
        unfold aged
        rw [List.flatMap_def]
        have : ∀ ts : List T, ([] : T).intercalate ts = ts.flatten := by
          intro ts
          induction ts with
          | nil => rfl
          | cons x r ih =>
            cases r with
            | nil => simp [List.intercalate]
            | cons y r => simp [List.intercalate] at ih ⊢; exact ih
        exact this _
      rw [e]
      exact h _ _ _ Φ10.kept
end
structure Ob (ns : List Str) (h : Heap) (x C dx : Addr) (m : Str → Option Value) : Prop where
  obj : h.get? x = some (instObj C dx)
  dic : h.Ns1 dx m
  ne : dx ≠ x
  wi : Within m ns
theorem Ob.at {ns : List Str} {h h' : Heap} {x C dx : Addr} {m : Str → Option Value} (O : Ob ns h x C dx m) (k1 : ∀ o, h.get? x = some o → h'.get? x = some o) (k2 : ∀ o, h.get? dx = some o → h'.get? dx = some o) : Ob ns h' x C dx m := ⟨k1 _ O.obj, O.dic.at k2, O.ne, O.wi⟩
theorem Ob.keeps {ns : List Str} {h h' : Heap} {x C dx : Addr} {m : Str → Option Value} (O : Ob ns h x C dx m) (k : Keeps h h') : Ob ns h' x C dx m := O.at (k _) (k _)
theorem Ob.kb {ns : List Str} {X : List Addr} {h h' : Heap} {x C dx : Addr} {m : Str → Option Value} (O : Ob ns h x C dx m) (k : KB X h h') (n1 : x ∉ X) (n2 : dx ∉ X) : Ob ns h' x C dx m := O.at (fun o => k x o n1) (fun o => k dx o n2)
theorem Ob.lt {ns : List Str} {h : Heap} {x C dx : Addr} {m : Str → Option Value} (O : Ob ns h x C dx m) : x < h.objs.size := Heap.lt_size O.obj
theorem Ob.dlt {ns : List Str} {h : Heap} {x C dx : Addr} {m : Str → Option Value} (O : Ob ns h x C dx m) : dx < h.objs.size := O.dic.ns.lt
theorem Ob.inst {ns : List Str} {h : Heap} {x C dx : Addr} {m : Str → Option Value} (O : Ob ns h x C dx m) : ∃ od, InstAt h x (instObj C dx) C (some od) ∧ ∀ n, lookIn n od = some (m n) := by
  obtain ⟨ho, ⟨od, es, ep, hd, hdd, hk, hu, hf⟩, hne, _⟩ := O
  refine ⟨od, ⟨ho, rfl, rfl, hd⟩, fun n => ?_⟩
  unfold lookIn
  rw [hdd]
  dsimp only
  have h1 := hf n
  unfold nsFind findBy at h1
  rw [← Array.find?_toList] at h1
  cases q : es.toList.find? fun x => x.key.isStr n with
  | some e => rw [q] at h1; rw [← h1]; rfl
  | none =>
    rw [q] at h1
    rw [← h1]
    have h2 : (es.toList.any fun x => x.refKey) = false := by
      rw [List.any_eq_false]
      intro e he
      obtain ⟨n', t', h3⟩ := hk e (Array.mem_toList_iff.mp he)
      simp [DictEntry.refKey, h3]
    dsimp only
    rw [h2]; rfl
structure Cls (P : Params) (C : Addr) : Prop where
  hd : (clsIn (K P) C).any (·.hasDict) = true
  ga : findIn (K P) (.ref C) "__getattribute__" = some (some (.builtin "object.__getattribute__"))
  sa : findIn (K P) (.ref C) "__setattr__" = some (some (.builtin "object.__setattr__"))
  ha : findIn (K P) (.ref C) "__getattr__" = some none
  po : plainOver (K P) C = true
theorem cls732 (P : Params) : Cls P 732 := ⟨by kernel_rfl, by kernel_rfl, by kernel_rfl, by kernel_rfl, by kernel_rfl⟩
theorem cls597 (P : Params) : Cls P 597 := ⟨by kernel_rfl, by kernel_rfl, by kernel_rfl, by kernel_rfl, by kernel_rfl⟩
section
variable {A : Around} {E : Value → Shared → Prop} {s : Shared} {hh : Heap} {tk : Nat} {env : Env}
variable {w : World} {mg mb : Str → Option Value} {ns : List Str} {x C dx : Addr} {m : Str → Option Value} {name : Str} {v : Value}
theorem get_ob {expr : Bool} {Q : Value → Shared → Prop} (X : (K w.params).In hh) (c : Cls w.params C) (O : Ob ns hh x C dx m) (hv : m name = some v) (hf : findIn (K w.params) (.ref C) name = some none) (hh' : handedIn v = true)
    (h : Q v (up s hh (tk + 1))) : wpAny (model pw w) A (getAttr (.ref x) name expr) Q E (up s hh tk) := by
  obtain ⟨od, I, hl⟩ := O.inst
  refine get_value (s := up s hh tk) X I c.ga ?_ hh' h
  obtain ⟨cd, hc, hd⟩ := any_some c.hd
  unfold findObj
  rw [hc, hf]
  have := hl name
  rw [hv] at this
  simp [PySem.W.ownOf, hd, this]
theorem meth_ob {pl : Sem Bool} {f : Addr} {Q : Value × List Value → Shared → Prop} (X : (K w.params).In hh) (c : Cls w.params C) (O : Ob ns hh x C dx m) (hv : m name = none) (hf : findIn (K w.params) (.ref C) name = some (some (.ref f))) (hfn : typeIn (K w.params) (.ref f) = some (.type "function"))
    (h : Q (.ref f, [.ref x]) (up s hh tk)) : wpAny (model pw w) A (getMethod (.ref x) name pl) Q E (up s hh tk) := by
  obtain ⟨od, I, hl⟩ := O.inst
  have T : Looks (model pw w) hh (typeOf (.ref x)) (.ref C) := I.type
  have T1 := looks_findIn (M := model pw w) X c.ga
  have T2 := looks_findIn (M := model pw w) X c.ha
  have T3 := looks_findIn (M := model pw w) X hf
  have T4 := looks_typeIn (M := model pw w) X hfn
  have T5 := O.obj
  have hcan := F.canon_object_ga
  unfold getMethod specialOf
  refine wpAny_bind (wpAny_bind (T.at (T1.at ?_)))
  dsimp only
  rw [if_neg (by rw [hcan]; simp)]
  refine wpAny_bind (wpAny_bind (T.at (T2.at ?_)))
  rw [if_neg (by simp)]
  refine wpAny_bind (wpAny_bind (T.at (T3.at ?_)))
  dsimp only
  refine wpAny_bind (T4.at ?_)
  rw [if_neg (by decide)]
  refine wpAny_bind (wpAny_loadPart T5 ?_)
  dsimp only
  refine wpAny_bind (wpAny_nsGet O.dic.ns ?_)
  rw [hv]
  rw [if_neg (by simp)]
  exact wpAny_bind (wpAny_rule (wpAny_pure h))
theorem set_ob {Q : Unit → Shared → Prop} (X : (K w.params).In hh) (c : Cls w.params C) (O : Ob ns hh x C dx m) (hf : findIn (K w.params) (.ref C) name = some none) (hn : name ∈ ns) (hz : ns.length ≤ 100)
    (h : ∀ h' k, Ob ns h' x C dx (upd m name v) → KB [dx] hh h' → Q () (up s h' k)) : wpAny (model pw w) A (setAttr (.ref x) name v) Q E (up s hh tk) := by
  obtain ⟨od, I, hl⟩ := O.inst
  refine set_plain (s := up s hh tk) X I c.sa (osa_open (s := up s hh (tk + 1)) X I c.po (r := none) (by unfold takerIn; rw [hf]; rfl) fun b => ?_)
  obtain ⟨cd, hc, hd'⟩ := any_some c.hd
  refine wpAny_bind (wpAny_pure (wpAny_bind (wpAny_bind (wpAny_loadPart O.obj (wpAny_bind ((looks_clsIn X hc).here ?_))))))
  rw [hd']
  refine wpAny_pure (a := some dx) (wpAny_bind (wpAny_pure (wpAny_bind (wpAny_nsSet1 O.dic fun h' hn' hs => ?_))))
  have wi : Within (upd m name v) ns := fun y hy => by
    by_cases e : y = name
    · rw [e]; exact hn
    · exact O.wi y fun h0 => hy (by show (if y = name then some v else m y) = none; rw [if_neg e]; exact h0)
  obtain ⟨oD, esD, epD, hoD, hdD, hcD⟩ := hn'.count wi
  refine wpAny_bind (wpAny_lookBehind hoD (by rw [hdD]; exact pastItsLine_dict (Nat.le_trans hcD (by rw [sizeLine_eq]; omega))) ?_)
  refine wpAny_pure (h h' _ ⟨(hs.2 x (Ne.symm O.ne)).trans O.obj, hn', O.ne, wi⟩ fun b o nb e => (hs.2 b fun q => nb (by rw [q]; exact .head _)).trans e)
end
structure On (w : World) (mg mb : Str → Option Value) (b₀ h : Heap) : Prop where
  g : G w mg mb b₀
  k : Keeps b₀ h
  z : b₀.objs.size ≤ h.objs.size
theorem On.gg {w : World} {mg mb : Str → Option Value} {b₀ h : Heap} (o : On w mg mb b₀ h) : G w mg mb h := o.g.keeps o.k
theorem Fm.on {w : World} {mg mb : Str → Option Value} {h₀ : Heap} {L : Addr} {m : Str → Option Value} {h : Heap} (Φ : Fm w mg mb h₀ L m h) : On w mg mb h₀ h := ⟨Φ.G, Φ.F.keep, Φ.le⟩
theorem G.on {w : World} {mg mb : Str → Option Value} {h : Heap} (g : G w mg mb h) : On w mg mb h h := ⟨g, fun _ _ e => e, Nat.le_refl _⟩
theorem call_on {w : World} {mg mb : Str → Option Value} {A : Around} {E : Value → Shared → Prop} {s : Shared} {hh b₀ : Heap} {tk : Nat} {Q : Value → Shared → Prop} {f : Addr} {args : List Value} {kw : List (Str × Value)} (binds : List (Str × Value))
    {name qual : Str} {d : Stmt} {dV kV doc pm cdv ct oc : Value} {an od : Option Addr} {osl : Array (Option Value)}
    (o : On w mg mb b₀ hh) (hroom : A.depth < recursionLimit)
    (ho : (K w.params).lookup f = some ⟨oc, od, .func (fnOf name qual (dA d) (dB d) (dS d) dV kV doc pm an cdv ct), osl⟩) (hcd : codeIn (K w.params) cdv qual = true)
    (hbind : BindsTo (up s hh tk) (fnOf name qual (dA d) (dB d) (dS d) dV kV doc pm an cdv ct) ⟨args, kw⟩ binds)
    (h : ∀ h₁ L k, L = hh.objs.size → Keeps hh h₁ → Fm w mg mb b₀ L (fun x => binds.reverse.lookup x) h₁ → 0 < k →
      wpAny (model pw w) (A.deeper (envOf qual (dS d) L f cdv)) (execs (dB d) (envOf qual (dS d) L f cdv))
        (fun fl s' => Q (match fl with | .ret v => v | _ => .none) s')
        (fun e s' => wpAny (model pw w) (A.deeper (envOf qual (dS d) L f cdv)) (leaving (envOf qual (dS d) L f cdv) e) (fun _ s'' => E e s'') (fun e' s'' => E e' s'') s') (up s h₁ k))
    (hne : binds.isEmpty = false := by rfl) (hloc : (binds.all fun y => (dS d).names.lookup y.1 == some .local) = true := by rfl)
    (hco : (dS d).isCoroutine = false := by rfl) (hgen : (dS d).isGenerator = false := by rfl) (hk : (dS d).kind = .function := by rfl)
    (hcell : ((dS d).names.all fun x => x.2 != .cell) = true := by rfl) : wpAny (model pw w) A (call (.ref f) args kw) Q E (up s hh tk) := by
  have g' := o.gg
  refine wpAny_call (codeAny_call_def (s := up s hh tk) (fd := fnOf name qual (dA d) (dB d) (dS d) dV kV doc pm an cdv ct) (body := dB d) (binds := binds) hroom (g'.X _ _ ho) rfl g'.T.nolimit (codeRec_of g'.X hcd) rfl hbind (fun x hx => bne_iff_ne.mp (List.all_eq_true.mp hcell x hx)) (fun y hy => beq_iff_eq.mp (List.all_eq_true.mp hloc y hy)) (fun h₁ hns hk₁ => ?_) hco hgen hk)
  exact h h₁ _ _ rfl hk₁ ⟨⟨hns, fun b ob e => hk₁ b ob (o.k b ob e), o.z⟩, o.g⟩ (Nat.lt_of_lt_of_le (List.length_pos_iff.mpr (by rintro rfl; cases hne)) (Nat.le_add_left _ _))
section
variable {A : Around} {E : Value → Shared → Prop} {s : Shared} {hh b₀ : Heap} {tk : Nat} {env : Env}
variable {w : World} {mg mb : Str → Option Value} {ns : List Str} {x C dx : Addr} {m mA : Str → Option Value} {name : Str} {v : Value} {L fa : Addr} {nm : Str} {sc : Scope} {cd : Value}
theorem e_attr {y attr : Str} {py pos : Pos} {Q : Value → Shared → Prop} (Φ : Fm w mg mb b₀ L m hh) (hy : m y = some (.ref x)) (c : Cls w.params C) (O : Ob ns hh x C dx mA) (hv : mA attr = some v) (h : Q v (up s hh (tk + 1)))
    (hk : sc.kind = .function) (hl : (envOf nm sc L fa cd).kindOf y = some .local) (hd : (y == ("__debug__" : Str)) = false) (hf : findIn (K w.params) (.ref C) attr = some none) (hh' : handedIn v = true) :
    wpAny (model pw w) A (eval (.Attribute (.Name y py) attr pos) (envOf nm sc L fa cd)) Q E (up s hh tk) :=
  Attribute_Name_ (n_loc (s := up s hh tk) Φ hy (get_ob Φ.gg.X c O hv hf hh' h) hk hl hd)
end
section
variable {A : Around} {E : Value → Shared → Prop} {s : Shared} {hh b₀ : Heap} {tk : Nat} {env : Env}
variable {w : World} {mg mb : Str → Option Value} {m : Str → Option Value} {L fa : Addr} {nm : Str} {sc : Scope} {cd : Value}
noncomputable def ioN : List Str := ["_StringIO__newline", "_StringIO__buf", "_StringIO__pos"]
noncomputable def ioM (nl buf pos : Value) : Str → Option Value := fun y => if y = "_StringIO__pos" then some pos else if y = "_StringIO__buf" then some buf else if y = "_StringIO__newline" then some nl else none
noncomputable abbrev Io (h : Heap) (x dx : Addr) (nl buf pos : Value) : Prop := Ob ioN h x 597 dx (ioM nl buf pos)
theorem io_pos {nl buf pos v : Value} : upd (ioM nl buf pos) (Str.ofString "_StringIO__pos") v = ioM nl buf v := by
  funext y; simp only [upd, ioM]; split <;> rfl
theorem k_setIo {M : Model} {I dI : Addr} {nl buf pos : Value} {x : Str} {v : Value} {Q : Unit → Shared → Prop} (Φ : Fm w mg mb b₀ L m hh) (O : Io hh I dI nl buf pos) (h1 : I ≠ L) (h2 : dI ≠ L)
    (h : ∀ h', Fm w mg mb b₀ L (upd m x v) h' → KB [L] hh h' → Io h' I dI nl buf pos → Q () (up s h' (tk + 1)))
    (hk : sc.kind = .function) (hl : (envOf nm sc L fa cd).kindOf x = some .local) :
    wpAny M A (storeName (envOf nm sc L fa cd) x v) Q E (up s hh tk) := k_setB Φ (fun h' Φ' kb => h h' Φ' kb (O.kb kb (by simpa using h1) (by simpa using h2))) hk hl
theorem k_setPos {I dI : Addr} {nl buf pos v : Value} {Q : Unit → Shared → Prop} (Φ : Fm w mg mb b₀ L m hh) (O : Io hh I dI nl buf pos) (h2 : dI ≠ L) (hb : b₀.objs.size ≤ dI)
    (h : ∀ h' k, Fm w mg mb b₀ L m h' → KB [dI] hh h' → Io h' I dI nl buf v → Q () (up s h' k)) : wpAny (model pw w) A (setAttr (.ref I) (Str.ofString "_StringIO__pos") v) Q E (up s hh tk) :=
  set_ob Φ.gg.X (cls597 _) O (by kernel_rfl) (by decide) (by decide) fun h' k O' kb => h h' k (Φ.kb kb (by simpa using Ne.symm h2) (by simpa using hb)) kb (by rw [io_pos] at O'; exact O')
theorem x_pos {I dI : Addr} {nl buf pos : Value} {y : Str} {py p : Pos} {Q : Value → Shared → Prop} (Φ : Fm w mg mb b₀ L m hh) (hy : m y = some (.ref I)) (O : Io hh I dI nl buf pos) (hh' : handedIn pos = true) (h : Q pos (up s hh (tk + 1)))
    (hk : sc.kind = .function) (hl : (envOf nm sc L fa cd).kindOf y = some .local) (hd : (y == ("__debug__" : Str)) = false) :
    wpAny (model pw w) A (eval (.Attribute (.Name y py) (Str.ofString "_StringIO__pos") p) (envOf nm sc L fa cd)) Q E (up s hh tk) :=
  e_attr Φ hy (cls597 _) O (by with_unfolding_all rfl) h hk hl hd (by kernel_rfl) hh'
theorem x_buf {I dI : Addr} {nl buf pos : Value} {y : Str} {py p : Pos} {Q : Value → Shared → Prop} (Φ : Fm w mg mb b₀ L m hh) (hy : m y = some (.ref I)) (O : Io hh I dI nl buf pos) (hh' : handedIn buf = true) (h : Q buf (up s hh (tk + 1)))
    (hk : sc.kind = .function) (hl : (envOf nm sc L fa cd).kindOf y = some .local) (hd : (y == ("__debug__" : Str)) = false) :
    wpAny (model pw w) A (eval (.Attribute (.Name y py) (Str.ofString "_StringIO__buf") p) (envOf nm sc L fa cd)) Q E (up s hh tk) :=
  e_attr Φ hy (cls597 _) O (by with_unfolding_all rfl) h hk hl hd (by kernel_rfl) hh'
theorem x_newline {I dI : Addr} {nl buf pos : Value} {y : Str} {py p : Pos} {Q : Value → Shared → Prop} (Φ : Fm w mg mb b₀ L m hh) (hy : m y = some (.ref I)) (O : Io hh I dI nl buf pos) (hh' : handedIn nl = true) (h : Q nl (up s hh (tk + 1)))
    (hk : sc.kind = .function) (hl : (envOf nm sc L fa cd).kindOf y = some .local) (hd : (y == ("__debug__" : Str)) = false) :
    wpAny (model pw w) A (eval (.Attribute (.Name y py) (Str.ofString "_StringIO__newline") p) (envOf nm sc L fa cd)) Q E (up s hh tk) :=
  e_attr Φ hy (cls597 _) O (by with_unfolding_all rfl) h hk hl hd (by kernel_rfl) hh'
end
section
variable {A : Around} {E : Value → Shared → Prop} {s : Shared} {hh b₀ : Heap} {tk : Nat} {env : Env}
variable {w : World} {mg mb : Str → Option Value}
theorem k_raw {M : Model} {x : Str} {k : Nat} {pos : Pos} {Q : Value → Shared → Prop} (h : Q (.str x tk) (up s hh (tk + 1))) : wpAny M A (eval (.Constant (.str x) k pos) env) Q E (up s hh tk) := Calls.Constant_str (s := up s hh tk) h
theorem f63 (P : Params) : (K P).lookup 63 = some ⟨.type "function", none, .func (fnOf "_index" "_index" (dA (st 6)) (dB (st 6)) (dS (st 6)) .none .none .none (.str "io" 371) none (.ref 62) .none), #[]⟩ := by kernel_rfl
theorem c_index {n : Nat} {t : Tok} {v : Str} {u : Tok} {Q : Value → Shared → Prop} (o : On w mg mb b₀ hh) (hroom : A.depth < recursionLimit) (hn : n < 1000)
    (h : ∀ h' k t', Keeps hh h' → Q (.int (n : Nat) t') (up s h' k)) : wpAny (model pw w) A (call (.ref 63) [.int (n : Nat) t, .str v u]) Q E (up s hh tk) := by
  refine call_pure [("n", .int (n : Nat) t), ("what", .str v u)] o.gg hroom (f63 _) (by kernel_rfl) (.of_eq (by rfl)) fun h₁ L k hL Φ hk => ?_
  refine q_cons ?_
  walk_at "r q_If;r q_and;hm q_ctest;he q_call;b n_blt Boot.type;hp q_ct;he q_acons;l n_loc;r args_nil"
  refine call_type_of (typeIs_int _ _ _) (by decide) ?_
  walk_at "b n_blt Boot.int;r isnot_type_same;r wpAny_truthy_bool;r q_nil;r q_cons;hs q_asn;he q_call;b n_blt Boot.int;hp q_ct;he q_acons;l n_loc;r args_nil"
  refine PySem.call_int_int (s := up s _ _) ?_
  walk_at "sB;r q_cons;r q_If;r q_or;hm q_ctest;l n_loc;r k_int"
  rename_i h2 Φ2 kb2
  refine gt_int ?_
  rw [decide_eq_false (by omega)]
  walk_at "r wpAny_truthy_bool;r q_or;hm q_ctest;l n_loc;r wpAny_UnaryOp;r k_int"
  refine neg_int (s := up s _ _) ?_
  refine PyProof.Rows.lt_int ?_
  rw [decide_eq_false (by omega)]
  walk_at "r wpAny_truthy_bool;r isTrue_or_nil;r q_nil;r q_cons;r q_ret;l n_loc"
  exact h _ _ _ Φ2.kept
theorem f381 (P : Params) : (K P).lookup 381 = some ⟨.type "function", none, .func (fnOf "__check" "StringIO.__check" (dA (sm 12 3)) (dB (sm 12 3)) (dS (sm 12 3)) .none .none .none (.str "io" 371) none (.ref 380) .none), #[]⟩ := by kernel_rfl
theorem c_check {I dI : Addr} {nl pos : Value} {b : Str} {u : Tok} {Q : Value → Shared → Prop} (o : On w mg mb b₀ hh) (hroom : A.depth < recursionLimit) (O : Io hh I dI nl (.str b u) pos)
    (h : ∀ h' k, Keeps hh h' → Q .none (up s h' k)) : wpAny (model pw w) A (call (.ref 381) [.ref I]) Q E (up s hh tk) := by
  refine call_pure [("self", .ref I)] o.gg hroom (f381 _) (by kernel_rfl) (.of_eq (by rfl)) fun h₁ L k hL Φ hk => ?_
  have O1 := O.keeps Φ.kept
  refine q_cons ?_
  walk_at "r q_If;hm q_ctest;x x_buf;r wpAny_Constant_none;r is_str_none;r wpAny_truthy_bool;r q_nil;r q_nil"
  exact h _ _ Φ.kept
theorem tail_on2 {value slice : Expr} {o i : Value} (l : List Value) {Q : Value → Shared → Prop} (h : ItemOn (model pw w) A E o i Q s) (hs : subscripted slice false o i = operate l (getItem o i)) :
    wpAny (model pw w) A (subscriptTail value slice o i) Q E s := by
  obtain ⟨T, id, hl, hT, hg⟩ := h
  unfold subscriptTail
  refine wpAny_bind ?_
  rw [getitemInPython_of_ne hT.not_modules]
  refine wpAny_bind (wpAny_specialOf hT hl ?_)
  have fin : wpAny (model pw w) A (subscripted slice false o i) (fun r s₃ => wpAny (model pw w) A (letTemporaryGo value o r >>= fun _ => pure r) Q E s₃) E s := by
    rw [hs]
    exact wpAny_operating (wpAny_mono hg (fun r s₃ h₃ => wpAny_bind (wpAny_letTemporaryGo (wpAny_pure h₃))) fun _ _ x => x)
  first
    | exact wpAny_pure (wpAny_bind fin)
    | exact wpAny_bind (wpAny_pure (wpAny_bind fin))
    | exact wpAny_bind fin
theorem s_midA {a : Expr} {nm : Str} {pa : Pos} {lo hi : Expr} {p pos : Pos} {Q : Value → Shared → Prop}
    (h : wpAny (model pw w) A (eval (.Attribute a nm pa) env) (fun o s₁ => wpAny (model pw w) A (eval lo env) (fun vi s₂ => wpAny (model pw w) A (eval hi env) (fun vj s₃ => ∃ x t i u j v h k, ∃ a b : Nat, o = .str (S x) t ∧ vi = .int i u ∧ vj = .int j v ∧ i = (a : Int) ∧ j = (b : Int) ∧ a ≤ b ∧ b ≤ x.length ∧ x.length ≤ 2 ^ 20 ∧ s₃ = up s h k ∧
      ∀ h' k' t', Keeps h h' → Q (.str (S ((x.drop a).take (b - a))) t') (up s h' k')) E s₂) E s₁) E (up s hh tk)) :
    wpAny (model pw w) A (eval (.Subscript (.Attribute a nm pa) (.Slice (some lo) (some hi) none p) pos) env) Q E (up s hh tk) := by
  rw [eval_Subscript]
  refine wpAny_bind (wpAny_mono h (fun o s₁ h₁ => wpAny_bind (wpAny_holding ?_)) fun _ _ x => x)
  have key : wpAny (model pw w) A (eval (.Slice (some lo) (some hi) none p) env) (fun i s₂ => ItemOn (model pw w) A E o i Q s₂) E s₁ := by
    refine wpAny_Slice (evalPart_some_step (wpAny_mono h₁ (fun vi s₂ h₂ => evalPart_some_step (wpAny_mono h₂ (fun vj s₃ h₃ => evalPart_none_step ?_) fun _ _ e => e)) fun _ _ e => e))
    obtain ⟨x, t, i, u, j, v, hp, k, a, b, rfl, rfl, rfl, rfl, rfl, hab, hb, hl, rfl, hq⟩ := h₃
    refine SBH.sliceItem_ss (s := up s hp k) (P := Keeps hp) (fun _ ob q b o e => Heap.get?_push_of_some _ (q b o e)) (fun _ _ e => e) (fun h' t' k' kp => ?_) (by rw [S_len, sizeLine_eq]; omega)
    rw [slice_mid x a b hab hb]
    exact hq h' k' t' kp
  exact wpAny_mono key (fun i s₂ h₂ => wpAny_bind (wpAny_standAt (tail_on2 [i, o] h₂ (by rfl)))) fun _ _ x => x
theorem f543 (P : Params) : (K P).lookup 543 = some ⟨.type "function", none, .func (fnOf "read" "StringIO.read" (dA (sm 12 25)) (dB (sm 12 25)) (dS (sm 12 25)) (.ref 536) .none .none (.str "io" 371) none (.ref 542) .none), #[]⟩ := by kernel_rfl
theorem t536 (P : Params) : (K P).lookup 536 = some ⟨.type "tuple", none, .seq #[.int (-1) 948] 0, #[]⟩ := by kernel_rfl
theorem r_lenS {x : T} {u : Tok} {Q : Value → Shared → Prop} (hx : x.length < 2 ^ 62) (h : Q (.int ((x.length : Nat) : Int) (tk + 1)) (up s hh (tk + 2))) : wpAny (model pw w) A (call (.builtin "len") [.str (S x) u]) Q E (up s hh tk) :=
  P.len_str (s := up s hh tk) (by rw [S_len]; omega) (by rw [S_len]; exact h)
theorem c_read {I dI : Addr} {nl : Value} {t : T} {u pu v : Tok} {p : Nat} {Q : Value → Shared → Prop} (o : On w mg mb b₀ hh) (hroom : A.depth + 1 < recursionLimit) (O : Io hh I dI nl (.str (S t) u) (.int (p : Nat) pu)) (hd : b₀.objs.size ≤ dI)
    (hl : t.length ≤ 2 ^ 20) (hp : p ≤ t.length)
    (h : ∀ h' k t' pu', KB [dI] hh h' → hh.objs.size ≤ h'.objs.size → Io h' I dI nl (.str (S t) u) (.int ((p + ((t.drop p).take 1).length : Nat)) pu') → Q (.str (S ((t.drop p).take 1)) t') (up s h' k)) :
    wpAny (model pw w) A (call (.ref 543) [.ref I, .int 1 v]) Q E (up s hh tk) := by
  refine call_on [("self", .ref I), ("size", .int 1 v)] o (by omega) (f543 _) (by kernel_rfl) (binds_K o.gg.X rfl (t536 _) rfl rfl rfl) fun h₁ L k hL k1 Φ hk => ?_
  have O1 := O.keeps k1
  have hIL : I ≠ L := Nat.ne_of_lt (hL ▸ O.lt)
  have hdL : dI ≠ L := Nat.ne_of_lt (hL ▸ O.dlt)
  refine q_cons ?_
  walk_at "r q_If;hm q_ctest;l n_loc;r wpAny_Constant_none;r is_int_none;r wpAny_truthy_bool;r q_nil;r q_cons;hs q_asn;he q_call;g n_glob g63;K;he q_acons;l n_loc;he q_acons"
  refine k_raw ?_
  walk_at "r args_nil;A"
  refine c_index (n := 1) Φ.on (by show A.depth + 1 < _; omega) (by omega) fun h2 k2 t2 kp2 => ?_
  have Φ2 := Φ.keeps kp2
  have O2 := O1.keeps kp2
  walk_at "sI;r q_cons;X;M;l n_loc"
  rename_i h3 Φ3 kb3 O3
  refine meth_ob (f := 381) Φ3.gg.X (cls597 _) O3 (by rfl) (by kernel_rfl) (by kernel_rfl) ?_
  refine callWith_K0 Φ3.gg.X (by kernel_rfl) ?_
  refine c_check Φ3.on (by show A.depth + 1 < _; omega) O3 fun h4 k4 kp4 => ?_
  have Φ4 := Φ3.keeps kp4
  have O4 := O3.keeps kp4
  walk_at "r q_cons;hs q_asn;x x_pos;sI;r q_cons;hs q_asn;he q_call;b n_blt Boot.len;hp q_cm;he q_acons;x x_buf;r args_nil"
  refine r_lenS (by omega) ?_
  walk_at "sI;r q_cons;r q_If;hm q_ctest;l n_loc;l n_loc"
  rename_i h5 Φ5 kb5 O5 h6 Φ6 kb6 O6
  refine PyProof.Rows.ge_int ?_
  have kb46 : KB [L] h₁ h6 := (KB.of kp2).trans (kb3.trans ((KB.of kp4).trans (kb5.trans kb6)))
  by_cases hpl : p = t.length
  · rw [decide_eq_true (by omega)]
    walk_at "r wpAny_truthy_bool;r q_cons;r q_ret"
    refine k_str [] (by kernel_rfl) ?_
    have e : (t.drop p).take 1 = [] := by rw [hpl, List.drop_length]; rfl
    have := h h6
    rw [e] at this
    refine this _ _ _ ?_ ?_ O6
    · exact fun b ob nb e => kb46 b ob (by rintro hb; rw [List.mem_singleton] at hb; subst hb; exact Nat.lt_irrefl _ (hL ▸ Heap.lt_size e)) (k1 b ob e)
    · exact hL ▸ Nat.le_of_lt Φ6.lt
  · rw [decide_eq_false (by omega)]
    walk_at "r wpAny_truthy_bool;r q_nil;r q_cons;r q_If;r q_and;hm q_ctest;l n_loc;r k_int"
    refine PyProof.Rows.ge_int ?_
    rw [decide_eq_true (by omega)]
    walk_at "r wpAny_truthy_bool;r q_and;hm q_ctest;r q_bin;l n_loc;l n_loc"
    refine PyProof.Rows.add_int (s := up s _ _) ?_
    walk_at "l n_loc"
    refine PyProof.Rows.lt_int ?_
    have e1 : (t.drop p).take 1 = [t[p]'(by omega)] := by rw [List.drop_eq_getElem_cons (by omega)]; rfl
    have e2 : (t.drop p).take (p + 1 - p) = (t.drop p).take 1 := by rw [show p + 1 - p = 1 by omega]
    have out : ∀ b ob, b ≠ dI → hh.get? b = some ob → b ∉ [L] := by
      intro b ob _ e hb
      rw [List.mem_singleton] at hb
      subst hb
      exact Nat.lt_irrefl _ (hL ▸ Heap.lt_size e)
    by_cases hq : p + 1 < t.length
    · rw [decide_eq_true (by omega)]
      walk_at "r wpAny_truthy_bool;r isTrue_and_nil;r q_cons;hs q_asn;r q_bin;l n_loc;l n_loc"
      refine PyProof.Rows.add_int (s := up s _ _) ?_
      walk_at "sI;r q_nil;r q_cons;hs q_aattr;l n_loc;l n_loc"
      rename_i h7 Φ7 kb7 O7
      refine k_setPos Φ7 O7 hdL hd fun h8 k8 Φ8 kb8 O8 => ?_
      walk_at "r q_cons;r q_ret"
      with_reducible refine s_midA ?_
      walk_at "x x_buf;l n_loc;l n_loc"
      refine ⟨t, u, _, _, _, _, h8, _, p, p + 1, rfl, rfl, rfl, rfl, rfl, by omega, by omega, hl, rfl, fun h9 k9 t9 kp9 => ?_⟩
      rw [e2]
      have O9 := O8.keeps kp9
      refine h h9 _ _ _ ?_ ?_ (by rw [e1]; exact O9)
      · exact fun b ob nb e => kp9 b ob (kb8 b ob nb (kb7 b ob (out b ob (by simpa using nb) e) (kb46 b ob (out b ob (by simpa using nb) e) (k1 b ob e))))
      · exact hL ▸ Nat.le_of_lt (Φ8.keeps kp9).lt
    · rw [decide_eq_false (by omega)]
      walk_at "r wpAny_truthy_bool;r q_nil;r q_cons;hs q_aattr;l n_loc;l n_loc"
      have kb7 : KB [L] h6 h6 := KB.refl _
      have e3 : ((t.length : Nat) : Int) = ((p + 1 : Nat) : Int) := by omega
      rw [e3] at Φ6 ⊢
      have Φ7 := Φ6
      have O7 := O6
      refine k_setPos Φ7 O7 hdL hd fun h8 k8 Φ8 kb8 O8 => ?_
      walk_at "r q_cons;r q_ret"
      with_reducible refine s_midA ?_
      walk_at "x x_buf;l n_loc;l n_loc"
      refine ⟨t, u, _, _, _, _, h8, _, p, p + 1, rfl, rfl, rfl, rfl, rfl, by omega, by omega, hl, rfl, fun h9 k9 t9 kp9 => ?_⟩
      rw [e2]
      have O9 := O8.keeps kp9
      refine h h9 _ _ _ ?_ ?_ (by rw [e1]; exact O9)
      · exact fun b ob nb e => kp9 b ob (kb8 b ob nb (kb7 b ob (out b ob (by simpa using nb) e) (kb46 b ob (out b ob (by simpa using nb) e) (k1 b ob e))))
      · exact hL ▸ Nat.le_of_lt (Φ8.keeps kp9).lt
end
noncomputable abbrev dq : Obj := ⟨.type "collections.deque", none, .fields #[.none, rawInt 0], #[]⟩
theorem dq_mro : mroOf (.type "collections.deque") = pure [.type "collections.deque", .type "object"] := by rw [mroOf_type]; kernel_rfl
theorem dq_lookup_new : typeLookup (.type "collections.deque") "__new__" = pure (some (.builtin "collections.deque.__new__")) := by rw [typeLookup_type, builtinLookup_eq_fast]; kernel_rfl
theorem dq_slot_init : Slot "collections.deque" "__init__" "collections.deque.__init__" :=
  .of (owner := "collections.deque") (n := "__init__") (by rw [typeLookup_type, builtinLookup_eq_fast]; kernel_rfl) (by decide +kernel) (by decide +kernel) (by decide +kernel)
    (by first | exact .inl (by decide +kernel) | exact .inr (by decide +kernel)) (by rw [isSubtype_type]; kernel_rfl)
theorem dq_sub : isSubtype (.type "collections.deque") (.type "collections.deque") = pure true := by rw [isSubtype_type]; kernel_rfl
theorem dq_called : TypeCalled "collections.deque" "collections.deque.__new__" "collections.deque.__init__" :=
  ⟨by decide +kernel, by decide +kernel, ⟨_, _, dq_mro⟩, madeBy_type dq_mro dq_lookup_new (by decide +kernel), by decide +kernel, dq_sub, dq_slot_init⟩
theorem dq_typeCall : checkTypeCall "collections.deque" ⟨[], []⟩ = pure () := by kernel_rfl
theorem dq_newCall : checkBuiltinCall "collections.deque.__new__" ⟨[.type "collections.deque"], []⟩ = pure () := by kernel_rfl
theorem dq_entry_new : entryFor table "collections.deque.__new__" = some Builtin.«collections.deque.__new__» := entryFor_of_tree (by kernel_rfl)
theorem dq_entry_init : entryFor table "collections.deque.__init__" = some Builtin.«collections.deque.__init__» := entryFor_of_tree (by kernel_rfl)
theorem dq_plain_new : plainId "collections.deque.__new__" = true := by decide +kernel
theorem dq_args_init (a : Value) : argsOk "collections.deque.__init__" ⟨[a], []⟩ := by unfold argsOk; kernel_rfl
theorem dq_init_eq (a : Addr) : Builtin.«collections.deque.__init__» ⟨[.ref a], []⟩ = (setField (.ref a) 0 .none >>= fun _ => Deque.clear (.ref a) >>= fun _ => ret .none) := by kernel_rfl
theorem dq_isType : isType (.type "collections.deque") = pure true := by kernel_rfl
section
variable {A : Around} {E : Value → Shared → Prop} {s : Shared} {hh : Heap} {tk : Nat} {env : Env}
variable {w : World}
theorem dq_new {Q₁ : Value → Shared → Prop} (h : Q₁ (.ref hh.objs.size) (up s (hh.push dq) tk)) :
    codeAny (model pw w) A (.call (.builtin "collections.deque.__new__") ⟨[.type "collections.deque"], []⟩) (wants Q₁ E) (up s hh tk) := by
  refine codeAny_call_builtin dq_plain_new dq_entry_new (wpAny_of_eq dq_newCall ?_)
  unfold Builtin.«collections.deque.__new__» Deque.newArgs
  have h1 := dq_isType
  have h2 := dq_sub
  rw [show Deque.ty = "collections.deque" from rfl]
  dsimp only
  rw [h1, h2]
  repeat lk
  exact h
theorem r_deque {Q : Value → Shared → Prop} (h : ∀ h', Keeps hh h' → h'.get? hh.objs.size = some dq → hh.objs.size < h'.objs.size → Q (.ref hh.objs.size) (up s h' tk)) :
    wpAny (model pw w) A (call (.type "collections.deque") []) Q E (up s hh tk) := by
  refine callType_codes (Q₁ := fun v s₁ => v = .ref hh.objs.size ∧ s₁ = up s (hh.push dq) tk) dq_called dq_typeCall dq_entry_init (dq_new ⟨rfl, rfl⟩) ?_
  rintro _ _ ⟨rfl, rfl⟩
  have hd : (hh.push dq).get? hh.objs.size = some dq := Heap.get?_push_size _ rfl
  refine ⟨⟨_, hd, rfl⟩, dq_args_init _, ?_⟩
  rw [dq_init_eq]
  refine wpAny_bind (wpAny_setField (s := up s (hh.push dq) tk) hd rfl (by decide) ?_)
  have hd2 := Heap.get?_update_self (Obj.mapFields (·.setIfInBounds 0 Value.none)) hd rfl
  have kp : Keeps hh ((hh.push dq).update hh.objs.size (Obj.mapFields (·.setIfInBounds 0 Value.none))) := fun b o e => (Heap.get?_update_ne _ _ _ _ (Nat.ne_of_lt (Heap.lt_size e))).trans (Heap.get?_push_of_some _ e)
  unfold Deque.clear Deque.items fieldsOf
  refine wpAny_bind (wpAny_bind (wpAny_bind (wpAny_bind ?_)))
  repeat lk
  exact ⟨rfl, h _ kp hd2 (Heap.lt_size hd2)⟩
theorem dq_nobool : typeLookup (.type "collections.deque") "__bool__" = pure none := by rw [typeLookup_type, builtinLookup_eq_fast]; kernel_rfl
theorem dq_slot_len : Slot "collections.deque" "__len__" "collections.deque.__len__" :=
  .of (owner := "collections.deque") (n := "__len__") (by rw [typeLookup_type, builtinLookup_eq_fast]; kernel_rfl) (by decide +kernel) (by decide +kernel) (by decide +kernel)
    (by first | exact .inl (by decide +kernel) | exact .inr (by decide +kernel)) (by rw [isSubtype_type]; kernel_rfl)
theorem dq_entry_len : entryFor table "collections.deque.__len__" = some Builtin.«collections.deque.__len__» := entryFor_of_tree (by kernel_rfl)
theorem dq_args_len (a : Value) : argsOk "collections.deque.__len__" ⟨[a], []⟩ := by unfold argsOk; kernel_rfl
theorem r_dqFalse {D : Addr} {Q : Bool → Shared → Prop} (hd : hh.get? D = some dq) (h : ∀ k, Q false (up s hh k)) : wpAny (model pw w) A (truthy (.ref D)) Q E (up s hh tk) := by
  have hT : (up s hh tk).TypeIs (.ref D) "collections.deque" := ⟨_, hd, rfl⟩
  unfold truthy
  refine wpAny_bind (wpAny_callSpecial?_none hT dq_nobool ?_)
  refine wpAny_bind (wpAny_specialOf hT dq_slot_len.lookup ?_)
  rw [if_neg (by simp)]
  refine wpAny_bind (wpAny_runValue ?_)
  refine codeAny_builtin entry_len ?_
  unfold Builtin.«len»
  refine wpAny_bind (m := oneArg "len" _) (wpAny_pure ?_)
  refine wpAny_bind (wpAny_callSpecial?_slot hT dq_slot_len ?_)
  refine wpAny_call (codeAny_call_builtin dq_slot_len.plain dq_entry_len (dq_slot_len.check _ _ _ _ _ _ _ _ hT (dq_args_len _) ?_))
  unfold Builtin.«collections.deque.__len__» Deque.size
  repeat lk
  exact h _
end
noncomputable def lexN : List Str := ["instream", "infile", "posix", "eof", "commenters", "wordchars", "whitespace", "whitespace_split", "quotes", "escape", "escapedquotes", "state", "pushback", "lineno", "debug", "token", "filestack", "source", "_punctuation_chars"]
noncomputable def WC1 : T := [97, 98, 99, 100, 102, 101, 103, 104, 105, 106, 107, 108, 109, 110, 111, 112, 113, 114, 115, 116, 117, 118, 119, 120, 121, 122, 65, 66, 67, 68, 69, 70, 71, 72, 73, 74, 75, 76, 77, 78, 79, 80, 81, 82, 83, 84, 85, 86, 87, 88, 89, 90, 48, 49, 50, 51, 52, 53, 54, 55, 56, 57, 95]
noncomputable def WC2 : T := [223, 224, 225, 226, 227, 228, 229, 230, 231, 232, 233, 234, 235, 236, 237, 238, 239, 240, 241, 242, 243, 244, 245, 246, 248, 249, 250, 251, 252, 253, 254, 255, 192, 193, 194, 195, 196, 197, 198, 199, 200, 201, 202, 203, 204, 205, 206, 207, 208, 209, 210, 211, 212, 213, 214, 216, 217, 218, 219, 220, 221, 222]
noncomputable def WC : T := WC1 ++ WC2
noncomputable def lexB (I PB FS : Addr) (u : Nat → Tok) : Str → Option Value := fun y => if y = "instream" then some (.ref I) else if y = "infile" then some (.none) else if y = "posix" then some (.bool true) else if y = "eof" then some (.none) else if y = "wordchars" then some (.str (S WC) (u 0)) else if y = "whitespace" then some (.str (S [32, 9, 13, 10]) (u 1)) else if y = "quotes" then some (.str (S [39, 34]) (u 2)) else if y = "escape" then some (.str (S [92]) (u 3)) else if y = "escapedquotes" then some (.str (S [34]) (u 4)) else if y = "pushback" then some (.ref PB) else if y = "debug" then some (.int 0 (u 5)) else if y = "filestack" then some (.ref FS) else if y = "source" then some (.none) else if y = "_punctuation_chars" then some (.str (S []) (u 6)) else none
noncomputable def lexM (I PB FS : Addr) (u : Nat → Tok) (com wsp st tok lin : Value) : Str → Option Value := upd (upd (upd (upd (upd (lexB I PB FS u) "commenters" com) "whitespace_split" wsp) "lineno" lin) "token" tok) "state" st
theorem upd_same {f : Str → Option Value} {a : Str} {x v : Value} : upd (upd f a x) a v = upd f a v := by
  funext y; simp only [upd]; split <;> rfl
theorem upd_under {f : Str → Option Value} {a b : Str} {x v : Value} (h : a ≠ b) : upd (upd f a x) b v = upd (upd f b v) a x := by
  funext y; simp only [upd]
  by_cases h1 : y = b
  · by_cases h2 : y = a
    · exact absurd (h2.symm.trans h1) h
    · rw [if_pos h1, if_neg h2, if_pos h1]
  · rw [if_neg h1]
    by_cases h2 : y = a
    · rw [if_pos h2, if_pos h2]
    · rw [if_neg h2, if_neg h2, if_neg h1]
noncomputable abbrev Lx (h : Heap) (x dx : Addr) (I PB FS : Addr) (u : Nat → Tok) (com wsp st tok lin : Value) : Prop := Ob lexN h x 732 dx (lexM I PB FS u com wsp st tok lin)
theorem lx_up_state {I PB FS : Addr} {u : Nat → Tok} {com wsp st tok lin : Value} {v : Value} : upd (lexM I PB FS u com wsp st tok lin) (Str.ofString "state") v = lexM I PB FS u com wsp v tok lin := by
  unfold lexM
  exact upd_same
theorem lx_up_token {I PB FS : Addr} {u : Nat → Tok} {com wsp st tok lin : Value} {v : Value} : upd (lexM I PB FS u com wsp st tok lin) (Str.ofString "token") v = lexM I PB FS u com wsp st v lin := by
  unfold lexM
  rw [upd_under (by decide : (Str.ofString "state") ≠ (Str.ofString "token")), upd_same]
theorem lx_up_lineno {I PB FS : Addr} {u : Nat → Tok} {com wsp st tok lin : Value} {v : Value} : upd (lexM I PB FS u com wsp st tok lin) (Str.ofString "lineno") v = lexM I PB FS u com wsp st tok v := by
  unfold lexM
  rw [upd_under (by decide : (Str.ofString "state") ≠ (Str.ofString "lineno")), upd_under (by decide : (Str.ofString "token") ≠ (Str.ofString "lineno")), upd_same]
theorem lx_up_whitespace_split {I PB FS : Addr} {u : Nat → Tok} {com wsp st tok lin : Value} {v : Value} : upd (lexM I PB FS u com wsp st tok lin) (Str.ofString "whitespace_split") v = lexM I PB FS u com v st tok lin := by
  unfold lexM
  rw [upd_under (by decide : (Str.ofString "state") ≠ (Str.ofString "whitespace_split")), upd_under (by decide : (Str.ofString "token") ≠ (Str.ofString "whitespace_split")), upd_under (by decide : (Str.ofString "lineno") ≠ (Str.ofString "whitespace_split")), upd_same]
theorem lx_up_commenters {I PB FS : Addr} {u : Nat → Tok} {com wsp st tok lin : Value} {v : Value} : upd (lexM I PB FS u com wsp st tok lin) (Str.ofString "commenters") v = lexM I PB FS u v wsp st tok lin := by
  unfold lexM
  rw [upd_under (by decide : (Str.ofString "state") ≠ (Str.ofString "commenters")), upd_under (by decide : (Str.ofString "token") ≠ (Str.ofString "commenters")), upd_under (by decide : (Str.ofString "lineno") ≠ (Str.ofString "commenters")), upd_under (by decide : (Str.ofString "whitespace_split") ≠ (Str.ofString "commenters")), upd_same]
section
variable {A : Around} {E : Value → Shared → Prop} {s : Shared} {hh b₀ : Heap} {tk : Nat} {env : Env}
variable {w : World} {mg mb : Str → Option Value} {m : Str → Option Value} {L fa : Addr} {nm : Str} {sc : Scope} {cd : Value}
theorem k_setLx {M : Model} {x dx I' dI : Addr} {I PB FS : Addr} {u : Nat → Tok} {com wsp st tok lin : Value} {nl buf pos : Value} {y : Str} {v : Value} {Q : Unit → Shared → Prop} (Φ : Fm w mg mb b₀ L m hh) (O : Lx hh x dx I PB FS u com wsp st tok lin) (P : Io hh I' dI nl buf pos) (h1 : x ≠ L) (h2 : dx ≠ L) (h3 : I' ≠ L) (h4 : dI ≠ L)
    (h : ∀ h', Fm w mg mb b₀ L (upd m y v) h' → KB [L] hh h' → Lx h' x dx I PB FS u com wsp st tok lin → Io h' I' dI nl buf pos → Q () (up s h' (tk + 1)))
    (hk : sc.kind = .function) (hl : (envOf nm sc L fa cd).kindOf y = some .local) :
    wpAny M A (storeName (envOf nm sc L fa cd) y v) Q E (up s hh tk) := k_setB Φ (fun h' Φ' kb => h h' Φ' kb (O.kb kb (by simpa using h1) (by simpa using h2)) (P.kb kb (by simpa using h3) (by simpa using h4))) hk hl
theorem y_instream {x dx : Addr} {I PB FS : Addr} {u : Nat → Tok} {com wsp st tok lin : Value} {y : Str} {py p : Pos} {Q : Value → Shared → Prop} (Φ : Fm w mg mb b₀ L m hh) (hy : m y = some (.ref x)) (O : Lx hh x dx I PB FS u com wsp st tok lin) (hh' : handedIn (.ref I) = true) (h : Q (.ref I) (up s hh (tk + 1)))
    (hk : sc.kind = .function) (hl : (envOf nm sc L fa cd).kindOf y = some .local) (hd : (y == ("__debug__" : Str)) = false) :
    wpAny (model pw w) A (eval (.Attribute (.Name y py) (Str.ofString "instream") p) (envOf nm sc L fa cd)) Q E (up s hh tk) :=
  e_attr Φ hy (cls732 _) O (by with_unfolding_all rfl) h hk hl hd (by kernel_rfl) hh'
theorem y_posix {x dx : Addr} {I PB FS : Addr} {u : Nat → Tok} {com wsp st tok lin : Value} {y : Str} {py p : Pos} {Q : Value → Shared → Prop} (Φ : Fm w mg mb b₀ L m hh) (hy : m y = some (.ref x)) (O : Lx hh x dx I PB FS u com wsp st tok lin) (hh' : handedIn (.bool true) = true) (h : Q (.bool true) (up s hh (tk + 1)))
    (hk : sc.kind = .function) (hl : (envOf nm sc L fa cd).kindOf y = some .local) (hd : (y == ("__debug__" : Str)) = false) :
    wpAny (model pw w) A (eval (.Attribute (.Name y py) (Str.ofString "posix") p) (envOf nm sc L fa cd)) Q E (up s hh tk) :=
  e_attr Φ hy (cls732 _) O (by with_unfolding_all rfl) h hk hl hd (by kernel_rfl) hh'
theorem y_eof {x dx : Addr} {I PB FS : Addr} {u : Nat → Tok} {com wsp st tok lin : Value} {y : Str} {py p : Pos} {Q : Value → Shared → Prop} (Φ : Fm w mg mb b₀ L m hh) (hy : m y = some (.ref x)) (O : Lx hh x dx I PB FS u com wsp st tok lin) (hh' : handedIn (.none) = true) (h : Q (.none) (up s hh (tk + 1)))
    (hk : sc.kind = .function) (hl : (envOf nm sc L fa cd).kindOf y = some .local) (hd : (y == ("__debug__" : Str)) = false) :
    wpAny (model pw w) A (eval (.Attribute (.Name y py) (Str.ofString "eof") p) (envOf nm sc L fa cd)) Q E (up s hh tk) :=
  e_attr Φ hy (cls732 _) O (by with_unfolding_all rfl) h hk hl hd (by kernel_rfl) hh'
theorem y_commenters {x dx : Addr} {I PB FS : Addr} {u : Nat → Tok} {com wsp st tok lin : Value} {y : Str} {py p : Pos} {Q : Value → Shared → Prop} (Φ : Fm w mg mb b₀ L m hh) (hy : m y = some (.ref x)) (O : Lx hh x dx I PB FS u com wsp st tok lin) (hh' : handedIn (com) = true) (h : Q (com) (up s hh (tk + 1)))
    (hk : sc.kind = .function) (hl : (envOf nm sc L fa cd).kindOf y = some .local) (hd : (y == ("__debug__" : Str)) = false) :
    wpAny (model pw w) A (eval (.Attribute (.Name y py) (Str.ofString "commenters") p) (envOf nm sc L fa cd)) Q E (up s hh tk) :=
  e_attr Φ hy (cls732 _) O (by with_unfolding_all rfl) h hk hl hd (by kernel_rfl) hh'
theorem y_wordchars {x dx : Addr} {I PB FS : Addr} {u : Nat → Tok} {com wsp st tok lin : Value} {y : Str} {py p : Pos} {Q : Value → Shared → Prop} (Φ : Fm w mg mb b₀ L m hh) (hy : m y = some (.ref x)) (O : Lx hh x dx I PB FS u com wsp st tok lin) (hh' : handedIn (.str (S WC) (u 0)) = true) (h : Q (.str (S WC) (u 0)) (up s hh (tk + 1)))
    (hk : sc.kind = .function) (hl : (envOf nm sc L fa cd).kindOf y = some .local) (hd : (y == ("__debug__" : Str)) = false) :
    wpAny (model pw w) A (eval (.Attribute (.Name y py) (Str.ofString "wordchars") p) (envOf nm sc L fa cd)) Q E (up s hh tk) :=
  e_attr Φ hy (cls732 _) O (by with_unfolding_all rfl) h hk hl hd (by kernel_rfl) hh'
theorem y_whitespace {x dx : Addr} {I PB FS : Addr} {u : Nat → Tok} {com wsp st tok lin : Value} {y : Str} {py p : Pos} {Q : Value → Shared → Prop} (Φ : Fm w mg mb b₀ L m hh) (hy : m y = some (.ref x)) (O : Lx hh x dx I PB FS u com wsp st tok lin) (hh' : handedIn (.str (S [32, 9, 13, 10]) (u 1)) = true) (h : Q (.str (S [32, 9, 13, 10]) (u 1)) (up s hh (tk + 1)))
    (hk : sc.kind = .function) (hl : (envOf nm sc L fa cd).kindOf y = some .local) (hd : (y == ("__debug__" : Str)) = false) :
    wpAny (model pw w) A (eval (.Attribute (.Name y py) (Str.ofString "whitespace") p) (envOf nm sc L fa cd)) Q E (up s hh tk) :=
  e_attr Φ hy (cls732 _) O (by with_unfolding_all rfl) h hk hl hd (by kernel_rfl) hh'
theorem y_whitespace_split {x dx : Addr} {I PB FS : Addr} {u : Nat → Tok} {com wsp st tok lin : Value} {y : Str} {py p : Pos} {Q : Value → Shared → Prop} (Φ : Fm w mg mb b₀ L m hh) (hy : m y = some (.ref x)) (O : Lx hh x dx I PB FS u com wsp st tok lin) (hh' : handedIn (wsp) = true) (h : Q (wsp) (up s hh (tk + 1)))
    (hk : sc.kind = .function) (hl : (envOf nm sc L fa cd).kindOf y = some .local) (hd : (y == ("__debug__" : Str)) = false) :
    wpAny (model pw w) A (eval (.Attribute (.Name y py) (Str.ofString "whitespace_split") p) (envOf nm sc L fa cd)) Q E (up s hh tk) :=
  e_attr Φ hy (cls732 _) O (by with_unfolding_all rfl) h hk hl hd (by kernel_rfl) hh'
theorem y_quotes {x dx : Addr} {I PB FS : Addr} {u : Nat → Tok} {com wsp st tok lin : Value} {y : Str} {py p : Pos} {Q : Value → Shared → Prop} (Φ : Fm w mg mb b₀ L m hh) (hy : m y = some (.ref x)) (O : Lx hh x dx I PB FS u com wsp st tok lin) (hh' : handedIn (.str (S [39, 34]) (u 2)) = true) (h : Q (.str (S [39, 34]) (u 2)) (up s hh (tk + 1)))
    (hk : sc.kind = .function) (hl : (envOf nm sc L fa cd).kindOf y = some .local) (hd : (y == ("__debug__" : Str)) = false) :
    wpAny (model pw w) A (eval (.Attribute (.Name y py) (Str.ofString "quotes") p) (envOf nm sc L fa cd)) Q E (up s hh tk) :=
  e_attr Φ hy (cls732 _) O (by with_unfolding_all rfl) h hk hl hd (by kernel_rfl) hh'
theorem y_escape {x dx : Addr} {I PB FS : Addr} {u : Nat → Tok} {com wsp st tok lin : Value} {y : Str} {py p : Pos} {Q : Value → Shared → Prop} (Φ : Fm w mg mb b₀ L m hh) (hy : m y = some (.ref x)) (O : Lx hh x dx I PB FS u com wsp st tok lin) (hh' : handedIn (.str (S [92]) (u 3)) = true) (h : Q (.str (S [92]) (u 3)) (up s hh (tk + 1)))
    (hk : sc.kind = .function) (hl : (envOf nm sc L fa cd).kindOf y = some .local) (hd : (y == ("__debug__" : Str)) = false) :
    wpAny (model pw w) A (eval (.Attribute (.Name y py) (Str.ofString "escape") p) (envOf nm sc L fa cd)) Q E (up s hh tk) :=
  e_attr Φ hy (cls732 _) O (by with_unfolding_all rfl) h hk hl hd (by kernel_rfl) hh'
theorem y_state {x dx : Addr} {I PB FS : Addr} {u : Nat → Tok} {com wsp st tok lin : Value} {y : Str} {py p : Pos} {Q : Value → Shared → Prop} (Φ : Fm w mg mb b₀ L m hh) (hy : m y = some (.ref x)) (O : Lx hh x dx I PB FS u com wsp st tok lin) (hh' : handedIn (st) = true) (h : Q (st) (up s hh (tk + 1)))
    (hk : sc.kind = .function) (hl : (envOf nm sc L fa cd).kindOf y = some .local) (hd : (y == ("__debug__" : Str)) = false) :
    wpAny (model pw w) A (eval (.Attribute (.Name y py) (Str.ofString "state") p) (envOf nm sc L fa cd)) Q E (up s hh tk) :=
  e_attr Φ hy (cls732 _) O (by with_unfolding_all rfl) h hk hl hd (by kernel_rfl) hh'
theorem y_pushback {x dx : Addr} {I PB FS : Addr} {u : Nat → Tok} {com wsp st tok lin : Value} {y : Str} {py p : Pos} {Q : Value → Shared → Prop} (Φ : Fm w mg mb b₀ L m hh) (hy : m y = some (.ref x)) (O : Lx hh x dx I PB FS u com wsp st tok lin) (hh' : handedIn (.ref PB) = true) (h : Q (.ref PB) (up s hh (tk + 1)))
    (hk : sc.kind = .function) (hl : (envOf nm sc L fa cd).kindOf y = some .local) (hd : (y == ("__debug__" : Str)) = false) :
    wpAny (model pw w) A (eval (.Attribute (.Name y py) (Str.ofString "pushback") p) (envOf nm sc L fa cd)) Q E (up s hh tk) :=
  e_attr Φ hy (cls732 _) O (by with_unfolding_all rfl) h hk hl hd (by kernel_rfl) hh'
theorem y_debug {x dx : Addr} {I PB FS : Addr} {u : Nat → Tok} {com wsp st tok lin : Value} {y : Str} {py p : Pos} {Q : Value → Shared → Prop} (Φ : Fm w mg mb b₀ L m hh) (hy : m y = some (.ref x)) (O : Lx hh x dx I PB FS u com wsp st tok lin) (hh' : handedIn (.int 0 (u 5)) = true) (h : Q (.int 0 (u 5)) (up s hh (tk + 1)))
    (hk : sc.kind = .function) (hl : (envOf nm sc L fa cd).kindOf y = some .local) (hd : (y == ("__debug__" : Str)) = false) :
    wpAny (model pw w) A (eval (.Attribute (.Name y py) (Str.ofString "debug") p) (envOf nm sc L fa cd)) Q E (up s hh tk) :=
  e_attr Φ hy (cls732 _) O (by with_unfolding_all rfl) h hk hl hd (by kernel_rfl) hh'
theorem y_token {x dx : Addr} {I PB FS : Addr} {u : Nat → Tok} {com wsp st tok lin : Value} {y : Str} {py p : Pos} {Q : Value → Shared → Prop} (Φ : Fm w mg mb b₀ L m hh) (hy : m y = some (.ref x)) (O : Lx hh x dx I PB FS u com wsp st tok lin) (hh' : handedIn (tok) = true) (h : Q (tok) (up s hh (tk + 1)))
    (hk : sc.kind = .function) (hl : (envOf nm sc L fa cd).kindOf y = some .local) (hd : (y == ("__debug__" : Str)) = false) :
    wpAny (model pw w) A (eval (.Attribute (.Name y py) (Str.ofString "token") p) (envOf nm sc L fa cd)) Q E (up s hh tk) :=
  e_attr Φ hy (cls732 _) O (by with_unfolding_all rfl) h hk hl hd (by kernel_rfl) hh'
theorem y_filestack {x dx : Addr} {I PB FS : Addr} {u : Nat → Tok} {com wsp st tok lin : Value} {y : Str} {py p : Pos} {Q : Value → Shared → Prop} (Φ : Fm w mg mb b₀ L m hh) (hy : m y = some (.ref x)) (O : Lx hh x dx I PB FS u com wsp st tok lin) (hh' : handedIn (.ref FS) = true) (h : Q (.ref FS) (up s hh (tk + 1)))
    (hk : sc.kind = .function) (hl : (envOf nm sc L fa cd).kindOf y = some .local) (hd : (y == ("__debug__" : Str)) = false) :
    wpAny (model pw w) A (eval (.Attribute (.Name y py) (Str.ofString "filestack") p) (envOf nm sc L fa cd)) Q E (up s hh tk) :=
  e_attr Φ hy (cls732 _) O (by with_unfolding_all rfl) h hk hl hd (by kernel_rfl) hh'
theorem y_source {x dx : Addr} {I PB FS : Addr} {u : Nat → Tok} {com wsp st tok lin : Value} {y : Str} {py p : Pos} {Q : Value → Shared → Prop} (Φ : Fm w mg mb b₀ L m hh) (hy : m y = some (.ref x)) (O : Lx hh x dx I PB FS u com wsp st tok lin) (hh' : handedIn (.none) = true) (h : Q (.none) (up s hh (tk + 1)))
    (hk : sc.kind = .function) (hl : (envOf nm sc L fa cd).kindOf y = some .local) (hd : (y == ("__debug__" : Str)) = false) :
    wpAny (model pw w) A (eval (.Attribute (.Name y py) (Str.ofString "source") p) (envOf nm sc L fa cd)) Q E (up s hh tk) :=
  e_attr Φ hy (cls732 _) O (by with_unfolding_all rfl) h hk hl hd (by kernel_rfl) hh'
theorem y__punctuation_chars {x dx : Addr} {I PB FS : Addr} {u : Nat → Tok} {com wsp st tok lin : Value} {y : Str} {py p : Pos} {Q : Value → Shared → Prop} (Φ : Fm w mg mb b₀ L m hh) (hy : m y = some (.ref x)) (O : Lx hh x dx I PB FS u com wsp st tok lin) (hh' : handedIn (.str (S []) (u 6)) = true) (h : Q (.str (S []) (u 6)) (up s hh (tk + 1)))
    (hk : sc.kind = .function) (hl : (envOf nm sc L fa cd).kindOf y = some .local) (hd : (y == ("__debug__" : Str)) = false) :
    wpAny (model pw w) A (eval (.Attribute (.Name y py) (Str.ofString "_punctuation_chars") p) (envOf nm sc L fa cd)) Q E (up s hh tk) :=
  e_attr Φ hy (cls732 _) O (by with_unfolding_all rfl) h hk hl hd (by kernel_rfl) hh'
theorem z_state {x dx I' dI : Addr} {I PB FS : Addr} {u : Nat → Tok} {com wsp st tok lin : Value} {v nl buf pos : Value} {Q : Unit → Shared → Prop} (Φ : Fm w mg mb b₀ L m hh) (O : Lx hh x dx I PB FS u com wsp st tok lin) (P : Io hh I' dI nl buf pos) (h2 : dx ≠ L) (hb : b₀.objs.size ≤ dx) (h3 : I' ≠ dx) (h4 : dI ≠ dx)
    (h : ∀ h' k, Fm w mg mb b₀ L m h' → KB [dx] hh h' → Lx h' x dx I PB FS u com wsp v tok lin → Io h' I' dI nl buf pos → Q () (up s h' k)) : wpAny (model pw w) A (setAttr (.ref x) (Str.ofString "state") v) Q E (up s hh tk) :=
  set_ob Φ.gg.X (cls732 _) O (by kernel_rfl) (by decide) (by decide) fun h' k O' kb => h h' k (Φ.kb kb (by simpa using Ne.symm h2) (by simpa using hb)) kb (by rw [lx_up_state] at O'; exact O') (P.kb kb (by simpa using h3) (by simpa using h4))
theorem z_token {x dx I' dI : Addr} {I PB FS : Addr} {u : Nat → Tok} {com wsp st tok lin : Value} {v nl buf pos : Value} {Q : Unit → Shared → Prop} (Φ : Fm w mg mb b₀ L m hh) (O : Lx hh x dx I PB FS u com wsp st tok lin) (P : Io hh I' dI nl buf pos) (h2 : dx ≠ L) (hb : b₀.objs.size ≤ dx) (h3 : I' ≠ dx) (h4 : dI ≠ dx)
    (h : ∀ h' k, Fm w mg mb b₀ L m h' → KB [dx] hh h' → Lx h' x dx I PB FS u com wsp st v lin → Io h' I' dI nl buf pos → Q () (up s h' k)) : wpAny (model pw w) A (setAttr (.ref x) (Str.ofString "token") v) Q E (up s hh tk) :=
  set_ob Φ.gg.X (cls732 _) O (by kernel_rfl) (by decide) (by decide) fun h' k O' kb => h h' k (Φ.kb kb (by simpa using Ne.symm h2) (by simpa using hb)) kb (by rw [lx_up_token] at O'; exact O') (P.kb kb (by simpa using h3) (by simpa using h4))
theorem z_lineno {x dx I' dI : Addr} {I PB FS : Addr} {u : Nat → Tok} {com wsp st tok lin : Value} {v nl buf pos : Value} {Q : Unit → Shared → Prop} (Φ : Fm w mg mb b₀ L m hh) (O : Lx hh x dx I PB FS u com wsp st tok lin) (P : Io hh I' dI nl buf pos) (h2 : dx ≠ L) (hb : b₀.objs.size ≤ dx) (h3 : I' ≠ dx) (h4 : dI ≠ dx)
    (h : ∀ h' k, Fm w mg mb b₀ L m h' → KB [dx] hh h' → Lx h' x dx I PB FS u com wsp st tok v → Io h' I' dI nl buf pos → Q () (up s h' k)) : wpAny (model pw w) A (setAttr (.ref x) (Str.ofString "lineno") v) Q E (up s hh tk) :=
  set_ob Φ.gg.X (cls732 _) O (by kernel_rfl) (by decide) (by decide) fun h' k O' kb => h h' k (Φ.kb kb (by simpa using Ne.symm h2) (by simpa using hb)) kb (by rw [lx_up_lineno] at O'; exact O') (P.kb kb (by simpa using h3) (by simpa using h4))
theorem z_whitespace_split {x dx I' dI : Addr} {I PB FS : Addr} {u : Nat → Tok} {com wsp st tok lin : Value} {v nl buf pos : Value} {Q : Unit → Shared → Prop} (Φ : Fm w mg mb b₀ L m hh) (O : Lx hh x dx I PB FS u com wsp st tok lin) (P : Io hh I' dI nl buf pos) (h2 : dx ≠ L) (hb : b₀.objs.size ≤ dx) (h3 : I' ≠ dx) (h4 : dI ≠ dx)
    (h : ∀ h' k, Fm w mg mb b₀ L m h' → KB [dx] hh h' → Lx h' x dx I PB FS u com v st tok lin → Io h' I' dI nl buf pos → Q () (up s h' k)) : wpAny (model pw w) A (setAttr (.ref x) (Str.ofString "whitespace_split") v) Q E (up s hh tk) :=
  set_ob Φ.gg.X (cls732 _) O (by kernel_rfl) (by decide) (by decide) fun h' k O' kb => h h' k (Φ.kb kb (by simpa using Ne.symm h2) (by simpa using hb)) kb (by rw [lx_up_whitespace_split] at O'; exact O') (P.kb kb (by simpa using h3) (by simpa using h4))
theorem z_commenters {x dx I' dI : Addr} {I PB FS : Addr} {u : Nat → Tok} {com wsp st tok lin : Value} {v nl buf pos : Value} {Q : Unit → Shared → Prop} (Φ : Fm w mg mb b₀ L m hh) (O : Lx hh x dx I PB FS u com wsp st tok lin) (P : Io hh I' dI nl buf pos) (h2 : dx ≠ L) (hb : b₀.objs.size ≤ dx) (h3 : I' ≠ dx) (h4 : dI ≠ dx)
    (h : ∀ h' k, Fm w mg mb b₀ L m h' → KB [dx] hh h' → Lx h' x dx I PB FS u v wsp st tok lin → Io h' I' dI nl buf pos → Q () (up s h' k)) : wpAny (model pw w) A (setAttr (.ref x) (Str.ofString "commenters") v) Q E (up s hh tk) :=
  set_ob Φ.gg.X (cls732 _) O (by kernel_rfl) (by decide) (by decide) fun h' k O' kb => h h' k (Φ.kb kb (by simpa using Ne.symm h2) (by simpa using hb)) kb (by rw [lx_up_commenters] at O'; exact O') (P.kb kb (by simpa using h3) (by simpa using h4))
end
theorem call_onC {w : World} {mg mb : Str → Option Value} {A : Around} {s : Shared} {hh b₀ : Heap} {tk : Nat} {R : Result → Shared → Prop} {f : Addr} {args : List Value} {kw : List (Str × Value)} (binds : List (Str × Value))
    {name qual : Str} {d : Stmt} {dV kV doc pm cdv ct oc : Value} {an od : Option Addr} {osl : Array (Option Value)}
    (o : On w mg mb b₀ hh) (hroom : A.depth < recursionLimit)
    (ho : (K w.params).lookup f = some ⟨oc, od, .func (fnOf name qual (dA d) (dB d) (dS d) dV kV doc pm an cdv ct), osl⟩) (hcd : codeIn (K w.params) cdv qual = true)
    (hbind : BindsTo (up s hh tk) (fnOf name qual (dA d) (dB d) (dS d) dV kV doc pm an cdv ct) ⟨args, kw⟩ binds)
    (h : ∀ h₁ L k, L = hh.objs.size → Keeps hh h₁ → Fm w mg mb b₀ L (fun x => binds.reverse.lookup x) h₁ → 0 < k →
      wpAny (model pw w) (A.deeper (envOf qual (dS d) L f cdv)) (execs (dB d) (envOf qual (dS d) L f cdv))
        (fun fl s' => R (.ok (.ret (match fl with | .ret v => v | _ => .none))) s')
        (fun e s' => wpAny (model pw w) (A.deeper (envOf qual (dS d) L f cdv)) (leaving (envOf qual (dS d) L f cdv) e) (fun _ s'' => R (.error e) s'') (fun e' s'' => R (.error e') s'') s') (up s h₁ k))
    (hne : binds.isEmpty = false := by rfl) (hloc : (binds.all fun y => (dS d).names.lookup y.1 == some .local) = true := by rfl)
    (hco : (dS d).isCoroutine = false := by rfl) (hgen : (dS d).isGenerator = false := by rfl) (hk : (dS d).kind = .function := by rfl)
    (hcell : ((dS d).names.all fun x => x.2 != .cell) = true := by rfl) : codeAny (model pw w) A (.call (.ref f) ⟨args, kw⟩) R (up s hh tk) := by
  have g' := o.gg
  refine codeAny_call_def (s := up s hh tk) (fd := fnOf name qual (dA d) (dB d) (dS d) dV kV doc pm an cdv ct) (body := dB d) (binds := binds) hroom (g'.X _ _ ho) rfl g'.T.nolimit (codeRec_of g'.X hcd) rfl hbind (fun x hx => bne_iff_ne.mp (List.all_eq_true.mp hcell x hx)) (fun y hy => beq_iff_eq.mp (List.all_eq_true.mp hloc y hy)) (fun h₁ hns hk₁ => ?_) hco hgen hk
  exact h h₁ _ _ rfl hk₁ ⟨⟨hns, fun b ob e => hk₁ b ob (o.k b ob e), o.z⟩, o.g⟩ (Nat.lt_of_lt_of_le (List.length_pos_iff.mpr (by rintro rfl; cases hne)) (Nat.le_add_left _ _))
section
variable {A : Around} {E : Value → Shared → Prop} {s : Shared} {hh b₀ : Heap} {tk : Nat} {env : Env}
variable {w : World} {mg mb : Str → Option Value} {m : Str → Option Value} {L fa : Addr} {nm : Str} {sc : Scope} {cd : Value} {x dx I' dI I PB FS : Addr} {u : Nat → Tok} {com wsp st tok lin : Value} {cu : Tok}
theorem f663 (P : Params) : (K P).lookup 663 = some ⟨.type "function", none, .func (fnOf "punctuation_chars" "shlex.punctuation_chars" (dA (sm 23 1)) (dB (sm 23 1)) (dS (sm 23 1)) .none .none .none (.str "cpy313.shlex" 1088) none (.ref 662) .none), #[]⟩ := by kernel_rfl
theorem get_punct {Q : Value → Shared → Prop} (o : On w mg mb b₀ hh) (hroom : A.depth + 1 < recursionLimit) (O : Lx hh x dx I PB FS u com wsp st tok lin) {expr : Bool}
    (h : ∀ h' k, Keeps hh h' → Q (.str (S []) (u 6)) (up s h' k)) : wpAny (model pw w) A (getAttr (.ref x) (Str.ofString "punctuation_chars") expr) Q E (up s hh tk) := by
  obtain ⟨od, I, hl⟩ := O.inst
  refine get_bind (s := up s hh tk) (g := .builtin "property.__get__") (a := .ref 664) o.gg.X I (cls732 _).ga (by kernel_rfl) (cls732 _).ha ?_
  refine wpAny_call (prop_get (s := up s hh (tk + 1)) (fget := 663) (rest := [.none, .none, .none, .str "punctuation_chars" 1121, .bool false]) o.gg.X (by kernel_rfl) ?_)
  refine call_onC [("self", .ref x)] o.gg.on (by show A.depth < _; omega) (f663 _) (by kernel_rfl) (.of_eq (by rfl)) fun h₁ L k hL k1 Φ hk => ?_
  have O1 := O.keeps k1
  refine q_cons ?_
  walk_at "r q_ret;y y__punctuation_chars"
  show wpAny _ _ (handedOut (.str (S []) (u 6))) _ _ _
  rw [handedOut_of (by rfl)]
  exact wpAny_pure (h _ _ k1)
theorem y_punct {nl buf pos : Value} {y : Str} {py p : Pos} {Q : Value → Shared → Prop} (Φ : Fm w mg mb b₀ L m hh) (hy : m y = some (.ref x)) (O : Lx hh x dx I PB FS u com wsp st tok lin) (P : Io hh I' dI nl buf pos) (hroom : A.depth + 1 < recursionLimit)
    (h : ∀ h' k, Fm w mg mb b₀ L m h' → Keeps hh h' → Lx h' x dx I PB FS u com wsp st tok lin → Io h' I' dI nl buf pos → Q (.str (S []) (u 6)) (up s h' k))
    (hk : sc.kind = .function) (hl : (envOf nm sc L fa cd).kindOf y = some .local) (hd : (y == ("__debug__" : Str)) = false) :
    wpAny (model pw w) A (eval (.Attribute (.Name y py) (Str.ofString "punctuation_chars") p) (envOf nm sc L fa cd)) Q E (up s hh tk) :=
  Attribute_Name_ (n_loc (s := up s hh tk) Φ hy (get_punct Φ.on hroom O fun h' k kp => h h' k (Φ.keeps kp) kp (O.keeps kp) (P.keeps kp)) hk hl hd)
theorem r_inAC {t t1 t2 : Tok} {D : Addr} {Q : Value → Shared → Prop} (hD : hh.get? D = some ⟨.type "tuple", none, .seq #[.str (S [97]) t1, .str (S [99]) t2] 0, #[]⟩)
    (h : Q (.bool true) (up s hh tk)) : wpAny (model pw w) A (compareOp .In (.str (S [97]) t) (.ref D)) Q E (up s hh tk) := by
  exact in_tuple_strs (s := up s hh tk) ⟨_, hD, rfl, _, rfl⟩ (.cons _ _ (.cons _ _ .nil)) (by rw [show ([S [97], S [99]].any (· == S [97])) = true by decide +kernel]; exact h)
noncomputable def rdTok : St → T → Bool → T → Option (Option T × Option St × T)
  | .sp, tok, q, [] => some (none, none, [])
  | .q, tok, q, [] => none
  | .a, tok, q, [] => some (some tok, none, [])
  | .sp, tok, q, c :: r => if ws c then rdTok .sp [] q r else if c = 39 then rdTok .q [] q r else rdTok .a [c] q r
  | .q, tok, q, c :: r => if c = 39 then rdTok .a tok true r else rdTok .q (tok ++ [c]) true r
  | .a, tok, q, c :: r => if ws c then some (some tok, some .sp, r) else if c = 39 then rdTok .q tok q r else rdTok .a (tok ++ [c]) q r
theorem f700 (P : Params) : (K P).lookup 700 = some ⟨.type "function", none, .func (fnOf "read_token" "shlex.read_token" (dA (sm 23 6)) (dB (sm 23 6)) (dS (sm 23 6)) .none .none .none (.str "cpy313.shlex" 1088) none (.ref 699) .none), #[]⟩ := by kernel_rfl
noncomputable def sgn : St → T | .sp => [32] | .a => [97] | .q => [39]
noncomputable def stV (u : Tok) : Option St → Value | none => .none | some st => .str (S (sgn st)) u
end
noncomputable def Frs (h : Heap) (l : List Env) : Prop := ∀ env ∈ l, env.scope.kind ≠ .module ∧ ∃ L o, env.frame = some L ∧ h.get? L = some o ∧ ∀ vs, o.data ≠ .fields vs
theorem Frs.kb {h h' : Heap} {X : List Addr} {l : List Env} (f : Frs h l) (k : KB X h h') (n : ∀ env ∈ l, ∀ b ∈ X, env.frame ≠ some b) : Frs h' l := fun env he =>
  let ⟨a, L, o, c, d, e⟩ := f env he
  ⟨a, L, o, c, k L o (fun hx => n env he L hx c) d, e⟩
theorem Frs.keeps {h h' : Heap} {l : List Env} (f : Frs h l) (k : Keeps h h') : Frs h' l := fun env he =>
  let ⟨a, L, o, c, d, e⟩ := f env he
  ⟨a, L, o, c, k L o d, e⟩
theorem Frs.cons {w : World} {mg mb : Str → Option Value} {h b₀ : Heap} {l : List Env} {env : Env} {L : Addr} {m : Str → Option Value} (f : Frs h l) (Φ : Fm w mg mb b₀ L m h) (hf : env.frame = some L) (hk : env.scope.kind = .function) : Frs h (env :: l) := by
  intro e he
  rcases List.mem_cons.mp he with rfl | he
  · obtain ⟨o, es, ep, ho, hd, _⟩ := Φ.F.ns
    exact ⟨by rw [hk]; decide, L, o, hf, ho, fun vs q => by rw [hd] at q; cases q⟩
  · exact f e he
noncomputable def Fl (cls : Value) (h : Heap) (X : List Addr) (l : List Env) (e : Addr) (h' : Heap) : Prop :=
  ∃ B t vs, (∀ b o, b ∉ X → h.get? b = some o → (∀ env ∈ l, env.frame ≠ some b) → B.get? b = some o) ∧
    (∀ b o, b ∉ X → h.get? b = some o → (∀ vs, o.data ≠ .fields vs) → ∃ sl, h'.get? b = some { o with slots := sl }) ∧
    Heap.FlyingW B l e cls (.ref t) h' ∧ B.get? t = none ∧ h'.TupAt t vs
theorem funFrames_of {h base : Heap} : ∀ {l : List Env}, Frs h l → (∀ env ∈ l, ∀ b, env.frame = some b → base.get? b = none) → h.FunFrames base l
  | [], _, _ => trivial
  | env :: l, f, n => by
    obtain ⟨a, L, o, c, d, e⟩ := f env (.head _)
    exact ⟨a, ⟨L, o, c, n env (.head _) L c, d, e⟩, funFrames_of (fun x hx => f x (.tail _ hx)) fun x hx => n x (.tail _ hx)⟩
theorem Fl.kb {cls : Value} {h₀ h h' : Heap} {X Y : List Addr} {l : List Env} {e : Addr} (f : Fl cls h X l e h') (k : KB Y h₀ h) (s : ∀ b ∈ X, b ∈ Y ∨ h₀.objs.size ≤ b) : Fl cls h₀ Y l e h' := by
  obtain ⟨B, t, vs, f1, f2, f3⟩ := f
  have nx : ∀ b o, b ∉ Y → h₀.get? b = some o → b ∉ X := fun b o nb e hx => (s b hx).elim nb fun le => absurd (Heap.lt_size e) (Nat.not_lt.mpr le)
  exact ⟨B, t, vs, fun b o nb e => f1 b o (nx b o nb e) (k b o nb e), fun b o nb e => f2 b o (nx b o nb e) (k b o nb e), f3⟩
section
variable {A : Around} {E : Value → Shared → Prop} {s : Shared} {hh b₀ : Heap} {tk : Nat} {env : Env}
theorem of_madeExc {h h' : Heap} {e : Addr} {cls : String} {args : List Value} (x : Heap.MadeExc h h' e cls args) : Heap.MadeExcOf h h' e (.type cls) args := ⟨x.keeps, x.new, x.there⟩
theorem leave_made {M : Model} {h₀ : Heap} {h' : Heap} {e L : Addr} {cls : String} {args : List Value} {outer : List Env} {Q : Unit → Shared → Prop} (hfr : A.frames = some (env :: outer)) (hf : env.frame = some L) (f : Frs h₀ (env :: outer)) (hx : Heap.MadeExc h₀ h' e cls args)
    (h : ∀ h'', Fl (.type cls) h₀ [L] outer e h'' → Q () (up s h'' tk)) : wpAny M A (leaving env (.ref e)) Q E (up s h' tk) := by
  have no : ∀ b, b ∉ [L] → (∀ en ∈ outer, en.frame ≠ some b) → b ∉ (env :: outer).filterMap (·.frame) := fun b nb nf hm => by
    obtain ⟨en, hen, hb⟩ := List.mem_filterMap.mp hm
    rcases List.mem_cons.mp hen with rfl | hen
    · rw [hf] at hb; cases hb; exact nb (.head _)
    · exact nf en hen hb
  refine wpAny_leaves_madeW (s := up s h' tk) (base := hideAll h₀ ((env :: outer).filterMap (·.frame))) (h := h₀) hfr hf (fun b o q => of_hideAll _ q) (funFrames_of f fun en hen b hb => hideAll_none _ (List.mem_filterMap.mpr ⟨en, hen, hb⟩)) (of_madeExc hx) fun h2 t x1 x2 x3 x4 => h h2 ⟨_, t, args, fun b o nb e nf => hideAll_get _ e (no b nb nf), fun b o nb e nf => x4 b o (hx.keeps b o e) nf, x1, x3, x2⟩
theorem leave_fl {M : Model} {h h' : Heap} {e L : Addr} {cls : Value} {X : List Addr} {outer : List Env} {Q : Unit → Shared → Prop} (hfr : A.frames = some (env :: outer)) (hf : env.frame = some L) (f : Fl cls h X (env :: outer) e h') (hL : L ∈ X)
    (h : ∀ h'', Fl cls h X outer e h'' → Q () (up s h'' tk)) : wpAny M A (leaving env (.ref e)) Q E (up s h' tk) := by
  obtain ⟨B, t, vs, f1, f2, f3, f4, f5⟩ := f
  refine wpAny_leaves_onW (s := up s h' tk) hfr hf f3 fun h2 x1 x2 => h h2 ⟨B, t, vs, fun b o nb e nf => f1 b o nb e fun en hen => ?_, fun b o nb e nf => ?_, x1, f4, f5.of_slots x2⟩
  · rcases List.mem_cons.mp hen with rfl | hen
    · rw [hf]; rintro ⟨⟩; exact nb hL
    · exact nf en hen
  · obtain ⟨sl, h3⟩ := f2 b o nb e nf
    obtain ⟨sl', h4⟩ := x2 b _ h3 nf
    exact ⟨sl', h4⟩
end
theorem KB.m0 {a : Addr} {l : List Addr} {h h' : Heap} (x : KB [a] h h') : KB (a :: l) h h' := x.mono fun p hp => by rw [List.mem_singleton] at hp; subst hp; exact .head _
theorem KB.m1 {a b : Addr} {l : List Addr} {h h' : Heap} (x : KB [b] h h') : KB (a :: b :: l) h h' := x.mono fun p hp => by rw [List.mem_singleton] at hp; subst hp; exact .tail _ (.head _)
theorem KB.m2 {a b c : Addr} {l : List Addr} {h h' : Heap} (x : KB [c] h h') : KB (a :: b :: c :: l) h h' := x.mono fun p hp => by rw [List.mem_singleton] at hp; subst hp; exact .tail _ (.tail _ (.head _))
section
variable {A : Around} {E : Value → Shared → Prop} {s : Shared} {hh b₀ : Heap} {tk : Nat} {w : World} {mg mb m : Str → Option Value} {L x dx I PB FS : Addr} {u : Nat → Tok} {com wsp st tok lin : Value}
theorem r_notin {x : T} {c : Nat} {t u : Tok} {Q : Value → Shared → Prop} (h : Q (.bool (!decide (c ∈ x))) s) : wpAny (model pw w) A (compareOp .NotIn (.str (S [c]) u) (.str (S x) t)) Q E s := by
  refine P.notIn_str ?_
  rw [StrLaws.found_one (S x) c]
  exact h
theorem g_token {expr : Bool} {Q : Value → Shared → Prop} (Φ : Fm w mg mb b₀ L m hh) (O : Lx hh x dx I PB FS u com wsp st tok lin) (hh' : handedIn tok = true) (h : Q tok (up s hh (tk + 1))) : wpAny (model pw w) A (getAttr (.ref x) (Str.ofString "token") expr) Q E (up s hh tk) :=
  get_ob Φ.gg.X (cls732 _) O (by with_unfolding_all rfl) (by kernel_rfl) hh' h
theorem g_lineno {expr : Bool} {Q : Value → Shared → Prop} (Φ : Fm w mg mb b₀ L m hh) (O : Lx hh x dx I PB FS u com wsp st tok lin) (hh' : handedIn lin = true) (h : Q lin (up s hh (tk + 1))) : wpAny (model pw w) A (getAttr (.ref x) (Str.ofString "lineno") expr) Q E (up s hh tk) :=
  get_ob Φ.gg.X (cls732 _) O (by with_unfolding_all rfl) (by kernel_rfl) hh' h
end
local macro_rules | `(tactic| walk_at "k3") => `(tactic| repeat (first | exact KB.refl _ | assumption | refine KB.trans ?_ (KB.m0 (by assumption)) | refine KB.trans ?_ (KB.m1 (by assumption)) | refine KB.trans ?_ (KB.m2 (by assumption)) | refine KB.trans ?_ (KB.of (by assumption))))
theorem while_W {M : Model} {prog : Program} {w : World} {A : Around} {E : Value → Shared → Prop} {env : Env} {s : Shared} {Q : Flow → Shared → Prop} {body : List Stmt} {k : Nat} {pc pos : Pos} (J : Nat → Shared → Prop) (B : Shared → Prop)
    (hE : PassesOwn (model prog w) A env E) (n : Nat) (h0 : J n s)
    (turn : ∀ n s', J n s' → wpAny (model prog w) A (execs body env) (fun f s₃ => match f with | .next | .cont => ∃ m, m < n ∧ J m s₃ | .brk => B s₃ | .ret v => False) E s')
    (fin : ∀ s', B s' → Q .next s') : wpAny (model prog w) A (exec (.While (.Constant (.bool true) k pc) body [] pos) env) Q E s := by
  refine wpAny_While (codeAny_whileLoop (R := fun r s' => match r with | .ok f => Q f s' | .error e => cameBackBy (model prog w) A env E e s') J (fun n s' hj => ?_) n h0)
  refine wpAny_passesOwn hE (wpAny_isTrue_value (wpAny_Constant_bool (wpAny_truthy_bool ?_)))
  exact wpAny_passesOwn hE (wpAny_mono (turn n s' hj) (fun f s₃ h => by cases f <;> first | exact h | exact h.elim | exact fin _ h) fun _ _ z => z)
noncomputable def wB (s : Stmt) : List Stmt := match s with | .While _ b _ _ => b | _ => []
noncomputable def tkB : List Stmt := ((dB (sm 23 6))[2]?.map wB).getD []
noncomputable def okS : Option St → T → Bool → Prop
  | some .sp, tok, qd => tok = [] ∧ qd = false
  | some .a, tok, qd => tok ≠ [] ∨ qd = true
  | some .q, _, _ => True
  | none, tok, qd => tok = [] ∧ qd = false
noncomputable def rdO : Option St → T → Bool → T → Option (Option T × Option St × T)
  | none, _, _, _ => some (none, none, [])
  | some st, tok, q, r => rdTok st tok q r
structure TokS (w : World) (mg mb : Str → Option Value) (s : Shared) (b₀ h₁ : Heap) (L x dx I dI PB FS : Addr) (u : Nat → Tok) (cu ub : Tok) (nl : Value) (t : T) (st : Option St) (tok : T) (qd : Bool) (p : Nat) (m : Str → Option Value) (h : Heap) (su tu : Tok) (ln : Int) (lu pu : Tok) : Prop where
  Φ : Fm w mg mb b₀ L m h
  self : m (Str.ofString "self") = some (.ref x)
  quo : m (Str.ofString "quoted") = some (.bool qd)
  lx : Lx h x dx I PB FS u (.str (S []) cu) (.bool true) (stV su st) (.str (S tok) tu) (.int ln lu)
  io : Io h I dI nl (.str (S t) ub) (.int (p : Nat) pu)
  kb : KB [L, dx, dI] h₁ h
  le : p ≤ t.length
  tl : tok.length ≤ p
noncomputable def TokJ (w : World) (mg mb : Str → Option Value) (s : Shared) (b₀ h₁ : Heap) (L x dx I dI PB FS : Addr) (u : Nat → Tok) (cu ub : Tok) (nl : Value) (t : T) (rd : Option (Option T × Option St × T)) (n : Nat) (s' : Shared) : Prop :=
  ∃ st tok qd p m h su tu ln lu pu k, s' = up s h k ∧ TokS w mg mb s b₀ h₁ L x dx I dI PB FS u cu ub nl t st tok qd p m h su tu ln lu pu ∧ n = t.length - p ∧ rdO st tok qd (t.drop p) = rd ∧ okS st tok qd ∧ (st = none → p = t.length)
noncomputable def TokB (w : World) (mg mb : Str → Option Value) (s : Shared) (b₀ h₁ : Heap) (L x dx I dI PB FS : Addr) (u : Nat → Tok) (cu ub : Tok) (nl : Value) (t : T) (rd : Option (Option T × Option St × T)) (s' : Shared) : Prop :=
  ∃ st tok qd p m h su tu ln lu pu k, s' = up s h k ∧ TokS w mg mb s b₀ h₁ L x dx I dI PB FS u cu ub nl t st tok qd p m h su tu ln lu pu ∧ rd = some (if qd = false ∧ tok = [] then none else some tok, st, t.drop p) ∧ (st = some .sp ∨ (st = none ∧ p = t.length))
section
variable {w : World} {mg mb : Str → Option Value} {s : Shared} {b₀ h₁ : Heap} {L x dx I dI PB FS : Addr} {u : Nat → Tok} {cu ub : Tok} {nl : Value} {t : T} {rd : Option (Option T × Option St × T)} {st : Option St} {tok : T} {qd : Bool} {p : Nat} {m : Str → Option Value} {h : Heap} {su tu : Tok} {ln : Int} {lu pu : Tok} {k n : Nat}
theorem tokB_mk (Z : TokS w mg mb s b₀ h₁ L x dx I dI PB FS u cu ub nl t st tok qd p m h su tu ln lu pu) (hr : rd = some (if qd = false ∧ tok = [] then none else some tok, st, t.drop p)) (hf : st = some .sp ∨ (st = none ∧ p = t.length)) : TokB w mg mb s b₀ h₁ L x dx I dI PB FS u cu ub nl t rd (up s h k) := ⟨st, tok, qd, p, m, h, su, tu, ln, lu, pu, k, rfl, Z, hr, hf⟩
theorem tokJ_mk (Z : TokS w mg mb s b₀ h₁ L x dx I dI PB FS u cu ub nl t st tok qd p m h su tu ln lu pu) (hn : t.length - p < n) (hr : rdO st tok qd (t.drop p) = rd) (hk : okS st tok qd) (hf : st = none → p = t.length) : ∃ m, m < n ∧ TokJ w mg mb s b₀ h₁ L x dx I dI PB FS u cu ub nl t rd m (up s h k) := ⟨_, hn, st, tok, qd, p, m, h, su, tu, ln, lu, pu, k, rfl, Z, rfl, hr, hk, hf⟩
end
section
variable {A : Around} {E : Value → Shared → Prop} {s : Shared} {b₀ h₁ : Heap} {w : World} {mg mb : Str → Option Value} {L x dx I dI PB FS : Addr} {u : Nat → Tok} {cu ub : Tok} {nl : Value} {t : T} {rd : Option (Option T × Option St × T)}
theorem tok_turn (hroom : A.depth + 2 < recursionLimit) (n1 : x ≠ L) (n2 : dx ≠ L) (n3 : I ≠ L) (n4 : dI ≠ L) (hd : b₀.objs.size ≤ dx) (hdI : b₀.objs.size ≤ dI) (a1 : x ≠ dI) (a2 : dx ≠ dI) (a3 : I ≠ dx) (a4 : dI ≠ dx) (hl : t.length ≤ 2 ^ 20)
    (hc : ∀ c ∈ t, c ≠ 34 ∧ c ≠ 92) (n : Nat) (s' : Shared) (hj : TokJ w mg mb s b₀ h₁ L x dx I dI PB FS u cu ub nl t rd n s') (hA : A.handled = none)
    (hE : rd = none → ∀ st tok qd p m h su tu ln lu pu k e h' vs, TokS w mg mb s b₀ h₁ L x dx I dI PB FS u cu ub nl t st tok qd p m h su tu ln lu pu → Heap.MadeExc h h' e "ValueError" vs → E (.ref e) (up s h' k)) :
    wpAny (model pw w) A (execs tkB (envOf "shlex.read_token" (dS (sm 23 6)) L 700 (.ref 699))) (fun f s₃ => match f with | .next | .cont => ∃ m, m < n ∧ TokJ w mg mb s b₀ h₁ L x dx I dI PB FS u cu ub nl t rd m s₃ | .brk => TokB w mg mb s b₀ h₁ L x dx I dI PB FS u cu ub nl t rd s₃ | .ret v => False) E s' := by
  obtain ⟨st, tok, qd, p, m, h, su, tu, ln, lu, pu, k, rfl, ⟨Φ, hself, hquo, O, P, kb, hp, htl⟩, rfl, hrd, hok, hno⟩ := hj
  have hroom1 : A.depth + 1 < recursionLimit := by omega
  refine nameQ fun Qt hQt => ?_
  refine q_cons ?_
  walk_at "r q_If;r q_and;r q_ta"; (with_reducible refine' y_punct ?ua1 ?ub1 ?uc1 ?ud1 ?ue1 ?uf1 ?ug1 ?uh1 ?ui1); (case ua1 => assumption); (case uc1 => assumption); (case ub1 => first | assumption | rfl); (case ud1 => assumption); (case ue1 => assumption); (case ug1 => kernel_rfl); (case uh1 => kernel_rfl); (case ui1 => decide); (intro _ _ _ _ _ _); (with_reducible refine r_truthy ?tl2 ?th2); (case tl2 => first | assumption | decide | (simp; done) | omega); walk_at "r if_e0;r q_cons;hs q_asn;M;y y_instream"
  rename_i h2 k2 Φ2 kp2 O2 P2
  refine meth_ob (f := 543) Φ2.gg.X (cls597 _) P2 (by rfl) (by kernel_rfl) (by kernel_rfl) ?_
  walk_at "K;he q_acons;r k_int;r args_nil;A"
  refine c_read Φ2.on (by omega) P2 hdI hl hp fun h3 k3 t3 pu3 kb3 hz3 P3 => ?_
  have Φ3 := Φ2.kb kb3 (by simpa using Ne.symm n4) (by simpa using hdI)
  have O3 := O2.kb kb3 (by simpa using a1) (by simpa using a2)
  walk_at "sL;r q_nil;r q_cons;r q_If;hm q_ctest;l n_loc"; (with_reducible refine k_str [10] (by decide +kernel) ?_); walk_at "r r_eqS;r wpAny_truthy_bool"
  rename_i h4 Φ4 kb4 O4 P4
  refine if_join (fun s' => ∃ h5 k5 ln5 lu5, s' = up s h5 k5 ∧ Fm w mg mb b₀ L (upd m (Str.ofString "nextchar") (.str (S ((t.drop p).take 1)) t3)) h5 ∧ Lx h5 x dx I PB FS u (.str (S []) cu) (.bool true) (stV su st) (.str (S tok) tu) (.int ln5 lu5) ∧
    Io h5 I dI nl (.str (S t) ub) (.int ((p + ((t.drop p).take 1).length : Nat)) pu3) ∧ KB [dx] h4 h5) (fun hc => ?_) (fun hc => ?_) ?_
  · (walk_at "r q_cons;r q_auga;l n_loc"; (with_reducible refine' g_lineno ?ga3 ?gb3 ?gc3 ?gd3); (case ga3 => assumption); (case gb3 => assumption); (case gc3 => first | assumption | rfl); walk_at "r k_int")
    refine PyProof.Rows.iadd_int (s := up s _ _) ?_
    walk_at "z z_lineno;r q_nil"
    rename_i h5 k5 Φ5 kb5 O5 P5
    exact ⟨rfl, h5, _, _, _, rfl, Φ5, O5, P5, kb5⟩
  · (walk_at "r q_nil")
    exact ⟨rfl, _, _, _, _, rfl, Φ4, O4, P4, KB.refl _⟩
  rintro _ ⟨h5, k5, ln5, lu5, rfl, Φ5, O5, P5, kb5⟩
  have kb15 : KB [L, dx, dI] h₁ h5 := by walk_at "k3"
  clear kb5 kb4 kb3 kp2 kb
  generalize hm : upd m (Str.ofString "nextchar") (.str (S ((t.drop p).take 1)) t3) = m5 at Φ5
  have self5 : m5 (Str.ofString "self") = some (.ref x) := by rw [← hm]; exact hself
  have quo5 : m5 (Str.ofString "quoted") = some (.bool qd) := by rw [← hm]; exact hquo
  have nch5 : m5 (Str.ofString "nextchar") = some (.str (S ((t.drop p).take 1)) t3) := by rw [← hm]; rfl
  clear hm Φ4 O4 P4 Φ3 O3 P3 Φ2 O2 P2 Φ O P hself hquo
  rcases hz : t.drop p with _ | ⟨c, r⟩
  · rw [hz] at nch5 P5 hrd
    have nch6 : m5 (Str.ofString "nextchar") = some (.str (S []) t3) := nch5
    have P6 : Io h5 I dI nl (.str (S t) ub) (.int ((p : Nat) : Int) pu3) := P5
    clear nch5 P5
    have hpe : p = t.length := by have := congrArg List.length hz; rw [List.length_drop, List.length_nil] at this; omega
    rcases st with _ | (_ | _ | _)
    · obtain ⟨rfl, rfl⟩ := hok
      have O6 : Lx h5 x dx I PB FS u (.str (S []) cu) (.bool true) (.none) (.str (S []) tu) (.int ln5 lu5) := O5
      clear O5
      walk_at "r q_cons;r q_If;hm q_ctest;y y_debug;r k_int;r PyProof.Rows.ge_int;r wpAny_truthy_bool;dn;r q_nil;r q_cons;r q_If;hm q_ctest;y y_state;r wpAny_Constant_none;r is_none_none;r wpAny_truthy_bool;r q_cons;hs q_aattr"; (with_reducible refine k_str [] (by decide +kernel) ?_); walk_at "l n_loc;z z_token;r q_cons;r wpAny_Break"
      rename_i h9 k9 Φ9 kb9 O9 P9
      subst hQt
      exact tokB_mk (su := su) (st := none) (tok := []) (qd := false) (p := p) ⟨Φ9, self5, quo5, O9, P9, (by walk_at "k3"), hp, by simp⟩ (by rw [← hrd, hz]; rfl) (.inr ⟨rfl, hpe⟩)
    · obtain ⟨rfl, rfl⟩ := hok
      have O6 : Lx h5 x dx I PB FS u (.str (S []) cu) (.bool true) (.str (S [32]) su) (.str (S []) tu) (.int ln5 lu5) := O5
      clear O5
      walk_at "r q_cons;r q_If;hm q_ctest;y y_debug;r k_int;r PyProof.Rows.ge_int;r wpAny_truthy_bool;dn;r q_nil;r q_cons;r q_If;hm q_ctest;y y_state;r wpAny_Constant_none;r is_str_none;r wpAny_truthy_bool;r q_cons;r q_If;hm q_ctest;y y_state"; (with_reducible refine k_str [32] (by decide +kernel) ?_); walk_at "r r_eqS;r wpAny_truthy_bool"; (with_reducible refine if_dt ?dn24 ?dq24); (case dn24 => decide); walk_at "r q_cons;r q_If;r q_not;r q_tn;l n_loc"; (with_reducible refine r_truthy ?tl5 ?th5); (case tl5 => first | assumption | decide | (simp; done) | omega); walk_at "r if_e0;r q_cons;hs q_aattr;r wpAny_Constant_none;l n_loc;z z_state;r q_cons;r wpAny_Break"
      rename_i h9 k9 Φ9 kb9 O9 P9
      subst hQt
      exact tokB_mk (su := su) (st := none) (tok := []) (qd := false) (p := p) ⟨Φ9, self5, quo5, O9, P9, (by walk_at "k3"), hp, by simp⟩ (by rw [← hrd, hz]; rfl) (.inr ⟨rfl, hpe⟩)
    · clear hok
      have O6 : Lx h5 x dx I PB FS u (.str (S []) cu) (.bool true) (.str (S [39]) su) (.str (S tok) tu) (.int ln5 lu5) := O5
      clear O5
      walk_at "r q_cons;r q_If;hm q_ctest;y y_debug;r k_int;r PyProof.Rows.ge_int;r wpAny_truthy_bool;dn;r q_nil;r q_cons;r q_If;hm q_ctest;y y_state;r wpAny_Constant_none;r is_str_none;r wpAny_truthy_bool;r q_cons;r q_If;hm q_ctest;y y_state"; (with_reducible refine k_str [32] (by decide +kernel) ?_); walk_at "r r_eqS;r wpAny_truthy_bool;dn;r q_cons;r q_If;hm q_ctest;y y_state;y y_quotes;r r_in;r wpAny_truthy_bool"; (with_reducible refine if_dt ?dn26 ?dq26); (case dn26 => decide); walk_at "r q_cons;hs q_asn;r wpAny_Constant_bool;sL;r q_cons;r q_If;r q_not;r q_tn;l n_loc"; (with_reducible refine r_truthy ?tl7 ?th7); (case tl7 => first | assumption | decide | (simp; done) | omega); walk_at "r if_e0;r q_cons;r q_If;hm q_ctest;y y_debug;r k_int;r PyProof.Rows.ge_int;r wpAny_truthy_bool;dn;r q_nil;r q_cons"
      rename_i h9 Φ9 kb9 O9 P9
      have raise : ∀ k' e h' vs, Heap.MadeExc h9 h' e "ValueError" vs → E (.ref e) (up s h' k') := fun k' e h' vs mx =>
        hE (by rw [← hrd]; rfl) (some .q) tok true p _ h9 su tu ln5 lu5 pu3 k' e h' vs ⟨Φ9, self5, rfl, O9, P9, (by walk_at "k3"), hp, by omega⟩ mx
      with_reducible refine Raise_madeB F.excCall_ValueError F.excRaise_ValueError hA ?r1 ?r2 ?r3
      case r2 => rfl
      case r3 => rfl
      walk_at "b n_blt Boot.ValueError"
      refine ⟨rfl, ?_⟩
      walk_at "he q_acons"
      refine k_raw ?_
      walk_at "r args_nil"
      exact ⟨by rw [sizeLine_eq]; simp, fun h' e mx => raise _ _ _ _ mx⟩
    · skip
      have O6 : Lx h5 x dx I PB FS u (.str (S []) cu) (.bool true) (.str (S [97]) su) (.str (S tok) tu) (.int ln5 lu5) := O5
      clear O5
      walk_at "r q_cons;r q_If;hm q_ctest;y y_debug;r k_int;r PyProof.Rows.ge_int;r wpAny_truthy_bool;dn;r q_nil;r q_cons;r q_If;hm q_ctest;y y_state;r wpAny_Constant_none;r is_str_none;r wpAny_truthy_bool;r q_cons;r q_If;hm q_ctest;y y_state"; (with_reducible refine k_str [32] (by decide +kernel) ?_); walk_at "r r_eqS;r wpAny_truthy_bool;dn;r q_cons;r q_If;hm q_ctest;y y_state;y y_quotes;r r_in;r wpAny_truthy_bool;dn;r q_cons;r q_If;hm q_ctest;y y_state;y y_escape;r r_in;r wpAny_truthy_bool;dn;r q_cons;r q_If;hm q_ctest;y y_state;r q_tup;he q_acons"; (with_reducible refine k_str [97] (by decide +kernel) ?_); walk_at "he q_acons"; (with_reducible refine k_str [99] (by decide +kernel) ?_); walk_at "r args_nil"
      refine k_newTuple Φ5 (by simp) fun h6 kp6 Φ6 hT => ?_
      have O7 := O6.keeps kp6
      have P7 := P6.keeps kp6
      refine r_inAC hT ?_
      walk_at "r wpAny_truthy_bool;r q_cons;r q_If;r q_not;r q_tn;l n_loc"; (with_reducible refine r_truthy ?tl8 ?th8); (case tl8 => first | assumption | decide | (simp; done) | omega); walk_at "r if_e0;r q_cons;hs q_aattr;r wpAny_Constant_none;l n_loc;z z_state;r q_cons;r wpAny_Break"
      rename_i h9 k9 Φ9 kb9 O9 P9
      subst hQt
      exact tokB_mk (su := su) (st := none) (tok := tok) (qd := qd) (p := p) ⟨Φ9, self5, quo5, O9, P9, (by walk_at "k3"), hp, by omega⟩ (by rw [← hrd, hz]; exact (congrArg (fun z => some (z, none, [])) (if_neg (by rintro ⟨rfl, rfl⟩; simp [okS] at hok))).symm) (.inr ⟨rfl, hpe⟩)
  · rw [hz] at nch5 P5 hrd
    have nch6 : m5 (Str.ofString "nextchar") = some (.str (S [c]) t3) := nch5
    have P6 : Io h5 I dI nl (.str (S t) ub) (.int ((p + 1 : Nat) : Int) pu3) := P5
    clear nch5 P5
    have hct : c ∈ t := List.mem_of_mem_drop (by rw [hz]; exact .head _)
    have hdr : t.drop (p + 1) = r := by rw [← List.drop_drop, hz]; rfl
    have hlt : p < t.length := by have := congrArg List.length hz; rw [List.length_drop, List.length_cons] at this; omega
    obtain ⟨hc34, hc92⟩ := hc c hct
    rcases st with _ | (_ | _ | _)
    · exact absurd (hno rfl) (Nat.ne_of_lt hlt)
    · obtain ⟨rfl, rfl⟩ := hok
      by_cases h39 : c = 39
      · subst h39
        have O6 : Lx h5 x dx I PB FS u (.str (S []) cu) (.bool true) (.str (S [32]) su) (.str (S []) tu) (.int ln5 lu5) := O5
        clear O5
        walk_at "r q_cons;r q_If;hm q_ctest;y y_debug;r k_int;r PyProof.Rows.ge_int;r wpAny_truthy_bool;dn;r q_nil;r q_cons;r q_If;hm q_ctest;y y_state;r wpAny_Constant_none;r is_str_none;r wpAny_truthy_bool;r q_cons;r q_If;hm q_ctest;y y_state"; (with_reducible refine k_str [32] (by decide +kernel) ?_); walk_at "r r_eqS;r wpAny_truthy_bool"; (with_reducible refine if_dt ?dn29 ?dq29); (case dn29 => decide); walk_at "r q_cons;r q_If;r q_not;r q_tn;l n_loc"; (with_reducible refine r_truthy ?tl10 ?th10); (case tl10 => first | assumption | decide | (simp; done) | omega); walk_at "r if_e1;r q_cons;r q_If;hm q_ctest;l n_loc;y y_whitespace;r r_in;r wpAny_truthy_bool;dn;r q_cons;r q_If;hm q_ctest;l n_loc;y y_commenters;r r_in;r wpAny_truthy_bool;dn;r q_cons;r q_If;r q_and;r q_ta;y y_posix;r wpAny_truthy_bool;r q_and;hm q_ctest;l n_loc;y y_escape;r r_in;r wpAny_truthy_bool;dn;r q_cons;r q_If;hm q_ctest;l n_loc;y y_wordchars;r r_in;r wpAny_truthy_bool;dn;r q_cons;r q_If;hm q_ctest;l n_loc"; (with_reducible refine' y_punct ?ua11 ?ub11 ?uc11 ?ud11 ?ue11 ?uf11 ?ug11 ?uh11 ?ui11); (case ua11 => assumption); (case uc11 => assumption); (case ub11 => first | assumption | rfl); (case ud11 => assumption); (case ue11 => assumption); (case ug11 => kernel_rfl); (case uh11 => kernel_rfl); (case ui11 => decide); (intro _ _ _ _ _ _); walk_at "r r_in;r wpAny_truthy_bool;dn;r q_cons;r q_If;hm q_ctest;l n_loc;y y_quotes;r r_in;r wpAny_truthy_bool"; (with_reducible refine if_dt ?dn212 ?dq212); (case dn212 => decide); walk_at "r q_cons;r q_If;r q_not;r q_ta;y y_posix;r wpAny_truthy_bool;r q_nil;r q_cons;hs q_aattr;l n_loc;l n_loc;z z_state;r q_nil;r q_nil;r q_nil;r q_nil;r q_nil;r q_nil;r q_nil;r q_nil;r q_nil;r q_nil"
        rename_i h9 k9 Φ9 kb9 O9 P9
        subst hQt
        exact tokJ_mk (st := some .q) (tok := []) (qd := false) (p := p + 1) ⟨Φ9, self5, quo5, O9, P9, (by walk_at "k3"), hlt, Nat.zero_le _⟩ (by omega) (by rw [hdr, ← hrd]; rfl) trivial (by intro q; cases q)
      · have hq1 : c ∉ [39, 34] := by simp [h39, hc34]
        have hq2 : c ∉ [92] := by simp [hc92]
        have O6 : Lx h5 x dx I PB FS u (.str (S []) cu) (.bool true) (.str (S [32]) su) (.str (S []) tu) (.int ln5 lu5) := O5
        clear O5
        walk_at "r q_cons;r q_If;hm q_ctest;y y_debug;r k_int;r PyProof.Rows.ge_int;r wpAny_truthy_bool;dn;r q_nil;r q_cons;r q_If;hm q_ctest;y y_state;r wpAny_Constant_none;r is_str_none;r wpAny_truthy_bool;r q_cons;r q_If;hm q_ctest;y y_state"; (with_reducible refine k_str [32] (by decide +kernel) ?_); walk_at "r r_eqS;r wpAny_truthy_bool"; (with_reducible refine if_dt ?dn213 ?dq213); (case dn213 => decide); walk_at "r q_cons;r q_If;r q_not;r q_tn;l n_loc"; (with_reducible refine r_truthy ?tl14 ?th14); (case tl14 => first | assumption | decide | (simp; done) | omega); walk_at "r if_e1;r q_cons;r q_If;hm q_ctest;l n_loc;y y_whitespace;r r_in;r wpAny_truthy_bool"
        refine if_ws (fun hw => ?_) (fun hw => ?_)
        · (walk_at "r q_cons;r q_If;hm q_ctest;y y_debug;r k_int;r PyProof.Rows.ge_int;r wpAny_truthy_bool;dn;r q_nil;r q_cons;r q_If;r q_or;r q_ta;y y_token"; (with_reducible refine r_truthy ?tl15 ?th15); (case tl15 => first | assumption | decide | (simp; done) | omega); walk_at "r if_e0;r q_or;r q_and;r q_ta;y y_posix;r wpAny_truthy_bool;r q_and;r q_tn;l n_loc;r wpAny_truthy_bool;r isTrue_or_nil;r q_cons;r wpAny_Continue")
          subst hQt
          exact tokJ_mk (st := some .sp) (tok := []) (qd := false) (p := p + 1) ⟨Φ5, self5, quo5, O6, P6, (by walk_at "k3"), hlt, Nat.zero_le _⟩ (by omega) (by rw [hdr, ← hrd]; exact (if_pos hw).symm) ⟨rfl, rfl⟩ (by intro q; cases q)
        · (walk_at "r q_cons;r q_If;hm q_ctest;l n_loc;y y_commenters;r r_in;r wpAny_truthy_bool;dn;r q_cons;r q_If;r q_and;r q_ta;y y_posix;r wpAny_truthy_bool;r q_and;hm q_ctest;l n_loc;y y_escape;r r_in;r wpAny_truthy_bool;dn;r q_cons;r q_If;hm q_ctest;l n_loc;y y_wordchars;r r_in;r wpAny_truthy_bool")
          refine if_dec (fun hwc => ?_) (fun hwc => ?_)
          · (walk_at "r q_cons;hs q_aattr;l n_loc;l n_loc;z z_token;r q_cons;hs q_aattr"; (with_reducible refine k_str [97] (by decide +kernel) ?_); walk_at "l n_loc;z z_state;r q_nil;r q_nil;r q_nil;r q_nil;r q_nil;r q_nil;r q_nil;r q_nil")
            rename_i h9 k9 Φ9 kb9 O9 P9
            subst hQt
            exact tokJ_mk (st := some .a) (tok := [c]) (qd := false) (p := p + 1) ⟨Φ9, self5, quo5, O9, P9, (by walk_at "k3"), hlt, (by simp)⟩ (by omega) (by rw [hdr, ← hrd]; exact ((if_neg (by rw [hw]; exact Bool.false_ne_true)).trans (if_neg h39)).symm) (.inl (List.cons_ne_nil _ _)) (by intro q; cases q)
          · (walk_at "r q_cons;r q_If;hm q_ctest;l n_loc"; (with_reducible refine' y_punct ?ua16 ?ub16 ?uc16 ?ud16 ?ue16 ?uf16 ?ug16 ?uh16 ?ui16); (case ua16 => assumption); (case uc16 => assumption); (case ub16 => first | assumption | rfl); (case ud16 => assumption); (case ue16 => assumption); (case ug16 => kernel_rfl); (case uh16 => kernel_rfl); (case ui16 => decide); (intro _ _ _ _ _ _); walk_at "r r_in;r wpAny_truthy_bool;dn;r q_cons;r q_If;hm q_ctest;l n_loc;y y_quotes;r r_in;r wpAny_truthy_bool;dn;r q_cons;r q_If;r q_ta;y y_whitespace_split;r wpAny_truthy_bool;r q_cons;hs q_aattr;l n_loc;l n_loc;z z_token;r q_cons;hs q_aattr"; (with_reducible refine k_str [97] (by decide +kernel) ?_); walk_at "l n_loc;z z_state;r q_nil;r q_nil;r q_nil;r q_nil;r q_nil;r q_nil;r q_nil;r q_nil;r q_nil;r q_nil;r q_nil")
            rename_i h9 k9 Φ9 kb9 O9 P9
            subst hQt
            exact tokJ_mk (st := some .a) (tok := [c]) (qd := false) (p := p + 1) ⟨Φ9, self5, quo5, O9, P9, (by walk_at "k3"), hlt, (by simp)⟩ (by omega) (by rw [hdr, ← hrd]; exact ((if_neg (by rw [hw]; exact Bool.false_ne_true)).trans (if_neg h39)).symm) (.inl (List.cons_ne_nil _ _)) (by intro q; cases q)
    · clear hok
      by_cases h39 : c = 39
      · subst h39
        have O6 : Lx h5 x dx I PB FS u (.str (S []) cu) (.bool true) (.str (S [39]) su) (.str (S tok) tu) (.int ln5 lu5) := O5
        clear O5
        walk_at "r q_cons;r q_If;hm q_ctest;y y_debug;r k_int;r PyProof.Rows.ge_int;r wpAny_truthy_bool;dn;r q_nil;r q_cons;r q_If;hm q_ctest;y y_state;r wpAny_Constant_none;r is_str_none;r wpAny_truthy_bool;r q_cons;r q_If;hm q_ctest;y y_state"; (with_reducible refine k_str [32] (by decide +kernel) ?_); walk_at "r r_eqS;r wpAny_truthy_bool;dn;r q_cons;r q_If;hm q_ctest;y y_state;y y_quotes;r r_in;r wpAny_truthy_bool"; (with_reducible refine if_dt ?dn217 ?dq217); (case dn217 => decide); walk_at "r q_cons;hs q_asn;r wpAny_Constant_bool;sL;r q_cons;r q_If;r q_not;r q_tn;l n_loc"; (with_reducible refine r_truthy ?tl18 ?th18); (case tl18 => first | assumption | decide | (simp; done) | omega); walk_at "r if_e1;r q_nil;r q_cons;r q_If;hm q_ctest;l n_loc;y y_state;r r_eqS;r wpAny_truthy_bool"; (with_reducible refine if_dt ?dn219 ?dq219); (case dn219 => decide); walk_at "r q_cons;r q_If;r q_not;r q_ta;y y_posix;r wpAny_truthy_bool;r q_cons;hs q_aattr"; (with_reducible refine k_str [97] (by decide +kernel) ?_); walk_at "l n_loc;z z_state;r q_nil;r q_nil;r q_nil;r q_nil;r q_nil;r q_nil"
        rename_i h9 k9 Φ9 kb9 O9 P9
        subst hQt
        exact tokJ_mk (st := some .a) (tok := tok) (qd := true) (p := p + 1) ⟨Φ9, self5, rfl, O9, P9, (by walk_at "k3"), hlt, (by omega)⟩ (by omega) (by rw [hdr, ← hrd]; rfl) (.inr rfl) (by intro q; cases q)
      · have hq1 : c ∉ [39, 34] := by simp [h39, hc34]
        have hq2 : c ∉ [92] := by simp [hc92]
        have hq3 : [c] ≠ [39] := by simp [h39]
        have O6 : Lx h5 x dx I PB FS u (.str (S []) cu) (.bool true) (.str (S [39]) su) (.str (S tok) tu) (.int ln5 lu5) := O5
        clear O5
        walk_at "r q_cons;r q_If;hm q_ctest;y y_debug;r k_int;r PyProof.Rows.ge_int;r wpAny_truthy_bool;dn;r q_nil;r q_cons;r q_If;hm q_ctest;y y_state;r wpAny_Constant_none;r is_str_none;r wpAny_truthy_bool;r q_cons;r q_If;hm q_ctest;y y_state"; (with_reducible refine k_str [32] (by decide +kernel) ?_); walk_at "r r_eqS;r wpAny_truthy_bool;dn;r q_cons;r q_If;hm q_ctest;y y_state;y y_quotes;r r_in;r wpAny_truthy_bool"; (with_reducible refine if_dt ?dn220 ?dq220); (case dn220 => decide); walk_at "r q_cons;hs q_asn;r wpAny_Constant_bool;sL;r q_cons;r q_If;r q_not;r q_tn;l n_loc"; (with_reducible refine r_truthy ?tl21 ?th21); (case tl21 => first | assumption | decide | (simp; done) | omega); walk_at "r if_e1;r q_nil;r q_cons;r q_If;hm q_ctest;l n_loc;y y_state;r r_eqS;r wpAny_truthy_bool;dn;r q_cons;r q_If;r q_and;r q_ta;y y_posix;r wpAny_truthy_bool;r q_and;hm q_ctest;l n_loc;y y_escape;r r_in;r wpAny_truthy_bool;dn;r q_cons;r q_auga;l n_loc"; (with_reducible refine' g_token ?ga22 ?gb22 ?gc22 ?gd22); (case ga22 => assumption); (case gb22 => assumption); (case gc22 => first | assumption | rfl); walk_at "l n_loc"
        refine r_iadd (by simp; omega) fun t7 k7 hk7 => ?_
        walk_at "z z_token;r q_nil;r q_nil;r q_nil;r q_nil;r q_nil;r q_nil"
        rename_i h9 k9 Φ9 kb9 O9 P9
        subst hQt
        exact tokJ_mk (st := some .q) (tok := tok ++ [c]) (qd := true) (p := p + 1) ⟨Φ9, self5, rfl, O9, P9, (by walk_at "k3"), hlt, (by simp; omega)⟩ (by omega) (by rw [hdr, ← hrd]; exact (if_neg h39).symm) trivial (by intro q; cases q)
    · by_cases h39 : c = 39
      · subst h39
        have O6 : Lx h5 x dx I PB FS u (.str (S []) cu) (.bool true) (.str (S [97]) su) (.str (S tok) tu) (.int ln5 lu5) := O5
        clear O5
        walk_at "r q_cons;r q_If;hm q_ctest;y y_debug;r k_int;r PyProof.Rows.ge_int;r wpAny_truthy_bool;dn;r q_nil;r q_cons;r q_If;hm q_ctest;y y_state;r wpAny_Constant_none;r is_str_none;r wpAny_truthy_bool;r q_cons;r q_If;hm q_ctest;y y_state"; (with_reducible refine k_str [32] (by decide +kernel) ?_); walk_at "r r_eqS;r wpAny_truthy_bool;dn;r q_cons;r q_If;hm q_ctest;y y_state;y y_quotes;r r_in;r wpAny_truthy_bool;dn;r q_cons;r q_If;hm q_ctest;y y_state;y y_escape;r r_in;r wpAny_truthy_bool;dn;r q_cons;r q_If;hm q_ctest;y y_state;r q_tup;he q_acons"; (with_reducible refine k_str [97] (by decide +kernel) ?_); walk_at "he q_acons"; (with_reducible refine k_str [99] (by decide +kernel) ?_); walk_at "r args_nil"
        refine k_newTuple Φ5 (by simp) fun h6 kp6 Φ6 hT => ?_
        have O7 := O6.keeps kp6
        have P7 := P6.keeps kp6
        refine r_inAC hT ?_
        walk_at "r wpAny_truthy_bool;r q_cons;r q_If;r q_not;r q_tn;l n_loc"; (with_reducible refine r_truthy ?tl23 ?th23); (case tl23 => first | assumption | decide | (simp; done) | omega); walk_at "r if_e1;r q_cons;r q_If;hm q_ctest;l n_loc;y y_whitespace;r r_in;r wpAny_truthy_bool;dn;r q_cons;r q_If;hm q_ctest;l n_loc;y y_commenters;r r_in;r wpAny_truthy_bool;dn;r q_cons;r q_If;hm q_ctest;y y_state"; (with_reducible refine k_str [99] (by decide +kernel) ?_); walk_at "r r_eqS;r wpAny_truthy_bool;dn;r q_cons;r q_If;r q_and;r q_ta;y y_posix;r wpAny_truthy_bool;r q_and;hm q_ctest;l n_loc;y y_quotes;r r_in;r wpAny_truthy_bool"; (with_reducible refine if_dt ?dn224 ?dq224); (case dn224 => decide); walk_at "r isTrue_and_nil;r q_cons;hs q_aattr;l n_loc;l n_loc;z z_state;r q_nil;r q_nil;r q_nil;r q_nil;r q_nil;r q_nil;r q_nil;r q_nil;r q_nil;r q_nil;r q_nil"
        rename_i h9 k9 Φ9 kb9 O9 P9
        subst hQt
        exact tokJ_mk (st := some .q) (tok := tok) (qd := qd) (p := p + 1) ⟨Φ9, self5, quo5, O9, P9, (by walk_at "k3"), hlt, (by omega)⟩ (by omega) (by rw [hdr, ← hrd]; rfl) trivial (by intro q; cases q)
      · have hq1 : c ∉ [39, 34] := by simp [h39, hc34]
        have hq2 : c ∉ [92] := by simp [hc92]
        have O6 : Lx h5 x dx I PB FS u (.str (S []) cu) (.bool true) (.str (S [97]) su) (.str (S tok) tu) (.int ln5 lu5) := O5
        clear O5
        walk_at "r q_cons;r q_If;hm q_ctest;y y_debug;r k_int;r PyProof.Rows.ge_int;r wpAny_truthy_bool;dn;r q_nil;r q_cons;r q_If;hm q_ctest;y y_state;r wpAny_Constant_none;r is_str_none;r wpAny_truthy_bool;r q_cons;r q_If;hm q_ctest;y y_state"; (with_reducible refine k_str [32] (by decide +kernel) ?_); walk_at "r r_eqS;r wpAny_truthy_bool;dn;r q_cons;r q_If;hm q_ctest;y y_state;y y_quotes;r r_in;r wpAny_truthy_bool;dn;r q_cons;r q_If;hm q_ctest;y y_state;y y_escape;r r_in;r wpAny_truthy_bool;dn;r q_cons;r q_If;hm q_ctest;y y_state;r q_tup;he q_acons"; (with_reducible refine k_str [97] (by decide +kernel) ?_); walk_at "he q_acons"; (with_reducible refine k_str [99] (by decide +kernel) ?_); walk_at "r args_nil"
        refine k_newTuple Φ5 (by simp) fun h6 kp6 Φ6 hT => ?_
        have O7 := O6.keeps kp6
        have P7 := P6.keeps kp6
        refine r_inAC hT ?_
        walk_at "r wpAny_truthy_bool;r q_cons;r q_If;r q_not;r q_tn;l n_loc"; (with_reducible refine r_truthy ?tl25 ?th25); (case tl25 => first | assumption | decide | (simp; done) | omega); walk_at "r if_e1;r q_cons;r q_If;hm q_ctest;l n_loc;y y_whitespace;r r_in;r wpAny_truthy_bool"
        refine if_ws (fun hw => ?_) (fun hw => ?_)
        · (walk_at "r q_cons;r q_If;hm q_ctest;y y_debug;r k_int;r PyProof.Rows.ge_int;r wpAny_truthy_bool;dn;r q_nil;r q_cons;hs q_aattr"; (with_reducible refine k_str [32] (by decide +kernel) ?_); walk_at "l n_loc;z z_state;r q_cons;r q_If;r q_or;r q_ta;y y_token"; (with_reducible refine r_truthy ?tl26 ?th26); (case tl26 => first | assumption | decide | (simp; done) | omega))
          rename_i h9 k9 Φ9 kb9 O9 P9
          have fin : ∀ k', TokB w mg mb s b₀ h₁ L x dx I dI PB FS u cu ub nl t rd (up s h9 k') := fun k' => by
            exact tokB_mk (su := _) (st := some .sp) (tok := tok) (qd := qd) (p := p + 1) ⟨Φ9, self5, quo5, O9, P9, (by walk_at "k3"), hlt, by omega⟩ (by rw [← hrd, hdr]; exact (if_pos hw).trans (congrArg (fun z => some (z, some St.sp, r)) (if_neg (by rintro ⟨rfl, rfl⟩; simp [okS] at hok)).symm)) (.inl rfl)
          clear hrd
          rcases tok with _ | ⟨a0, tok1⟩
          · obtain rfl : qd = true := by simpa [okS] using hok
            walk_at "r if_e0;r q_or;r q_and;r q_ta;y y_posix;r wpAny_truthy_bool;r q_and;r q_tn;l n_loc;r wpAny_truthy_bool;r isTrue_and_nil;r q_cons;r wpAny_Break"
            subst hQt
            exact fin _
          · (walk_at "r if_e1;r q_cons;r wpAny_Break")
            subst hQt
            exact fin _
        · (walk_at "r q_cons;r q_If;hm q_ctest;l n_loc;y y_commenters;r r_in;r wpAny_truthy_bool;dn;r q_cons;r q_If;hm q_ctest;y y_state"; (with_reducible refine k_str [99] (by decide +kernel) ?_); walk_at "r r_eqS;r wpAny_truthy_bool;dn;r q_cons;r q_If;r q_and;r q_ta;y y_posix;r wpAny_truthy_bool;r q_and;hm q_ctest;l n_loc;y y_quotes;r r_in;r wpAny_truthy_bool;dn;r q_cons;r q_If;r q_and;r q_ta;y y_posix;r wpAny_truthy_bool;r q_and;hm q_ctest;l n_loc;y y_escape;r r_in;r wpAny_truthy_bool;dn;r q_cons;r q_If;r q_or;hm q_ctest;l n_loc;y y_wordchars;r r_in;r wpAny_truthy_bool")
          refine if_dec (fun hwc => ?_) (fun hwc => ?_)
          · (walk_at "r q_cons;r q_auga;l n_loc"; (with_reducible refine' g_token ?ga27 ?gb27 ?gc27 ?gd27); (case ga27 => assumption); (case gb27 => assumption); (case gc27 => first | assumption | rfl); walk_at "l n_loc")
            refine r_iadd (by simp; omega) fun t7 k7 hk7 => ?_
            walk_at "z z_token;r q_nil;r q_nil;r q_nil;r q_nil;r q_nil;r q_nil;r q_nil;r q_nil;r q_nil;r q_nil;r q_nil;r q_nil;r q_nil"
            rename_i h9 k9 Φ9 kb9 O9 P9
            subst hQt
            exact tokJ_mk (st := some .a) (tok := tok ++ [c]) (qd := qd) (p := p + 1) ⟨Φ9, self5, quo5, O9, P9, (by walk_at "k3"), hlt, (by simp; omega)⟩ (by omega) (by rw [hdr, ← hrd]; exact ((if_neg (by rw [hw]; exact Bool.false_ne_true)).trans (if_neg h39)).symm) (.inl (by simp)) (by intro q; cases q)
          · (walk_at "r q_or;hm q_ctest;l n_loc;y y_quotes;r r_in;r wpAny_truthy_bool;dn;r q_or;r q_and;r q_ta;y y_whitespace_split;r wpAny_truthy_bool;r q_and;hm q_ctest;l n_loc"; (with_reducible refine' y_punct ?ua28 ?ub28 ?uc28 ?ud28 ?ue28 ?uf28 ?ug28 ?uh28 ?ui28); (case ua28 => assumption); (case uc28 => assumption); (case ub28 => first | assumption | rfl); (case ud28 => assumption); (case ue28 => assumption); (case ug28 => kernel_rfl); (case uh28 => kernel_rfl); (case ui28 => decide); (intro _ _ _ _ _ _); walk_at "r r_notin;r wpAny_truthy_bool;r if_nin;r isTrue_and_nil;r q_cons;r q_auga;l n_loc"; (with_reducible refine' g_token ?ga29 ?gb29 ?gc29 ?gd29); (case ga29 => assumption); (case gb29 => assumption); (case gc29 => first | assumption | rfl); walk_at "l n_loc")
            refine r_iadd (by simp; omega) fun t7 k7 hk7 => ?_
            walk_at "z z_token;r q_nil;r q_nil;r q_nil;r q_nil;r q_nil;r q_nil;r q_nil;r q_nil;r q_nil;r q_nil;r q_nil;r q_nil;r q_nil"
            rename_i h9 k9 Φ9 kb9 O9 P9
            subst hQt
            exact tokJ_mk (st := some .a) (tok := tok ++ [c]) (qd := qd) (p := p + 1) ⟨Φ9, self5, quo5, O9, P9, (by walk_at "k3"), hlt, (by simp; omega)⟩ (by omega) (by rw [hdr, ← hrd]; exact ((if_neg (by rw [hw]; exact Bool.false_ne_true)).trans (if_neg h39)).symm) (.inl (by simp)) (by intro q; cases q)
end
noncomputable def shlO : Option St → T → Option (List T)
  | none, _ => some []
  | some _, r => shl .sp [] r
theorem shl_rd : ∀ (r : T) (st : St) (tok : T) (q : Bool), (st = .sp → tok = []) →
    shl st tok r = match rdTok st tok q r with
      | none => none
      | some (none, _, _) => some []
      | some (some o, st', r') => (shlO st' r').map (o :: ·)
  | [], .sp, tok, q, _ => rfl
  | [], .q, tok, q, _ => rfl
  | [], .a, tok, q, _ => rfl
  | c :: r, .sp, tok, q, _ => by
    unfold shl rdTok
    split
    · exact shl_rd r .sp [] q fun _ => rfl
    · split
      · exact shl_rd r .q [] q fun h => nomatch h
      · exact shl_rd r .a [c] q fun h => nomatch h
  | c :: r, .q, tok, q, _ => by
    unfold shl rdTok
    split
    · exact shl_rd r .a tok true fun h => nomatch h
    · exact shl_rd r .q (tok ++ [c]) true fun h => nomatch h
  | c :: r, .a, tok, q, _ => by
    unfold shl rdTok
    split
    · rfl
    · split
      · exact shl_rd r .q tok q fun h => nomatch h
      · exact shl_rd r .a (tok ++ [c]) q fun h => nomatch h
theorem rd_lt : ∀ (r : T) (st : St) (tok : T) (q : Bool) (o : Option T) (r' : T), rdTok st tok q r = some (o, some .sp, r') → r'.length < r.length
  | [], .sp, tok, q, o, r', h => by cases h
  | [], .q, tok, q, o, r', h => by cases h
  | [], .a, tok, q, o, r', h => by cases h
  | c :: r, .sp, tok, q, o, r', h => by
    unfold rdTok at h
    split at h
    · exact Nat.lt_succ_of_lt (rd_lt r .sp [] q o r' h)
    · split at h
      · exact Nat.lt_succ_of_lt (rd_lt r .q [] q o r' h)
      · exact Nat.lt_succ_of_lt (rd_lt r .a [c] q o r' h)
  | c :: r, .q, tok, q, o, r', h => by
    unfold rdTok at h
    split at h
    · exact Nat.lt_succ_of_lt (rd_lt r .a tok true o r' h)
    · exact Nat.lt_succ_of_lt (rd_lt r .q (tok ++ [c]) true o r' h)
  | c :: r, .a, tok, q, o, r', h => by
    unfold rdTok at h
    split at h
    · cases h; exact Nat.lt_succ_self _
    · split at h
      · exact Nat.lt_succ_of_lt (rd_lt r .q tok q o r' h)
      · exact Nat.lt_succ_of_lt (rd_lt r .a (tok ++ [c]) q o r' h)
theorem shlO_tok {st : Option St} {r : T} {o : T} {st' : Option St} {r' : T} (h : rdO st [] false r = some (some o, st', r')) (hs : st = some .sp ∨ st = none) : st = some .sp ∧ shlO st r = (shlO st' r').map (o :: ·) := by
  rcases hs with rfl | rfl
  · refine ⟨rfl, ?_⟩
    have := shl_rd r .sp [] false fun _ => rfl
    rw [show rdTok .sp [] false r = some (some o, st', r') from h] at this
    exact this
  · cases h
theorem shlO_end {st : Option St} {r : T} {st' : Option St} {r' : T} (h : rdO st [] false r = some (none, st', r')) (hs : st = some .sp ∨ st = none) : shlO st r = some [] := by
  rcases hs with rfl | rfl
  · have := shl_rd r .sp [] false fun _ => rfl
    rw [show rdTok .sp [] false r = some (none, st', r') from h] at this
    exact this
  · rfl
theorem shlO_none {st : Option St} {r : T} (h : rdO st [] false r = none) (hs : st = some .sp ∨ st = none) : shlO st r = none := by
  rcases hs with rfl | rfl
  · have := shl_rd r .sp [] false fun _ => rfl
    rw [show rdTok .sp [] false r = none from h] at this
    exact this
  · cases h
section
variable {A : Around} {E : Value → Shared → Prop} {s : Shared} {hh b₀ : Heap} {tk : Nat} {w : World} {mg mb : Str → Option Value} {x dx I dI PB FS : Addr} {u : Nat → Tok} {cu ub : Tok} {nl : Value} {t : T}
theorem c_tok {pu su tu : Tok} {p : Nat} {ln : Int} {lu : Tok} {st : Option St} {outer : List Env} {Q : Value → Shared → Prop} (o : On w mg mb b₀ hh) (hroom : A.depth + 3 < recursionLimit) (hA : A.handled = none)
    (hfr : A.frames = some outer) (hF : Frs hh outer) (hX : ∀ env ∈ outer, ∀ b ∈ [dx, dI], env.frame ≠ some b)
    (O : Lx hh x dx I PB FS u (.str (S []) cu) (.bool true) (stV su st) (.str (S []) tu) (.int ln lu)) (P : Io hh I dI nl (.str (S t) ub) (.int (p : Nat) pu))
    (hd : b₀.objs.size ≤ dx) (hdI : b₀.objs.size ≤ dI) (a1 : x ≠ dI) (a2 : dx ≠ dI) (a3 : I ≠ dx) (a4 : dI ≠ dx) (hl : t.length ≤ 2 ^ 20) (hp : p ≤ t.length) (hst : st = some .sp ∨ (st = none ∧ p = t.length))
    (hc : ∀ c ∈ t, c ≠ 34 ∧ c ≠ 92)
    (h : ∀ out st' p' h' k su' tu' ln' lu' pu' ru, rdO st [] false (t.drop p) = some (out, st', t.drop p') → (st' = some .sp ∨ (st' = none ∧ p' = t.length)) → p' ≤ t.length → KB [dx, dI] hh h' → hh.objs.size ≤ h'.objs.size →
      Lx h' x dx I PB FS u (.str (S []) cu) (.bool true) (stV su' st') (.str (S []) tu') (.int ln' lu') → Io h' I dI nl (.str (S t) ub) (.int (p' : Nat) pu') → (∀ o, out = some o → o.length ≤ t.length) →
      Q (match out with | none => .none | some o => .str (S o) ru) (up s h' k))
    (hE : rdO st [] false (t.drop p) = none → ∀ e h' k, Fl (.type "ValueError") hh [dx, dI] outer e h' → E (.ref e) (up s h' k)) :
    wpAny (model pw w) A (call (.ref 700) [.ref x]) Q E (up s hh tk) := by
  refine call_on [("self", .ref x)] o (by omega) (f700 _) (by kernel_rfl) (.of_eq (by rfl)) fun h₁ L k hL k1 Φ hk => ?_
  have O1 := O.keeps k1
  have P1 := P.keeps k1
  have n1 : x ≠ L := Nat.ne_of_lt (hL ▸ O.lt)
  have n2 : dx ≠ L := Nat.ne_of_lt (hL ▸ O.dlt)
  have n3 : I ≠ L := Nat.ne_of_lt (hL ▸ P.lt)
  have n4 : dI ≠ L := Nat.ne_of_lt (hL ▸ P.dlt)
  refine q_cons ?_
  walk_at "hs q_asn;r wpAny_Constant_bool;sL;r q_cons;hs q_asn"; (with_reducible refine k_str [32] (by decide +kernel) ?_); walk_at "sL;r q_cons"
  rename_i h2 Φ2 kb2 O2 P2 h3 Φ3 kb3 O3 P3
  have hno : st = none → p = t.length := fun e => hst.elim (fun q => by rw [q] at e; cases e) (·.2)
  have hok : okS st [] false := by rcases hst with rfl | ⟨rfl, _⟩ <;> exact ⟨rfl, rfl⟩
  have hdrop : ∀ {hx}, KB [L, dx, dI] h₁ hx → KB [dx, dI] hh hx := fun kb => ((KB.of k1).trans kb).drop fun b hb => by
    rcases List.mem_cons.mp hb with rfl | hb
    · exact .inr (Nat.le_of_eq hL.symm)
    · exact .inl hb
  with_reducible refine while_W (M := model pw w) (TokJ w mg mb s b₀ h₁ L x dx I dI PB FS u cu ub nl t (rdO st [] false (t.drop p))) (TokB w mg mb s b₀ h₁ L x dx I dI PB FS u cu ub nl t (rdO st [] false (t.drop p))) ?w1 (t.length - p) ?w2 ?w3 ?w4
  case w1 => exact PassesOwn.leaving
  case w2 => exact ⟨st, [], false, p, _, h3, su, tu, ln, lu, pu, _, rfl, ⟨Φ3, rfl, rfl, O3, P3, (by walk_at "k3"), hp, Nat.zero_le _⟩, rfl, rfl, hok, hno⟩
  case w3 =>
    intro n s' hj
    refine tok_turn (by show A.depth + 1 + 2 < _; omega) n1 n2 n3 n4 hd hdI a1 a2 a3 a4 hl hc n s' hj hA fun hn st2 tok2 qd2 p2 m2 hy su2 tu2 ln2 lu2 pu2 k2 e hz vs Z mx => ?_
    have kb := hdrop Z.kb
    refine leave_made (Around.frames_deeper hfr) rfl ((hF.kb kb hX).cons Z.Φ rfl rfl) mx fun hw fl => hE hn e hw _ (fl.kb kb ?_)
    intro b hb
    rw [List.mem_singleton] at hb
    subst hb
    exact .inr (Nat.le_of_eq hL.symm)
  case w4 =>
    rintro _ ⟨st', tok, qd, p', m', h5, su', tu', ln', lu', pu', k', rfl, ⟨Φ5, self5, quo5, O5, P5, kb5, hp5, htl5⟩, hr, hf⟩
    have hr' : ∀ o, (if qd = false ∧ tok = [] then none else some tok) = o → rdO st [] false (t.drop p) = some (o, st', t.drop p') := fun o q => by rw [hr, q]
    rcases qd with _ | _
    · rcases tok with _ | ⟨a, tl⟩
      · (walk_at "r q_cons;hs q_asn;y y_token;sL;r q_cons;hs q_aattr"; (with_reducible refine k_str [] (by decide +kernel) ?_); walk_at "l n_loc;z z_token;r q_cons;r q_If;r q_and;r q_ta;y y_posix;r wpAny_truthy_bool;r q_and;r q_not;r q_tn;l n_loc;r wpAny_truthy_bool;r q_and;hm q_ctest;l n_loc"; (with_reducible refine k_str [] (by decide +kernel) ?_); walk_at "r r_eqS;r wpAny_truthy_bool")
        refine if_dt rfl ?_
        walk_at "r isTrue_and_nil;r q_cons;hs q_asn;r wpAny_Constant_none;sL;r q_nil;r q_cons;r q_If;hm q_ctest;y y_debug;r k_int;r PyProof.Rows.gt_int;r wpAny_truthy_bool;dn;r q_nil;r q_cons;r q_ret;l n_loc"
        rename_i h8 Φ8 kb8 O8 P8
        exact h none st' p' h8 _ su' _ ln' lu' pu' 0 (hr' _ (if_pos ⟨rfl, rfl⟩)) hf hp5 (hdrop (by walk_at "k3")) (hL ▸ Nat.le_of_lt Φ8.lt) O8 P8 (fun o q => nomatch q)
      · (walk_at "r q_cons;hs q_asn;y y_token;sL;r q_cons;hs q_aattr"; (with_reducible refine k_str [] (by decide +kernel) ?_); walk_at "l n_loc;z z_token;r q_cons;r q_If;r q_and;r q_ta;y y_posix;r wpAny_truthy_bool;r q_and;r q_not;r q_tn;l n_loc;r wpAny_truthy_bool;r q_and;hm q_ctest;l n_loc"; (with_reducible refine k_str [] (by decide +kernel) ?_); walk_at "r r_eqS;r wpAny_truthy_bool")
        refine if_dn (List.cons_ne_nil _ _) ?_
        walk_at "r q_nil;r q_cons;r q_If;hm q_ctest;y y_debug;r k_int;r PyProof.Rows.gt_int;r wpAny_truthy_bool;dn;r q_nil;r q_cons;r q_ret;l n_loc"
        rename_i h8 k8 Φ8 kb8 O8 P8
        exact h (some (a :: tl)) st' p' h8 _ su' _ ln' lu' pu' tu' (hr' _ (if_neg fun q => List.cons_ne_nil _ _ q.2)) hf hp5 (hdrop (by walk_at "k3")) (hL ▸ Nat.le_of_lt Φ8.lt) O8 P8 (fun o q => by cases q; omega)
    · (walk_at "r q_cons;hs q_asn;y y_token;sL;r q_cons;hs q_aattr"; (with_reducible refine k_str [] (by decide +kernel) ?_); walk_at "l n_loc;z z_token;r q_cons;r q_If;r q_and;r q_ta;y y_posix;r wpAny_truthy_bool;r q_and;r q_not;r q_tn;l n_loc;r wpAny_truthy_bool;r q_nil;r q_cons;r q_If;hm q_ctest;y y_debug;r k_int;r PyProof.Rows.gt_int;r wpAny_truthy_bool;dn;r q_nil;r q_cons;r q_ret;l n_loc")
      rename_i h8 k8 Φ8 kb8 O8 P8
      exact h (some tok) st' p' h8 _ su' _ ln' lu' pu' tu' (hr' _ (if_neg fun q => nomatch q.1)) hf hp5 (hdrop (by walk_at "k3")) (hL ▸ Nat.le_of_lt Φ8.lt) O8 P8 (fun o q => by cases q; omega)
end
structure Apart (b₀ : Heap) (x dx I dI PB FS : Addr) : Prop where
  hd : b₀.objs.size ≤ dx
  hdI : b₀.objs.size ≤ dI
  a1 : x ≠ dI
  a2 : dx ≠ dI
  a3 : I ≠ dx
  a4 : dI ≠ dx
  p1 : PB ∉ [dx, dI]
  p2 : FS ∉ [dx, dI]
theorem while_1 {prog : Program} {w : World} {A : Around} {E : Value → Shared → Prop} {env : Env} {s : Shared} {Q : Flow → Shared → Prop} {test : Expr} {body : List Stmt} {pos : Pos}
    (hE : PassesOwn (model prog w) A env E)
    (h : wpAny (model prog w) A (isTrue test env (eval test env)) (qWh (model prog w) A env E body Q) E s) :
    wpAny (model prog w) A (exec (.While test body [] pos) env) Q E s := by
  refine wpAny_While (codeAny_whileLoop (R := fun r s' => match r with | .ok f => Q f s' | .error e => cameBackBy (model prog w) A env E e s') (fun _ s' => s' = s) (fun n s' hj => ?_) 0 rfl)
  subst hj
  refine wpAny_passesOwn hE (wpAny_mono h (fun b s₂ h₂ => ?_) fun _ _ z => z)
  cases b
  · exact q_nil h₂
  · exact wpAny_passesOwn hE (wpAny_mono h₂ (fun f s₃ h => by cases f <;> first | exact h.elim | exact h) fun _ _ z => z)
section
variable {A : Around} {E : Value → Shared → Prop} {s : Shared} {hh b₀ : Heap} {tk : Nat} {w : World} {mg mb : Str → Option Value} {x dx I dI PB FS : Addr} {u : Nat → Tok} {cu ub : Tok} {nl : Value} {t : T}
theorem f693 (P : Params) : (K P).lookup 693 = some ⟨.type "function", none, .func (fnOf "get_token" "shlex.get_token" (dA (sm 23 5)) (dB (sm 23 5)) (dS (sm 23 5)) .none .none .none (.str "cpy313.shlex" 1088) none (.ref 692) .none), #[]⟩ := by kernel_rfl
theorem c_get {pu su tu : Tok} {p : Nat} {ln : Int} {lu : Tok} {st : Option St} {outer : List Env} {Q : Value → Shared → Prop} (o : On w mg mb b₀ hh) (hroom : A.depth + 6 < recursionLimit) (hA : A.handled = none)
    (hfr : A.frames = some outer) (hF : Frs hh outer) (hX : ∀ env ∈ outer, ∀ b ∈ [dx, dI], env.frame ≠ some b)
    (O : Lx hh x dx I PB FS u (.str (S []) cu) (.bool true) (stV su st) (.str (S []) tu) (.int ln lu)) (P : Io hh I dI nl (.str (S t) ub) (.int (p : Nat) pu)) (Pq : hh.get? PB = some dq) (Fq : hh.get? FS = some dq)
    (Z : Apart b₀ x dx I dI PB FS) (hl : t.length ≤ 2 ^ 20) (hp : p ≤ t.length) (hst : st = some .sp ∨ (st = none ∧ p = t.length))
    (hc : ∀ c ∈ t, c ≠ 34 ∧ c ≠ 92)
    (h : ∀ out st' p' h' k su' tu' ln' lu' pu' ru, rdO st [] false (t.drop p) = some (out, st', t.drop p') → (st' = some .sp ∨ (st' = none ∧ p' = t.length)) → p' ≤ t.length → KB [dx, dI] hh h' → hh.objs.size ≤ h'.objs.size →
      Lx h' x dx I PB FS u (.str (S []) cu) (.bool true) (stV su' st') (.str (S []) tu') (.int ln' lu') → Io h' I dI nl (.str (S t) ub) (.int (p' : Nat) pu') → (∀ o, out = some o → o.length ≤ t.length) →
      Q (match out with | none => .none | some o => .str (S o) ru) (up s h' k))
    (hE : rdO st [] false (t.drop p) = none → ∀ e h' k, Fl (.type "ValueError") hh [dx, dI] outer e h' → E (.ref e) (up s h' k)) :
    wpAny (model pw w) A (call (.ref 693) [.ref x]) Q E (up s hh tk) := by
  refine call_on [("self", .ref x)] o (by omega) (f693 _) (by kernel_rfl) (.of_eq (by rfl)) fun h₁ L k hL k1 Φ hk => ?_
  have O1 := O.keeps k1
  have P1 := P.keeps k1
  have n1 : x ≠ L := Nat.ne_of_lt (hL ▸ O.lt)
  have n2 : dx ≠ L := Nat.ne_of_lt (hL ▸ O.dlt)
  have n3 : I ≠ L := Nat.ne_of_lt (hL ▸ P.lt)
  have n4 : dI ≠ L := Nat.ne_of_lt (hL ▸ P.dlt)
  have Pq1 := k1 _ _ Pq
  have Fq1 := k1 _ _ Fq
  refine q_cons ?_
  walk_at "r q_If;r q_ta;y y_pushback"
  refine r_dqFalse Pq1 fun k2 => ?_
  walk_at "r q_nil;r q_cons;hs q_asn;M;l n_loc"
  refine meth_ob (f := 700) Φ.gg.X (cls732 _) O1 (by rfl) (by kernel_rfl) (by kernel_rfl) ?_
  refine callWith_K0 Φ.gg.X (by kernel_rfl) ?_
  have hX2 : ∀ env ∈ (envOf "shlex.get_token" (dS (sm 23 5)) L 693 (.ref 692)) :: outer, ∀ b ∈ [dx, dI], env.frame ≠ some b := by
    intro env he b hb
    rcases List.mem_cons.mp he with rfl | he
    · intro q
      have q' : L = b := Option.some.inj q
      subst q'
      rcases List.mem_cons.mp hb with q | hb
      · exact n2 q.symm
      · exact n4 (List.mem_singleton.mp hb).symm
    · exact hX env he b hb
  refine c_tok Φ.on (by show A.depth + 1 + 3 < _; omega) hA (Around.frames_deeper hfr) ((hF.keeps k1).cons Φ rfl rfl) hX2 O1 P1 Z.hd Z.hdI Z.a1 Z.a2 Z.a3 Z.a4 hl hp hst hc ?post ?exc
  case exc =>
    intro hn e h' k fl
    have f1 : Fl (.type "ValueError") hh [L, dx, dI] _ e h' := fl.kb (KB.of k1) fun b hb => .inl (.tail _ hb)
    refine leave_fl (Around.frames_deeper hfr) rfl f1 (.head _) fun h2 f2 => hE hn e h2 k (f2.kb (KB.refl _) fun b hb => ?_)
    rcases List.mem_cons.mp hb with rfl | hb
    · exact .inr (Nat.le_of_eq hL.symm)
    · exact .inl hb
  case post =>
    intro out st' p' h5 k5 su' tu' ln' lu' pu' ru r1 r2 r3 kb5 sz5 O5 P5 lo
    have Φ5 := Φ.kb kb5 (by simp only [List.mem_cons, List.not_mem_nil, or_false]; exact fun q => q.elim (fun q => n2 q.symm) fun q => n4 q.symm) (by
      intro b hb
      rcases List.mem_cons.mp hb with rfl | hb
      · exact Z.hd
      · rw [List.mem_singleton] at hb; subst hb; exact Z.hdI)
    have hdrop : ∀ {h6}, KB [L] h5 h6 → KB [dx, dI] hh h6 := fun kb6 => ((KB.of k1 : KB [L, dx, dI] hh h₁).trans ((kb5.mono fun b hb => .tail _ hb).trans kb6.m0)).drop fun b hb => by
      rcases List.mem_cons.mp hb with rfl | hb
      · exact .inr (Nat.le_of_eq hL.symm)
      · exact .inl hb
    have Fq5 := kb5 _ _ Z.p2 Fq1
    rcases out with _ | out
    · (walk_at "sL;r q_cons;r q_If;hm q_ctest;y y_source;r wpAny_Constant_none;r isnot_none_none;r wpAny_truthy_bool;r q_nil;r q_cons")
      refine while_1 PassesOwn.leaving ?_
      walk_at "hm q_ctest;l n_loc;y y_eof"
      refine (EqNone.eq_none_none ?_ : wpAny _ _ (compareOp .Eq Value.none Value.none) _ _ _)
      walk_at "r wpAny_truthy_bool;r q_cons;r q_If;r q_not;r q_ta;y y_filestack"
      rename_i h6 Φ6 kb6 O6 P6
      refine r_dqFalse (kb6 _ _ (by simp only [List.mem_singleton]; exact fun q => absurd (hL ▸ Heap.lt_size Fq) (q ▸ Nat.lt_irrefl _)) Fq5) fun k6 => ?_
      walk_at "r q_cons;r q_ret;y y_eof"
      exact h none st' p' h6 _ su' tu' ln' lu' pu' ru r1 r2 r3 (hdrop kb6) (hL ▸ Nat.le_of_lt Φ6.lt) O6 P6 lo
    · (walk_at "sL;r q_cons;r q_If;hm q_ctest;y y_source;r wpAny_Constant_none;r isnot_none_none;r wpAny_truthy_bool;r q_nil;r q_cons")
      refine while_1 PassesOwn.leaving ?_
      walk_at "hm q_ctest;l n_loc;y y_eof"
      refine (EqNone.eq_str_none ?_ : wpAny _ _ (compareOp .Eq (Value.str (S out) ru) Value.none) _ _ _)
      walk_at "r wpAny_truthy_bool;r q_cons;r q_If;hm q_ctest;y y_debug;r k_int;r PyProof.Rows.ge_int;r wpAny_truthy_bool;dn;r q_nil;r q_cons;r q_ret;l n_loc"
      rename_i h6 Φ6 kb6 O6 P6
      exact h (some out) st' p' h6 _ su' tu' ln' lu' pu' ru r1 r2 r3 (hdrop kb6) (hL ▸ Nat.le_of_lt Φ6.lt) O6 P6 lo
theorem f729 (P : Params) : (K P).lookup 729 = some ⟨.type "function", none, .func (fnOf "__next__" "shlex.__next__" (dA (sm 23 10)) (dB (sm 23 10)) (dS (sm 23 10)) .none .none .none (.str "cpy313.shlex" 1088) none (.ref 728) .none), #[]⟩ := by kernel_rfl
theorem c_next {pu su tu : Tok} {p : Nat} {ln : Int} {lu : Tok} {st : Option St} {outer : List Env} {Q : Value → Shared → Prop} (o : On w mg mb b₀ hh) (hroom : A.depth + 9 < recursionLimit) (hA : A.handled = none)
    (hfr : A.frames = some outer) (hF : Frs hh outer) (hX : ∀ env ∈ outer, ∀ b ∈ [dx, dI], env.frame ≠ some b)
    (O : Lx hh x dx I PB FS u (.str (S []) cu) (.bool true) (stV su st) (.str (S []) tu) (.int ln lu)) (P : Io hh I dI nl (.str (S t) ub) (.int (p : Nat) pu)) (Pq : hh.get? PB = some dq) (Fq : hh.get? FS = some dq)
    (Z : Apart b₀ x dx I dI PB FS) (hl : t.length ≤ 2 ^ 20) (hp : p ≤ t.length) (hst : st = some .sp ∨ (st = none ∧ p = t.length))
    (hc : ∀ c ∈ t, c ≠ 34 ∧ c ≠ 92)
    (h : ∀ out st' p' h' k su' tu' ln' lu' pu' ru, rdO st [] false (t.drop p) = some ((some out), st', t.drop p') → (st' = some .sp ∨ (st' = none ∧ p' = t.length)) → p' ≤ t.length → KB [dx, dI] hh h' → hh.objs.size ≤ h'.objs.size →
      Lx h' x dx I PB FS u (.str (S []) cu) (.bool true) (stV su' st') (.str (S []) tu') (.int ln' lu') → Io h' I dI nl (.str (S t) ub) (.int (p' : Nat) pu') → out.length ≤ t.length → Q (.str (S out) ru) (up s h' k))
    (hS : ∀ st' p' h₂, rdO st [] false (t.drop p) = some (none, st', t.drop p') → KB [dx, dI] hh h₂ → ∀ e h' k, Fl (.type "StopIteration") hh [dx, dI] outer e h' → E (.ref e) (up s h' k))
    (hE : rdO st [] false (t.drop p) = none → ∀ e h' k, Fl (.type "ValueError") hh [dx, dI] outer e h' → E (.ref e) (up s h' k)) :
    wpAny (model pw w) A (call (.ref 729) [.ref x]) Q E (up s hh tk) := by
  refine call_on [("self", .ref x)] o (by omega) (f729 _) (by kernel_rfl) (.of_eq (by rfl)) fun h₁ L k hL k1 Φ hk => ?_
  have O1 := O.keeps k1
  have P1 := P.keeps k1
  have n1 : x ≠ L := Nat.ne_of_lt (hL ▸ O.lt)
  have n2 : dx ≠ L := Nat.ne_of_lt (hL ▸ O.dlt)
  have n3 : I ≠ L := Nat.ne_of_lt (hL ▸ P.lt)
  have n4 : dI ≠ L := Nat.ne_of_lt (hL ▸ P.dlt)
  have Pq1 := k1 _ _ Pq
  have Fq1 := k1 _ _ Fq
  refine q_cons ?_
  walk_at "hs q_asn;M;l n_loc"
  refine meth_ob (f := 693) Φ.gg.X (cls732 _) O1 (by rfl) (by kernel_rfl) (by kernel_rfl) ?_
  refine callWith_K0 Φ.gg.X (by kernel_rfl) ?_
  have hX2 : ∀ env ∈ (envOf "shlex.__next__" (dS (sm 23 10)) L 729 (.ref 728)) :: outer, ∀ b ∈ [dx, dI], env.frame ≠ some b := by
    intro env he b hb
    rcases List.mem_cons.mp he with rfl | he
    · intro q
      have q' : L = b := Option.some.inj q
      subst q'
      rcases List.mem_cons.mp hb with q | hb
      · exact n2 q.symm
      · exact n4 (List.mem_singleton.mp hb).symm
    · exact hX env he b hb
  have F1 := (hF.keeps k1).cons Φ (env := envOf "shlex.__next__" (dS (sm 23 10)) L 729 (.ref 728)) rfl rfl
  refine c_get Φ.on (by show A.depth + 1 + 6 < _; omega) hA (Around.frames_deeper hfr) F1 hX2 O1 P1 Pq1 Fq1 Z hl hp hst hc ?post ?exc
  case exc =>
    intro hn e h' k fl
    have f1 : Fl (.type "ValueError") hh [L, dx, dI] _ e h' := fl.kb (KB.of k1) fun b hb => .inl (.tail _ hb)
    refine leave_fl (Around.frames_deeper hfr) rfl f1 (.head _) fun h2 f2 => hE hn e h2 k (f2.kb (KB.refl _) fun b hb => ?_)
    rcases List.mem_cons.mp hb with rfl | hb
    · exact .inr (Nat.le_of_eq hL.symm)
    · exact .inl hb
  case post =>
    intro out st' p' h5 k5 su' tu' ln' lu' pu' ru r1 r2 r3 kb5 sz5 O5 P5 lo
    have Φ5 := Φ.kb kb5 (by simp only [List.mem_cons, List.not_mem_nil, or_false]; exact fun q => q.elim (fun q => n2 q.symm) fun q => n4 q.symm) (by
      intro b hb
      rcases List.mem_cons.mp hb with rfl | hb
      · exact Z.hd
      · rw [List.mem_singleton] at hb; subst hb; exact Z.hdI)
    have hdrop : ∀ {h6}, KB [L] h5 h6 → KB [dx, dI] hh h6 := fun kb6 => ((KB.of k1 : KB [L, dx, dI] hh h₁).trans ((kb5.mono fun b hb => .tail _ hb).trans kb6.m0)).drop fun b hb => by
      rcases List.mem_cons.mp hb with rfl | hb
      · exact .inr (Nat.le_of_eq hL.symm)
      · exact .inl hb
    rcases out with _ | out
    · (walk_at "sL;r q_cons;r q_If;hm q_ctest;l n_loc;y y_eof")
      refine (EqNone.eq_none_none ?_ : wpAny _ _ (compareOp .Eq Value.none Value.none) _ _ _)
      walk_at "r wpAny_truthy_bool;r q_cons"
      rename_i h6 Φ6 kb6 O6 P6
      refine owsi_raiseC (s := up s h6 _) hA ?nm fun h7 e mx => ?_
      case nm =>
        walk_at "b n_blt Boot.StopIteration"
        exact ⟨rfl, rfl⟩
      refine leave_made (Around.frames_deeper hfr) rfl ((hF.kb (hdrop kb6) hX).cons Φ6 rfl rfl) mx fun h8 fl => hS st' p' h6 r1 (hdrop kb6) e h8 _ (fl.kb (hdrop kb6) fun b hb => ?_)
      rw [List.mem_singleton] at hb
      subst hb
      exact .inr (Nat.le_of_eq hL.symm)
    · (walk_at "sL;r q_cons;r q_If;hm q_ctest;l n_loc;y y_eof")
      refine (EqNone.eq_str_none ?_ : wpAny _ _ (compareOp .Eq (Value.str (S out) ru) Value.none) _ _ _)
      walk_at "r wpAny_truthy_bool;r q_nil;r q_cons;r q_ret;l n_loc"
      rename_i h6 Φ6 kb6 O6 P6
      exact h out st' p' h6 _ su' tu' ln' lu' pu' ru r1 r2 r3 (hdrop kb6) (hL ▸ Nat.le_of_lt Φ6.lt) O6 P6 (lo _ rfl)
end
noncomputable def Sl (h : Heap) (X : List Addr) (l : List Env) (h' : Heap) : Prop :=
  (∀ b o, b ∉ X → h.get? b = some o → (∀ env ∈ l, env.frame ≠ some b) → h'.get? b = some o) ∧
  (∀ b o, b ∉ X → h.get? b = some o → (∀ vs, o.data ≠ .fields vs) → ∃ sl, h'.get? b = some { o with slots := sl })
theorem Fl.sl {cls : Value} {h h' : Heap} {X : List Addr} {l : List Env} {e : Addr} (f : Fl cls h X l e h') : Sl h X l h' :=
  let ⟨_, _, _, f1, f2, f3, _⟩ := f
  ⟨fun b o nb e nf => f3.1 b o (f1 b o nb e nf), f2⟩
theorem Sl.kb {h₀ h h' : Heap} {X Y : List Addr} {l : List Env} (f : Sl h X l h') (k : KB Y h₀ h) (s : ∀ b ∈ X, b ∈ Y ∨ h₀.objs.size ≤ b) : Sl h₀ Y l h' := by
  have nx : ∀ b o, b ∉ Y → h₀.get? b = some o → b ∉ X := fun b o nb e hx => (s b hx).elim nb fun le => absurd (Heap.lt_size e) (Nat.not_lt.mpr le)
  exact ⟨fun b o nb e => f.1 b o (nx b o nb e) (k b o nb e), fun b o nb e => f.2 b o (nx b o nb e) (k b o nb e)⟩
theorem Fl.cls {cls : Value} {h h' : Heap} {X : List Addr} {l : List Env} {e : Addr} (f : Fl cls h X l e h') : ∃ ob, h'.get? e = some ob ∧ ob.cls = cls :=
  let ⟨_, _, _, _, _, f3, _⟩ := f; f3.there
noncomputable def Strs (items : Array Value) (ts : List T) : Prop := ∃ l : List (Str × Tok), items = (strValues l).toArray ∧ l.map (·.1) = ts.map S
theorem Strs.size {items : Array Value} {ts : List T} (h : Strs items ts) : items.size = ts.length := by
  obtain ⟨l, rfl, e⟩ := h
  have := congrArg List.length e
  simp only [List.length_map] at this
  simp [strValues, this]
theorem Strs.at {items : Array Value} {ts : List T} (h : Strs items ts) (i : Nat) (x : T) (hx : ts[i]? = some x) : ∃ u, items[i]? = some (.str (S x) u) := by
  obtain ⟨l, rfl, e⟩ := h
  have h1 : (l.map (·.1))[i]? = some (S x) := by rw [e, List.getElem?_map, hx]; rfl
  rw [List.getElem?_map] at h1
  obtain ⟨p, hp, e2⟩ := Option.map_eq_some_iff.mp h1
  refine ⟨p.2, ?_⟩
  rw [← e2]
  simp [strValues, hp]
theorem Strs.push {items : Array Value} {ts : List T} (h : Strs items ts) (x : T) (u : Tok) : Strs (items.push (.str (S x) u)) (ts ++ [x]) := by
  obtain ⟨l, rfl, e⟩ := h
  exact ⟨l ++ [(S x, u)], by simp [strValues], by rw [List.map_append, List.map_append, e]; rfl⟩
theorem Strs.nil : Strs #[] [] := ⟨[], rfl, rfl⟩
section
variable {A : Around} {E : Value → Shared → Prop} {s : Shared} {hh b₀ : Heap} {tk : Nat} {w : World} {mg mb : Str → Option Value} {x dx I dI PB FS : Addr} {u : Nat → Tok} {cu ub : Tok} {nl : Value} {t : T}
theorem next_ob {ns : List Str} {C dx f : Addr} {m : Str → Option Value} {Q : Option Value → Shared → Prop} (X : (K w.params).In s.heap) (O : Ob ns s.heap x C dx m) (hs : findIn (K w.params) (.ref C) "__next__" = some (some (.ref f))) (hf : typeIn (K w.params) (.ref f) = some (.type "function"))
    (h : wpAny (model pw w) A (call (.ref f) [.ref x]) (fun v s' => Q (some v) s') (fun e s' => wpAny (model pw w) A (isInstance e (.type "StopIteration")) (fun b s₂ => if b = true then Q none s₂ else E e s₂) E s') s) :
    wpAny (model pw w) A (pyNext (.ref x)) Q E s := by
  obtain ⟨od, I, _⟩ := O.inst
  unfold pyNext
  refine wpAny_bind (wpAny_attempt (special_fn (name := "__next__") (args := []) X I hs hf (wpAny_mono h (fun v s' hq => ?_) (fun e s' he => ?_))))
  · exact wpAny_pure hq
  · refine wpAny_bind (wpAny_mono he (fun b s₂ hb => ?_) fun _ _ z => z)
    cases b with
    | true => exact wpAny_pure hb
    | false => exact wpAny_throw hb
theorem sub_stop : isSubtype (.type "StopIteration") (.type "StopIteration") = pure true := by rw [isSubtype_type]; kernel_rfl
theorem sub_value : isSubtype (.type "ValueError") (.type "StopIteration") = pure false := by rw [isSubtype_type]; kernel_rfl
noncomputable def stN : Option St → Nat | none => 0 | some _ => 1
theorem c_loop {outer : List Env} {SL : Addr} {R : Result → Shared → Prop} (hA : A.handled = none) (hfr : A.frames = some outer) (hroom : A.depth + 10 < recursionLimit) (Z : Apart b₀ x dx I dI PB FS) (hl : t.length ≤ 2 ^ 20) (hc : ∀ c ∈ t, c ≠ 34 ∧ c ≠ 92)
    (hX : ∀ env ∈ outer, ∀ b ∈ [dx, dI], env.frame ≠ some b) (hS : ∀ env ∈ outer, env.frame ≠ some SL) (z1 : SL ∉ [dx, dI]) (z2 : b₀.objs.size ≤ SL) (z3 : x ≠ SL) (z4 : I ≠ SL) (z5 : PB ≠ SL) (z6 : FS ≠ SL) :
    ∀ (n : Nat) (hh : Heap) (tk p : Nat) (st : Option St) (su tu : Tok) (ln : Int) (lu pu : Tok) (acc : Array Value) (ts : List T) (c : Nat), 2 * (t.length - p) + stN st < n → On w mg mb b₀ hh → Frs hh outer →
      Lx hh x dx I PB FS u (.str (S []) cu) (.bool true) (stV su st) (.str (S []) tu) (.int ln lu) → Io hh I dI nl (.str (S t) ub) (.int (p : Nat) pu) → hh.get? PB = some dq → hh.get? FS = some dq →
      p ≤ t.length → (st = some .sp ∨ (st = none ∧ p = t.length)) → hh.get? SL = some ⟨.type "list", none, .seq acc c, #[]⟩ → Strs acc ts → ts.length + 2 * (t.length - p) + stN st ≤ 2 ^ 22 →
      (∀ h' k acc' c' ws, shlO st (t.drop p) = some ws → Sl hh [SL, dx, dI] outer h' → h'.get? SL = some ⟨.type "list", none, .seq acc' c', #[]⟩ → Strs acc' (ts ++ ws) → R (.ok (.ret .none)) (up s h' k)) →
      (shlO st (t.drop p) = none → ∀ e h' k, Fl (.type "ValueError") hh [SL, dx, dI] outer e h' → R (.error (.ref e)) (up s h' k)) →
      codeAny (model pw w) A (.builtin "list.extend.loop" ⟨[.ref SL, .ref x, .none], []⟩) R (up s hh tk) := by
  intro n
  induction n with
  | zero =>
    intro hh tk p st su tu ln lu pu acc ts c hn o hF O P Pq Fq hp hst hL hacc hlen hR hE
    exact absurd hn (Nat.not_lt_zero _)
  | succ n ih =>
    intro hh tk p st su tu ln lu pu acc ts c hn o hF O P Pq Fq hp hst hL hacc hlen hR hE
    refine codeAny_builtin F.entry_extend_loop ?_
    rw [Around.under_plainId F.plain_extend_loop _]
    show wpAny _ A.in1 (pyNext (.ref x) >>= _) _ _ _
    refine wpAny_bind (next_ob (s := up s hh tk) o.gg.X O (by kernel_rfl) (by kernel_rfl) (c_next o (by show A.depth + 9 < _; omega) hA hfr hF hX O P Pq Fq Z hl hp hst hc ?post ?stop ?exc))
    case post =>
      intro out st' p' h5 k5 su' tu' ln' lu' pu' ru r1 r2 r3 kb5 sz5 O5 P5 lo
      obtain ⟨hst', sh⟩ := shlO_tok r1 (hst.imp id And.left)
      have hL5 := kb5 _ _ z1 hL
      show wpAny _ A.in1 (updateSeq SL (·.push (.str (S out) ru)) >>= _) _ _ _
      have hsz : acc.size + 1 ≤ 2 ^ 22 := by
        rw [hacc.size]
        have : stN st = 1 := by rw [hst']; rfl
        omega
      refine wpAny_bind (wpAny_updateSeq (s := up s h5 k5) hL5 rfl (wpAny_pure ⟨plainId_quiet F.plain_extend_loop _, ?_⟩) (by rw [sizeLine_eq]; omega) (by rw [Array.size_push, sizeLine_eq]; omega))
      have k6 : KB [SL] h5 (h5.update SL (Obj.mapSeq (·.push (.str (S out) ru)))) := fun b ob nb e => (Heap.get?_update_ne _ _ _ _ (fun q => nb (by rw [q]; exact .head _))).trans e
      have kb6 : KB [SL, dx, dI] hh (h5.update SL (Obj.mapSeq (·.push (.str (S out) ru)))) := (kb5.mono fun b hb => .tail _ hb).trans k6.m0
      have dne : dx ≠ SL := fun q => z1 (by rw [← q]; exact .head _)
      have dIne : dI ≠ SL := fun q => z1 (by rw [← q]; exact .tail _ (.head _))
      have low : ∀ b ∈ [SL, dx, dI], b₀.objs.size ≤ b := by
        intro b hb
        simp only [List.mem_cons, List.not_mem_nil, or_false] at hb
        rcases hb with rfl | rfl | rfl
        · exact z2
        · exact Z.hd
        · exact Z.hdI
      have fr : ∀ env ∈ outer, ∀ b ∈ [SL, dx, dI], env.frame ≠ some b := by
        intro env he b hb
        rcases List.mem_cons.mp hb with rfl | hb
        · exact hS env he
        · exact hX env he b hb
      have P1 : p' ≤ t.length := r3
      have lt : 2 * (t.length - p') + stN st' < 2 * (t.length - p) + stN st := by
        rw [hst'] at r1 ⊢
        rcases r2 with rfl | ⟨rfl, q⟩
        · have := rd_lt _ _ _ _ _ _ r1
          rw [List.length_drop, List.length_drop] at this
          show 2 * (t.length - p') + 1 < 2 * (t.length - p) + 1
          omega
        · show 2 * (t.length - p') + 0 < 2 * (t.length - p) + 1
          omega
      refine ih _ k5 p' st' su' tu' ln' lu' pu' (acc.push (.str (S out) ru)) (ts ++ [out]) _ (by omega) ⟨o.g, fun b ob e => kb6 b ob (fun hb => absurd (Heap.lt_size e) (Nat.not_lt.mpr (low b hb))) (o.k b ob e), ?_⟩ (hF.kb kb6 fr)
        (O5.kb k6 (by simpa using z3) (by simpa using dne)) (P5.kb k6 (by simpa using z4) (by simpa using dIne)) (kb6 _ _ (by have := Z.p1; simp only [List.mem_cons, not_or] at this ⊢; exact ⟨z5, this⟩) Pq) (kb6 _ _ (by have := Z.p2; simp only [List.mem_cons, not_or] at this ⊢; exact ⟨z6, this⟩) Fq)
        r3 r2 (Heap.get?_update_self _ hL5 rfl) (hacc.push out ru) (by rw [List.length_append, List.length_singleton]; omega) ?_ ?_
      · rw [Heap.size_after_update]; exact Nat.le_trans o.z sz5
      · intro h' k acc' c' ws e sl hL' hacc'
        exact hR h' k acc' c' (out :: ws) (by rw [sh, e]; rfl) (sl.kb kb6 fun b hb => .inl hb) hL' (by rw [List.append_assoc] at hacc'; exact hacc')
      · intro e1 e h' k fl
        exact hE (by rw [sh, e1]; rfl) e h' k (fl.kb kb6 fun b hb => .inl hb)
    case stop =>
      intro st' p' h2 r1 kb2 e h' k fl
      obtain ⟨ob, hob, hcl⟩ := fl.cls
      refine wpAny_isInstance (s := up s h' k) (T := "StopIteration") ⟨ob, hob, hcl⟩ sub_stop ?_
      have sl := fl.sl
      refine wpAny_pure (hR h' k acc c [] (shlO_end r1 (hst.imp id And.left)) (sl.kb (KB.refl _) fun b hb => .inl (.tail _ hb)) (sl.1 _ _ z1 hL hS) (by rw [List.append_nil]; exact hacc))
    case exc =>
      intro hn e h' k fl
      obtain ⟨ob, hob, hcl⟩ := fl.cls
      refine wpAny_isInstance (s := up s h' k) (T := "ValueError") ⟨ob, hob, hcl⟩ sub_value ?_
      exact hE (shlO_none hn (hst.imp id And.left)) e h' k (fl.kb (KB.refl _) fun b hb => .inl (.tail _ hb))
end
section
variable {A : Around} {E : Value → Shared → Prop} {s : Shared} {hh b₀ : Heap} {tk : Nat} {w : World} {mg mb : Str → Option Value} {x dx I dI PB FS : Addr} {u : Nat → Tok} {cu ub : Tok} {nl : Value} {t : T}
theorem f722 (P : Params) : (K P).lookup 722 = some ⟨.type "function", none, .func (fnOf "__iter__" "shlex.__iter__" (dA (sm 23 9)) (dB (sm 23 9)) (dS (sm 23 9)) .none .none .none (.str "cpy313.shlex" 1088) none (.ref 721) .none), #[]⟩ := by kernel_rfl
theorem c_iter {Q : Value → Shared → Prop} (o : On w mg mb b₀ hh) (hroom : A.depth < recursionLimit) (h : ∀ h' k, Keeps hh h' → hh.objs.size ≤ h'.objs.size → Q (.ref x) (up s h' k)) : wpAny (model pw w) A (call (.ref 722) [.ref x]) Q E (up s hh tk) := by
  refine call_pure [("self", .ref x)] o.gg hroom (f722 _) (by kernel_rfl) (.of_eq (by rfl)) fun h₁ L k hL Φ hk => ?_
  refine q_cons (q_ret (n_loc (s := up s h₁ k) Φ (by rfl) ?_ (by kernel_rfl) (by kernel_rfl)))
  exact h _ _ Φ.kept Φ.le
theorem iter_ob {ns : List Str} {C dx f : Addr} {m : Str → Option Value} {g : Value} {Q : Value → Shared → Prop} (X : (K w.params).In s.heap) (O : Ob ns s.heap x C dx m) (hs : findIn (K w.params) (.ref C) "__iter__" = some (some (.ref f))) (hf : typeIn (K w.params) (.ref f) = some (.type "function"))
    (hn : findIn (K w.params) (.ref C) "__next__" = some (some g))
    (h : wpAny (model pw w) A (call (.ref f) [.ref x]) (fun v s' => v = .ref x ∧ Keeps s.heap s'.heap ∧ Q (.ref x) s') E s) : wpAny (model pw w) A (pyIter (.ref x)) Q E s := by
  obtain ⟨od, I, _⟩ := O.inst
  have T1 := looks_findIn (M := model pw w) X hs
  have fin : wpAny (model pw w) A (call (.ref f) [.ref x] >>= fun v => pure (some v)) (fun r s' => r = some (.ref x) ∧ Keeps s.heap s'.heap ∧ Q (.ref x) s') E s :=
    wpAny_bind (wpAny_mono h (fun v s' h' => wpAny_pure ⟨by rw [h'.1], h'.2⟩) fun _ _ z => z)
  have one : ∀ refuse : Sem Value, wpAny (model pw w) A (callSpecialIfBoundUnlessNone? (.ref x) "__iter__" refuse) (fun r s' => r = some (.ref x) ∧ Keeps s.heap s'.heap ∧ Q (.ref x) s') E s := by
    intro refuse
    simp only [callSpecialIfBoundUnlessNone?, bindSpecialIfBound?]
    refine wpAny_holding (wpAny_bind (wpAny_bind (wpAny_bind (I.type.here (T1.here ?_)))))
    refine wpAny_bind (wpAny_askSetting (wpAny_ite ?_))
    have fin2 : wpAny (model pw w) A (if (Value.ref f == Value.none) = true then (refuse >>= fun v => pure (some v)) else (call (.ref f) [.ref x] >>= fun v => pure (some v))) (fun r s' => r = some (.ref x) ∧ Keeps s.heap s'.heap ∧ Q (.ref x) s') E s := by
      rw [if_neg (show ¬ ((Value.ref f == Value.none) = true) from Bool.false_ne_true)]
      exact fin
    split
    · exact wpAny_bind ((bind_fn X _ hf).here (wpAny_pure (by exact fin2)))
    · exact wpAny_tryCatch (wpAny_bind ((bind_fn X _ hf).here (wpAny_pure (by exact fin2))))
  unfold pyIter
  refine wpAny_bind (wpAny_bind (I.type.here (T1.here ?_)))
  show wpAny _ A (callSpecialIfBoundUnlessNone? (.ref x) "__iter__" _ >>= _) Q E s
  refine wpAny_bind (wpAny_mono (one _) (fun r s' hr => ?_) fun _ _ z => z)
  obtain ⟨rfl, k, hq⟩ := hr
  obtain ⟨od', I', _⟩ := (O.keeps k).inst
  have X' : (K w.params).In s'.heap := fun a o e => k a o (X a o e)
  refine wpAny_bind (wpAny_bind (I'.type.here ((looks_findIn X' hn).here ?_)))
  exact wpAny_pure hq
theorem c_listlex {outer : List Env} {su tu : Tok} {ln : Int} {lu pu : Tok} {Q : Value → Shared → Prop} (hA : A.handled = none) (hfr : A.frames = some outer) (hroom : A.depth + 20 < recursionLimit) (Z : Apart b₀ x dx I dI PB FS) (hl : t.length ≤ 2 ^ 20) (hc : ∀ c ∈ t, c ≠ 34 ∧ c ≠ 92)
    (hX : ∀ env ∈ outer, ∀ b ∈ [dx, dI], env.frame ≠ some b) (o : On w mg mb b₀ hh) (hF : Frs hh outer)
    (O : Lx hh x dx I PB FS u (.str (S []) cu) (.bool true) (.str (S [32]) su) (.str (S []) tu) (.int ln lu)) (P : Io hh I dI nl (.str (S t) ub) (.int (0 : Nat) pu)) (Pq : hh.get? PB = some dq) (Fq : hh.get? FS = some dq)
    (h : ∀ h' k acc' c' ws, shl .sp [] t = some ws → Sl hh [dx, dI] outer h' → h'.get? hh.objs.size = some ⟨.type "list", none, .seq acc' c', #[]⟩ → Strs acc' ws → Q (.ref hh.objs.size) (up s h' k))
    (hE : shl .sp [] t = none → ∀ e h' k, Fl (.type "ValueError") hh [dx, dI] outer e h' → E (.ref e) (up s h' k)) :
    wpAny (model pw w) A (call (.type "list") [.ref x]) Q E (up s hh tk) := by
  refine callType_codes (Q₁ := fun v s₁ => v = .ref hh.objs.size ∧ s₁ = up s (hh.push { cls := .type "list", data := .seq #[] }) tk) F.called_list (F.typeCall_list_1 _) F.entry_list_init (code_list_new (s := up s hh tk) _ ⟨rfl, rfl⟩) ?_
  rintro _ _ ⟨rfl, rfl⟩
  have hS : (hh.push { cls := .type "list", data := .seq #[] }).get? hh.objs.size = some { cls := .type "list", data := .seq #[] } := Heap.get?_push_size _ rfl
  refine ⟨⟨_, hS, rfl⟩, F.args_list_init_2 _ _, ?_⟩
  show wpAny _ A.in1.in1 (Builtin.List.listItems (.ref hh.objs.size) >>= fun old => Builtin.List.listUpdate (.ref hh.objs.size) (fun _ => #[]) >>= fun _ => letGo old.toList.reverse >>= fun _ => Builtin.List.listExtendWith (.ref hh.objs.size) (.ref x) .none) _ _ _
  refine wpAny_bind ?_
  unfold Builtin.List.listItems
  refine wpAny_bind (wpAny_seqItems hS rfl (wpAny_pure ?_))
  show wpAny _ A.in1.in1 (updateSeq hh.objs.size (fun _ => #[]) >>= fun _ => letGo (#[] : Array Value).toList.reverse >>= fun _ => Builtin.List.listExtendWith (.ref hh.objs.size) (.ref x) .none) _ _ _
  refine wpAny_bind (wpAny_updateSeq hS rfl ?_)
  have hS2 := Heap.get?_update_self (Obj.mapSeq (fun _ => (#[] : Array Value))) hS rfl
  have kp2 : Keeps hh ((hh.push { cls := .type "list", data := .seq #[] }).update hh.objs.size (Obj.mapSeq (fun _ => (#[] : Array Value)))) := fun b ob e => (Heap.get?_update_ne _ _ _ _ (Nat.ne_of_lt (Heap.lt_size e))).trans (Heap.get?_push_of_some _ e)
  have o2 : On w mg mb b₀ ((hh.push { cls := .type "list", data := .seq #[] }).update hh.objs.size (Obj.mapSeq (fun _ => (#[] : Array Value)))) := ⟨o.g, fun b ob e => kp2 b ob (o.k b ob e), by rw [Heap.size_after_update, Heap.size_push]; exact Nat.le_succ_of_le o.z⟩
  generalize (hh.push { cls := .type "list", data := .seq #[] }).update hh.objs.size (Obj.mapSeq (fun _ => (#[] : Array Value))) = h2 at hS2 kp2 o2
  refine wpAny_bind (wpAny_letGo ?_)
  have O2 := O.keeps kp2
  obtain ⟨od, I2, _⟩ := O2.inst
  have hne : hh.objs.size ≠ x := Nat.ne_of_gt O.lt
  unfold Builtin.List.listExtendWith
  refine wpAny_bind ((I2.type (M := model pw w)).here (s := up s h2 tk) ?_)
  have e1 : Builtin.List.listSameRef (.ref hh.objs.size) (.ref x) = false := by simp [Builtin.List.listSameRef, hne]
  have e2 : (Value.ref 732 == Value.type "list") = false := by decide
  have e3 : (Value.ref 732 == Value.type "tuple") = false := by decide
  simp only [e1, e2, e3, Bool.or_false, Bool.false_eq_true, if_false]
  refine wpAny_bind (iter_ob (s := up s h2 tk) o2.gg.X O2 (by kernel_rfl) (by kernel_rfl) (g := .ref 729) (by kernel_rfl) (c_iter o2 (by show A.depth < _; omega) fun h3 k3 kp3 zz3 => ⟨rfl, kp3, ?_⟩))
  refine wpAny_bind (wpAny_holding ?_)
  have O3 := O2.keeps kp3
  obtain ⟨od3, I3, _⟩ := O3.inst
  have X3 : (K w.params).In h3 := fun a ob e => kp3 a ob (o2.gg.X a ob e)
  have T3 := I3.type (M := model pw w)
  have L1 := looks_findIn (M := model pw w) (t := .ref 732) (name := Str.ofString "__len__") (r := none) X3 (by kernel_rfl)
  have L2 := looks_findIn (M := model pw w) (t := .ref 732) (name := Str.ofString "__length_hint__") (r := none) X3 (by kernel_rfl)
  have hS3 := kp3 _ _ hS2
  unfold Builtin.List.listLengthHint specialOf
  iterate 20 lk
  refine wpAny_bind ?_
  show wpAny _ _ (updateSeq hh.objs.size (·.push .none) >>= fun _ => updateSeq hh.objs.size (·.pop)) _ _ _
  refine wpAny_bind (wpAny_updateSeq (s := up s h3 k3) hS3 rfl ?_)
  have hS4 := Heap.get?_update_self (Obj.mapSeq (·.push Value.none)) hS3 rfl
  refine wpAny_updateSeq (hz := by seq_fits) hS4 rfl ?_
  have hS5 := Heap.get?_update_self (Obj.mapSeq (·.pop)) hS4 rfl
  have kb5 : KB [hh.objs.size] h3 ((h3.update hh.objs.size (Obj.mapSeq (·.push Value.none))).update hh.objs.size (Obj.mapSeq (·.pop))) := fun b ob nb e =>
    (Heap.get?_update_ne _ _ _ _ (fun q => nb (by rw [q]; exact .head _))).trans ((Heap.get?_update_ne _ _ _ _ (fun q => nb (by rw [q]; exact .head _))).trans e)
  have z5 : h3.objs.size = ((h3.update hh.objs.size (Obj.mapSeq (·.push Value.none))).update hh.objs.size (Obj.mapSeq (·.pop))).objs.size := by rw [Heap.size_after_update, Heap.size_after_update]
  refine wpAny_pure ⟨plainId_quiet F.plain_extend_loop _, ?_⟩
  obtain ⟨c6, hS6⟩ : ∃ c, ((h3.update hh.objs.size (Obj.mapSeq (·.push Value.none))).update hh.objs.size (Obj.mapSeq (·.pop))).get? hh.objs.size = some ⟨.type "list", none, .seq #[] c, #[]⟩ := ⟨_, hS5⟩
  generalize (h3.update hh.objs.size (Obj.mapSeq (·.push Value.none))).update hh.objs.size (Obj.mapSeq (·.pop)) = h5 at hS6 kb5 z5
  have kb : KB [dx, dI] hh h5 := fun b ob nb e => kb5 b ob (by rw [List.mem_singleton]; exact Nat.ne_of_lt (Heap.lt_size e)) (kp3 b ob (kp2 b ob e))
  have kp : Keeps hh h5 := fun b ob e => kb5 b ob (by rw [List.mem_singleton]; exact Nat.ne_of_lt (Heap.lt_size e)) (kp3 b ob (kp2 b ob e))
  have nf : ∀ env ∈ outer, env.frame ≠ some hh.objs.size := fun env he q => by
    obtain ⟨_, L, ob, c, d, _⟩ := hF env he
    rw [c] at q; cases q
    exact Nat.lt_irrefl _ (Heap.lt_size d)
  have n1 : x ≠ hh.objs.size := Nat.ne_of_lt O.lt
  have n2 : dx ≠ hh.objs.size := Nat.ne_of_lt O.dlt
  have n3 : I ≠ hh.objs.size := Nat.ne_of_lt P.lt
  have n4 : dI ≠ hh.objs.size := Nat.ne_of_lt P.dlt
  have out : ∀ {X : List Addr}, ∀ b ∈ [hh.objs.size, dx, dI], b ∈ [dx, dI] ∨ hh.objs.size ≤ b := fun b hb => by
    rcases List.mem_cons.mp hb with rfl | hb
    · exact .inr (Nat.le_refl _)
    · exact .inl hb
  refine c_loop (A := A.in1) (SL := hh.objs.size) hA hfr (by show A.depth + 10 < _; omega) Z hl hc hX nf (by simp only [List.mem_cons, List.not_mem_nil, or_false]; exact fun q => q.elim (fun q => n2 q.symm) fun q => n4 q.symm) o.z n1 n3 (Nat.ne_of_lt (Heap.lt_size Pq)) (Nat.ne_of_lt (Heap.lt_size Fq))
    (2 * t.length + 2) h5 k3 0 (some .sp) su tu ln lu pu #[] [] c6 (by show 2 * (t.length - 0) + 1 < _; omega) ⟨o.g, fun b ob e => kp b ob (o.k b ob e), ?_⟩ (hF.keeps kp) (O.keeps kp) (P.keeps kp) (kp _ _ Pq) (kp _ _ Fq) (Nat.zero_le _) (.inl rfl) hS6 Strs.nil (by show 0 + 2 * (t.length - 0) + 1 ≤ _; omega) ?_ ?_
  · rw [← z5]
    exact Nat.le_trans o2.z zz3
  · intro h' k acc' c' ws e sl hL' hacc'
    exact ⟨rfl, h h' k acc' c' ws e (sl.kb kb (out (X := []))) hL' hacc'⟩
  · intro e1 e h' k fl
    exact hE e1 e h' k (fl.kb kb (out (X := [])))
end
theorem k350 (P : Params) : (K P).lookup 350 = some (o350 P) := by kernel_rfl
theorem g350 (P : Params) : nsIn (K P) mainGlobals (Str.ofString "BytesIO") = some (some (.ref 350)) := by kernel_rfl
noncomputable def runL (K : Frag) : Nat → {α : Type} → Sem α → Option α
  | 0, _, _ => none
  | _ + 1, _, .pure a => some a
  | n + 1, _, .rule _ k => runL K n (k ())
  | n + 1, _, .point _ k => runL K n (k ())
  | n + 1, _, .load a _ k => match K.lookup a with
    | some o => runL K n (k o)
    | none => none
  | _ + 1, _, _ => none
theorem runL_sound {K : Frag} {M : Model} {h : Heap} (X : K.In h) : ∀ (n : Nat) {α : Type} (t : Sem α) (a : α), runL K n t = some a → Looks M h t a := by
  intro n
  induction n with
  | zero => intro α t a e; cases e
  | succ n ih =>
    intro α t a e
    cases t with
    | pure b => cases e; exact .now
    | rule tag k => exact fun A Q E s kk q => nd_rule (ih _ _ e A Q E s kk q)
    | point l k => exact fun A Q E s kk q => nd_point (ih _ _ e A Q E s kk q)
    | load b p k =>
      unfold runL at e
      split at e
      · rename_i o ho
        exact fun A Q E s kk q => nd_load (kk _ _ (X _ _ ho)) (ih _ _ e A Q E s kk q)
      · cases e
    | _ => cases e
theorem rl_made (P : Params) : runL (K P) 100 (Bind.madeBy (.ref 597)) = some none := by kernel_rfl
theorem rl_here (P : Params) : runL (K P) 5000 (Bind.madeHere "object.__new__" (.ref 597)) = some () := by kernel_rfl
theorem rl_check (P : Params) : runL (K P) 5000 (checkBuiltinCall "object.__new__" ⟨[.ref 597], []⟩) = some () := by kernel_rfl
theorem on_plain : plainId "object.__new__" = true := by decide +kernel
theorem on_entry : entryFor table "object.__new__" = some Builtin.«object.__new__» := entryFor_of_tree (by kernel_rfl)
section
variable {A : Around} {E : Value → Shared → Prop} {s : Shared} {hh b₀ : Heap} {tk : Nat} {env : Env}
variable {w : World} {mg mb : Str → Option Value}
theorem r_objnew {Q : Value → Shared → Prop} (X : (K w.params).In hh) (h : ∀ h', Keeps hh h' → h'.get? (hh.objs.size + 1) = some (instObj 597 hh.objs.size) → h'.get? hh.objs.size = some emptyDict → hh.objs.size + 1 < h'.objs.size → Q (.ref (hh.objs.size + 1)) (up s h' tk)) :
    wpAny (model pw w) A (call (.builtin "object.__new__") [.ref 597]) Q E (up s hh tk) := by
  refine wpAny_call (codeAny_call_builtin on_plain on_entry (runL_sound X _ _ _ (rl_check _) _ _ _ _ (fun _ _ e => e) ?_))
  have L1 := runL_sound (M := model pw w) X _ _ _ (rl_here w.params)
  have ho := X 597 _ rfl
  unfold Builtin.«object.__new__»
  have ho2 := Heap.get?_push_of_some (instObj 597 hh.objs.size) (Heap.get?_push_of_some emptyDict ho)
  have hx : ((hh.push emptyDict).push (instObj 597 hh.objs.size)).get? (hh.objs.size + 1) = some (instObj 597 hh.objs.size) := by heap_get
  have hd : ((hh.push emptyDict).push (instObj 597 hh.objs.size)).get? hh.objs.size = some emptyDict := by heap_get
  repeat lk
  show Q (.ref (hh.push emptyDict).objs.size) _
  rw [Heap.size_push]
  exact h _ (fun b ob e => Heap.get?_push_of_some _ (Heap.get?_push_of_some _ e)) hx hd (Heap.lt_size hx)
theorem f90 (P : Params) : (K P).lookup 90 = some ⟨.type "function", none, .func (fnOf "__new__" "IOBase.__new__" (dA (sm 8 1)) (dB (sm 8 1)) (dS (sm 8 1)) .none .none .none (.str "io" 371) none (.ref 89) .none), #[]⟩ := by kernel_rfl
theorem bind_new {M : Model} {v : Value} {E' : Value → Shared → Prop} {Q' : List (Str × Value) → Shared → Prop} (h : ∀ h₁ a d, Keeps hh h₁ → hh.objs.size ≤ h₁.objs.size → Q' [("cls", .ref 597), ("args", a), ("kwargs", d)] (up s h₁ tk)) :
    wpAny M A (bindArgs (fnOf "__new__" "IOBase.__new__" (dA (sm 8 1)) (dB (sm 8 1)) (dS (sm 8 1)) .none .none .none (.str "io" 371) none (.ref 89) .none) ⟨[.ref 597, v], []⟩) Q' E' (up s hh tk) := by
  unfold bindArgs
  repeat lk
  refine cast (congrArg (fun x => Q' x _) (?_ : ([("cls", Value.ref 597), ("args", Value.ref hh.objs.size), ("kwargs", Value.ref (hh.push { cls := .type "tuple", data := .seq #[v] }).objs.size)] : List (Str × Value)) = _)) (h _ _ _ (fun b o e => Heap.get?_push_of_some _ (Heap.get?_push_of_some _ e)) (by rw [Heap.size_push, Heap.size_push]; omega))
  kernel_rfl
theorem c_new {v : Value} {Q : Value → Shared → Prop} (o : On w mg mb b₀ hh) (hroom : A.depth < recursionLimit)
    (h : ∀ h' k I dI, Keeps hh h' → hh.objs.size ≤ dI → dI < I → I < h'.objs.size → h'.get? I = some (instObj 597 dI) → h'.get? dI = some emptyDict → Q (.ref I) (up s h' k)) :
    wpAny (model pw w) A (call (.ref 90) [.ref 597, v]) Q E (up s hh tk) := by
  have g' := o.gg
  refine wpAny_call (codeAny_call_function (fd := fnOf "__new__" "IOBase.__new__" (dA (sm 8 1)) (dB (sm 8 1)) (dS (sm 8 1)) .none .none .none (.str "io" 371) none (.ref 89) .none) (body := dB (sm 8 1)) hroom (g'.X _ _ (f90 _)) rfl (by rfl) (by rfl) rfl (codeRec_of g'.X (by kernel_rfl)) (bind_new fun h₁ a d kp sz => ?_))
  have g₁ := g'.keeps kp
  refine wpAny_newFunctionEnv (by decide) (by intro y hy; simp only [List.mem_cons, List.not_mem_nil, or_false] at hy; rcases hy with rfl | rfl | rfl <;> rfl) (fun h₂ hns₂ hsb₂ => ⟨g₁.T.nolimit.fresh _ hsb₂, codeAny_func ?_⟩) (by rfl)
  have hk₂ : ∀ b ob, h₁.get? b = some ob → h₂.get? b = some ob := fun b ob e => hsb₂.extBut b ob (Nat.ne_of_lt (Heap.lt_size e)) (Heap.get?_push_of_some _ e)
  have Φ : Fm w mg mb h₁ h₁.objs.size _ h₂ := ⟨⟨hns₂, hk₂, Nat.le_refl _⟩, g₁⟩
  refine wpAny_mono (Q := fun fl s' => Q (match fl with | .ret v => v | _ => .none) s') (E := fun _ _ => False) ?_ (fun _ _ x => x) (fun _ _ x => x.elim)
  show wpAny (model pw w) (A.deeper (envOf "IOBase.__new__" (dS (sm 8 1)) h₁.objs.size 90 (.ref 89))) (execs (dB (sm 8 1)) (envOf "IOBase.__new__" (dS (sm 8 1)) h₁.objs.size 90 (.ref 89))) _ _ _
  refine q_cons ?_
  walk_at "r q_If;r q_and;hm q_ctest;l n_loc;g n_glob g350"
  have hx597 := Φ.gg.X 597 _ rfl
  have hx350 := Φ.gg.X _ _ (k350 w.params)
  (with_reducible refine wpAny_isNot_ref_other (s := up s h₂ _) ?i1 hx597 hx350 ?i2 ?i3)
  case i1 => decide
  case i2 => show Value.type "type" ≠ Value.type "tuple"; decide
  walk_at "r wpAny_truthy_bool;r q_and;hm q_ctest;l n_loc;g n_glob g597"
  with_reducible refine wpAny_isNot_ref_self ?_
  walk_at "r wpAny_truthy_bool;r q_nil;r q_cons;r q_ret;M"
  (with_reducible refine n_blt Φ ?b1 Boot.«object» ?b2 ?b3 ?b4 ?b5)
  case b1 => kernel_rfl
  case b2 => decide
  case b4 => kernel_rfl
  case b5 => kernel_rfl
  (with_reducible refine method_type (s := up s h₂ _) (v := .builtin "object.__new__") Φ.F Φ.G.X ?m1 ?m2 ?m3 ?m4 ?m5)
  case m1 => kernel_rfl
  case m2 => decide +kernel
  case m3 => kernel_rfl
  case m4 => rfl
  walk_at "hp q_cm;he q_acons;l n_loc;r args_nil"
  refine r_objnew Φ.gg.X fun h₃ kp3 hx hd hz => ?_
  exact h h₃ _ _ _ (fun b ob e => kp3 b ob (hk₂ b ob (kp b ob e))) (Nat.le_trans sz (Nat.le_of_lt (Φ.lt))) (Nat.lt_succ_self _) hz hx hd
end
theorem r_neS {w : World} {A : Around} {E : Value → Shared → Prop} {s : Shared} {a b : T} {t u : Tok} {Q : Value → Shared → Prop} (h : Q (.bool (!decide (a = b))) s) : wpAny (model pw w) A (compareOp .NotEq (.str (S a) t) (.str (S b) u)) Q E s := by
  refine P.ne_str ?_
  have e : ((S a).cps.toList != (S b).cps.toList) = !decide (a = b) := by
    show (a != b) = !decide (a = b)
    by_cases hab : a = b
    · subst hab; simp
    · rw [decide_eq_false hab]; simp [hab]
  first | (rw [e]; exact h) | exact h
section
variable {A : Around} {E : Value → Shared → Prop} {s : Shared} {hh b₀ : Heap} {tk : Nat} {env : Env}
variable {w : World} {mg mb m : Str → Option Value} {L : Addr}
theorem f374 (P : Params) : (K P).lookup 374 = some ⟨.type "function", none, .func (fnOf "__translated" "StringIO.__translated" (dA (sm 12 2)) (dB (sm 12 2)) (dS (sm 12 2)) .none .none .none (.str "io" 371) none (.ref 373) .none), #[]⟩ := by kernel_rfl
theorem f367 (P : Params) : (K P).lookup 367 = some ⟨.type "function", none, .func (fnOf "__init__" "StringIO.__init__" (dA (sm 12 1)) (dB (sm 12 1)) (dS (sm 12 1)) (.ref 360) .none .none (.str "io" 371) none (.ref 366) .none), #[]⟩ := by kernel_rfl
theorem t360 (P : Params) : (K P).lookup 360 = some ⟨.type "tuple", none, .seq #[.str (S []) 755, .str (S [10]) 756] 0, #[]⟩ := by kernel_rfl
theorem c_trans {I dI : Addr} {buf pos : Value} {t : T} {u v : Tok} {Q : Value → Shared → Prop} (o : On w mg mb b₀ hh) (hroom : A.depth < recursionLimit) (O : Io hh I dI (.str (S [10]) v) buf pos)
    (h : ∀ h' k, Keeps hh h' → hh.objs.size ≤ h'.objs.size → Q (.str (S t) u) (up s h' k)) : wpAny (model pw w) A (call (.ref 374) [.ref I, .str (S t) u]) Q E (up s hh tk) := by
  refine call_pure [("self", .ref I), ("s", .str (S t) u)] o.gg hroom (f374 _) (by kernel_rfl) (.of_eq (by rfl)) fun h₁ L k hL Φ hk => ?_
  have O1 := O.keeps Φ.kept
  have n1 : I ≠ L := Nat.ne_of_lt (hL ▸ O.lt)
  have n2 : dI ≠ L := Nat.ne_of_lt (hL ▸ O.dlt)
  refine q_cons ?_
  walk_at "hs q_asn;x x_newline;sI;r q_cons;r q_If;hm q_ctest;l n_loc;r wpAny_Constant_none;r is_str_none;r wpAny_truthy_bool;r q_nil;r q_cons;r q_If;r q_or;hm q_ctest;l n_loc"; (with_reducible refine k_str [13] (by decide +kernel) ?_); walk_at "r r_eqS;r wpAny_truthy_bool;dn;r q_or;hm q_ctest;l n_loc"; (with_reducible refine k_str [13, 10] (by decide +kernel) ?_); walk_at "r r_eqS;r wpAny_truthy_bool;dn;r isTrue_or_nil;r q_nil;r q_cons;r q_ret;l n_loc"
  rename_i h2 Φ2 kb2 P2
  exact h _ _ (fun b ob e => kb2 b ob (by rw [List.mem_singleton]; exact hL ▸ Nat.ne_of_lt (Heap.lt_size e)) (Φ.kept b ob e)) (hL ▸ Nat.le_of_lt Φ2.lt)
theorem io_new {nl buf pos b0 : Value} : upd (upd (upd (upd (fun _ => none) (Str.ofString "_StringIO__newline") nl) (Str.ofString "_StringIO__buf") b0) (Str.ofString "_StringIO__pos") pos) (Str.ofString "_StringIO__buf") buf = ioM nl buf pos := by
  funext y
  simp only [upd, ioM]
  by_cases h1 : y = Str.ofString "_StringIO__pos"
  · subst h1; rfl
  · rw [if_neg h1]
    show _ = (if y = Str.ofString "_StringIO__pos" then _ else _)
    rw [if_neg h1]
    split <;> rfl
theorem io_new0 {nl buf pos : Value} : upd (upd (upd (fun _ => none) (Str.ofString "_StringIO__newline") nl) (Str.ofString "_StringIO__buf") buf) (Str.ofString "_StringIO__pos") pos = ioM nl buf pos := by
  funext y
  simp only [upd, ioM]
theorem k_gen {I dI : Addr} {m' : Str → Option Value} {name : Str} {v : Value} {Q : Unit → Shared → Prop} (Φ : Fm w mg mb b₀ L m hh) (O : Ob ioN hh I 597 dI m') (h2 : dI ≠ L) (hb : b₀.objs.size ≤ dI) (hf : findIn (K w.params) (.ref 597) name = some none) (hn : name ∈ ioN)
    (h : ∀ h' k, Fm w mg mb b₀ L m h' → KB [dI] hh h' → Ob ioN h' I 597 dI (upd m' name v) → Q () (up s h' k)) : wpAny (model pw w) A (setAttr (.ref I) name v) Q E (up s hh tk) :=
  set_ob Φ.gg.X (cls597 _) O hf hn (by decide) fun h' k O' kb => h h' k (Φ.kb kb (by simpa using Ne.symm h2) (by simpa using hb)) kb O'
theorem c_ioinit {I dI : Addr} {t : T} {u : Tok} {Q : Value → Shared → Prop} (o : On w mg mb b₀ hh) (hroom : A.depth + 1 < recursionLimit) (O : Ob ioN hh I 597 dI fun _ => none) (hd : b₀.objs.size ≤ dI)
    (h : ∀ h' k nl pu, KB [dI] hh h' → hh.objs.size ≤ h'.objs.size → Io h' I dI nl (.str (S t) u) (.int (0 : Nat) pu) → Q .none (up s h' k)) : wpAny (model pw w) A (call (.ref 367) [.ref I, .str (S t) u]) Q E (up s hh tk) := by
  refine call_on [("self", .ref I), ("initial_value", .str (S t) u), ("newline", .str (S [10]) 756)] o (by walk_at "x2") (f367 _) (by kernel_rfl) (binds_K o.gg.X rfl (t360 _) rfl rfl rfl) fun h₁ L k hL k1 Φ hk => ?_
  have O1 := O.keeps k1
  have n1 : I ≠ L := Nat.ne_of_lt (hL ▸ O.lt)
  have n2 : dI ≠ L := Nat.ne_of_lt (hL ▸ O.dlt)
  refine q_cons ?_
  walk_at "r q_If;r q_and;hm q_ctest;l n_loc;r wpAny_Constant_none;r isnot_str_none;r wpAny_truthy_bool;r q_and;hm q_ctest;he q_call;b n_blt Boot.type;hp q_ct;he q_acons;l n_loc;r args_nil;r r_type;b n_blt Boot.str;r isnot_type_same;r wpAny_truthy_bool;r q_nil;r q_cons;r q_If;r q_and;hm q_ctest;l n_loc;r wpAny_Constant_none;r isnot_str_none;r wpAny_truthy_bool;r q_and;hm q_ctest;l n_loc"; (with_reducible refine k_str [] (by decide +kernel) ?_); walk_at "r r_neS;r wpAny_truthy_bool"
  refine if_ndn (List.cons_ne_nil _ _) ?_
  walk_at "r q_and;hm q_ctest;l n_loc"; (with_reducible refine k_str [10] (by decide +kernel) ?_); walk_at "r r_neS;r wpAny_truthy_bool"; (with_reducible refine if_ndt ?ndn230 ?ndq230); (case ndn230 => decide); walk_at "r q_nil;r q_cons;r q_If;r q_and;hm q_ctest;l n_loc;r wpAny_Constant_none;r isnot_str_none;r wpAny_truthy_bool;r q_and;hm q_ctest;he q_call;b n_blt Boot.type;hp q_ct;he q_acons;l n_loc;r args_nil;r r_type;b n_blt Boot.str;r isnot_type_same;r wpAny_truthy_bool;r q_nil;r q_cons;hs q_aattr;l n_loc;l n_loc"
  refine k_gen Φ O1 n2 hd (by kernel_rfl) (by decide) fun h2 k2 Φ2 kb2 O2 => ?_
  walk_at "r q_cons;hs q_aattr"; (with_reducible refine k_str [] (by decide +kernel) ?_); walk_at "l n_loc"
  refine k_gen Φ2 O2 n2 hd (by kernel_rfl) (by decide) fun h3 k3 Φ3 kb3 O3 => ?_
  walk_at "r q_cons;hs q_aattr;r k_int;l n_loc"
  refine k_gen Φ3 O3 n2 hd (by kernel_rfl) (by decide) fun h4 k4 Φ4 kb4 O4 => ?_
  walk_at "r q_cons;r q_If;hm q_ctest;l n_loc;r wpAny_Constant_none;r isnot_str_none;r wpAny_truthy_bool;r q_cons;hs q_aattr;M;l n_loc"
  refine meth_ob (f := 374) Φ4.gg.X (cls597 _) O4 (by rfl) (by kernel_rfl) (by kernel_rfl) ?_
  walk_at "K;he q_acons;l n_loc;r args_nil;A"
  refine c_trans Φ4.on (by show A.depth + 1 < _; omega) (by rw [io_new0] at O4; exact O4) fun h5 k5 kp5 z5 => ?_
  have Φ5 := Φ4.keeps kp5
  have O5 := O4.keeps kp5
  walk_at "l n_loc"
  refine k_gen Φ5 O5 n2 hd (by kernel_rfl) (by decide) fun h6 k6 Φ6 kb6 O6 => ?_
  walk_at "r q_nil;r q_nil"
  rw [io_new] at O6
  exact h _ _ _ _ ((KB.of k1).trans (kb2.trans (kb3.trans (kb4.trans ((KB.of kp5).trans kb6))))) (hL ▸ Nat.le_of_lt Φ6.lt) O6
end
section
variable {A : Around} {E : Value → Shared → Prop} {s : Shared} {hh b₀ : Heap} {tk : Nat} {env : Env}
variable {w : World} {mg mb : Str → Option Value}
theorem c_mkio {t : T} {u : Tok} {Q : Value → Shared → Prop} (o : On w mg mb b₀ hh) (hroom : A.depth + 3 < recursionLimit)
    (h : ∀ h' k I dI nl pu, Keeps hh h' → hh.objs.size ≤ dI → dI < I → I < h'.objs.size → Io h' I dI nl (.str (S t) u) (.int (0 : Nat) pu) → Q (.ref I) (up s h' k)) :
    wpAny (model pw w) A (call (.ref 597) [.str (S t) u]) Q E (up s hh tk) := by
  have g' := o.gg
  have X := g'.X
  have call := looks_specialIn (M := model pw w) X (v := .ref 597) (name := "__call__") (r := some (.builtin "type.__call__")) (by kernel_rfl)
  have typ := looks_instIn (M := model pw w) X (v := .ref 597) (base := .type "type") (r := true) (by kernel_rfl)
  have hC := X 597 _ rfl
  refine wpAny_call (codeAny_of_tree ?_)
  show wpAny _ _ (callAny (.ref 597) _) _ _ _
  refine nd_load hC ?_
  show wpAny _ _ (callAny.viaDunder (.ref 597) _) _ _ _
  unfold callAny.viaDunder
  refine wpAny_bind (call.at ?_)
  dsimp only
  rw [tc_bind]
  refine wpAny_bind (wpAny_pure (wpAny_bind (wpAny_pure ?_)))
  refine wpAny_pure (a := Fin.again (.call (.builtin "type.__call__") ⟨[.ref 597, .str (S t) u], []⟩)) (And.intro rfl ?_)
  refine codeAny_call_builtin_at (Code.quiet_builtin _ (by decide +kernel)) entry_typeCall (check_slot tc_kind tc_split typ (tc_args _ _ _) ?_)
  unfold Builtin.«type.__call__»
  have hm := runL_sound (M := model pw w) X 50 (mroOf (.ref 597)) [(.ref 597), (.ref 120), (.ref 93), (.type "object")] (by kernel_rfl)
  have hmb := runL_sound (M := model pw w) X _ _ _ (rl_made w.params)
  iterate 9 lk
  refine cls_bind (s := up s hh tk) X (mc := .type "type") (g := .builtin "staticmethod.__get__") (a := .ref 94) (obj := .none) (tp := .ref 597) (by kernel_rfl) (by kernel_rfl) ?_
  refine wpAny_call (sm_get (s := up s hh (tk + 1)) (f := .ref 90) (rest := []) X (by kernel_rfl) ?_)
  show wpAny _ _ (handedOut (.ref 90)) _ _ _
  refine wpAny_pure ?_
  dsimp only
  refine wpAny_bind (wpAny_holding (c_new o (by rw [depth_under_make]; omega) fun h1 k1 I dI kp1 z1 z2 z3 hI hdI => ?_))
  have O1 : Ob ioN h1 I 597 dI fun _ => none := ⟨hI, Heap.Ns1.of_empty ⟨_, #[], 0, hdI, rfl, fun e he => absurd he (by simp), fun _ => rfl⟩, Nat.ne_of_lt z2, fun y hy => absurd rfl hy⟩
  have o1 : On w mg mb hh h1 := ⟨g', kp1, Nat.le_of_lt (Nat.lt_of_le_of_lt z1 (Nat.lt_trans z2 z3))⟩
  obtain ⟨od, I1, _⟩ := O1.inst
  have X1 := o1.gg.X
  have t1 := I1.type (M := model pw w)
  have s1 := looks_mroIn (M := model pw w) X1 (C := 597) (base := .ref 597) (r := true) (by kernel_rfl)
  unfold isInstance
  iterate 4 lk
  rw [if_neg (by decide)]
  refine wpAny_bind (wpAny_holding (special_fn (s := up s h1 k1) (name := "__init__") X1 I1 (f := 367) (by kernel_rfl) (by kernel_rfl) (c_ioinit o1 (by rw [depth_under_make]; omega) O1 z1 fun h2 k2 nl pu kb2 z4 P2 => ?_)))
  dsimp only
  rw [if_neg (by decide)]
  refine wpAny_pure ?_
  exact h h2 k2 I dI nl pu (fun b ob e => kb2 b ob (by rw [List.mem_singleton]; exact Nat.ne_of_lt (Nat.lt_of_lt_of_le (Heap.lt_size e) z1)) (kp1 b ob e)) z1 z2 (Nat.lt_of_lt_of_le z3 z4) P2
end
section
variable {A : Around} {E : Value → Shared → Prop} {s : Shared} {hh b₀ : Heap} {tk : Nat} {env : Env} {sc : Scope} {fa : Addr} {nm : Str} {cd : Value}
variable {w : World} {mg mb m : Str → Option Value} {L : Addr}
theorem k_setOb {M : Model} {x dx : Addr} {m' : Str → Option Value} {y : Str} {v : Value} {Q : Unit → Shared → Prop} (Φ : Fm w mg mb b₀ L m hh) (O : Ob lexN hh x 732 dx m') (h1 : x ≠ L) (h2 : dx ≠ L)
    (h : ∀ h', Fm w mg mb b₀ L (upd m y v) h' → KB [L] hh h' → Ob lexN h' x 732 dx m' → Q () (up s h' (tk + 1)))
    (hk : sc.kind = .function) (hl : (envOf nm sc L fa cd).kindOf y = some .local) :
    wpAny M A (storeName (envOf nm sc L fa cd) y v) Q E (up s hh tk) := k_setB Φ (fun h' Φ' kb => h h' Φ' kb (O.kb kb (by simpa using h1) (by simpa using h2))) hk hl
theorem k_genL {x dx : Addr} {m' : Str → Option Value} {name : Str} {v : Value} {Q : Unit → Shared → Prop} (Φ : Fm w mg mb b₀ L m hh) (O : Ob lexN hh x 732 dx m') (h2 : dx ≠ L) (hb : b₀.objs.size ≤ dx) (hf : findIn (K w.params) (.ref 732) name = some none) (hn : name ∈ lexN)
    (h : ∀ h' k, Fm w mg mb b₀ L m h' → KB [dx] hh h' → Ob lexN h' x 732 dx (upd m' name v) → Q () (up s h' k)) : wpAny (model pw w) A (setAttr (.ref x) name v) Q E (up s hh tk) :=
  set_ob Φ.gg.X (cls732 _) O hf hn (by decide) fun h' k O' kb => h h' k (Φ.kb kb (by simpa using Ne.symm h2) (by simpa using hb)) kb O'
end
theorem gdq (P : Params) : nsIn (K P) mainGlobals (Str.ofString "deque") = some (some (.type "collections.deque")) := by kernel_rfl
theorem lex_new {I PB FS : Addr} {u : Nat → Tok} {com wsp st tok lin v0 : Value} : upd (upd (upd (upd (upd (upd (upd (upd (upd (upd (upd (upd (upd (upd (upd (upd (upd (upd (upd (upd (fun _ => none) (Str.ofString "instream") (.ref I)) (Str.ofString "infile") (.none)) (Str.ofString "posix") (.bool true)) (Str.ofString "eof") (.none)) (Str.ofString "commenters") (com)) (Str.ofString "wordchars") (v0)) (Str.ofString "wordchars") (.str (S WC) (u 0))) (Str.ofString "whitespace") (.str (S [32, 9, 13, 10]) (u 1))) (Str.ofString "whitespace_split") (wsp)) (Str.ofString "quotes") (.str (S [39, 34]) (u 2))) (Str.ofString "escape") (.str (S [92]) (u 3))) (Str.ofString "escapedquotes") (.str (S [34]) (u 4))) (Str.ofString "state") (st)) (Str.ofString "pushback") (.ref PB)) (Str.ofString "lineno") (lin)) (Str.ofString "debug") (.int 0 (u 5))) (Str.ofString "token") (tok)) (Str.ofString "filestack") (.ref FS)) (Str.ofString "source") (.none)) (Str.ofString "_punctuation_chars") (.str (S []) (u 6)) = lexM I PB FS u com wsp st tok lin := by
  funext y
  by_cases h0 : y = Str.ofString "instream"
  · subst h0; rfl
  by_cases h1 : y = Str.ofString "infile"
  · subst h1; rfl
  by_cases h2 : y = Str.ofString "posix"
  · subst h2; rfl
  by_cases h3 : y = Str.ofString "eof"
  · subst h3; rfl
  by_cases h4 : y = Str.ofString "commenters"
  · subst h4; rfl
  by_cases h5 : y = Str.ofString "wordchars"
  · subst h5; rfl
  by_cases h6 : y = Str.ofString "whitespace"
  · subst h6; rfl
  by_cases h7 : y = Str.ofString "whitespace_split"
  · subst h7; rfl
  by_cases h8 : y = Str.ofString "quotes"
  · subst h8; rfl
  by_cases h9 : y = Str.ofString "escape"
  · subst h9; rfl
  by_cases h10 : y = Str.ofString "escapedquotes"
  · subst h10; rfl
  by_cases h11 : y = Str.ofString "state"
  · subst h11; rfl
  by_cases h12 : y = Str.ofString "pushback"
  · subst h12; rfl
  by_cases h13 : y = Str.ofString "lineno"
  · subst h13; rfl
  by_cases h14 : y = Str.ofString "debug"
  · subst h14; rfl
  by_cases h15 : y = Str.ofString "token"
  · subst h15; rfl
  by_cases h16 : y = Str.ofString "filestack"
  · subst h16; rfl
  by_cases h17 : y = Str.ofString "source"
  · subst h17; rfl
  by_cases h18 : y = Str.ofString "_punctuation_chars"
  · subst h18; rfl
  simp only [upd, lexM, lexB, if_neg h0, if_neg h1, if_neg h2, if_neg h3, if_neg h4, if_neg h5, if_neg h6, if_neg h7, if_neg h8, if_neg h9, if_neg h10, if_neg h11, if_neg h12, if_neg h13, if_neg h14, if_neg h15, if_neg h16, if_neg h17, if_neg h18]
noncomputable def tk7 (t0 t1 t2 t3 t4 t5 t6 : Tok) : Nat → Tok := fun i => [t0, t1, t2, t3, t4, t5, t6].getD i 0
theorem lex_new7 {I PB FS : Addr} {t0 t1 t2 t3 t4 t5 t6 : Tok} {com wsp st tok lin v0 : Value} : upd (upd (upd (upd (upd (upd (upd (upd (upd (upd (upd (upd (upd (upd (upd (upd (upd (upd (upd (upd (fun _ => none) (Str.ofString "instream") (.ref I)) (Str.ofString "infile") (.none)) (Str.ofString "posix") (.bool true)) (Str.ofString "eof") (.none)) (Str.ofString "commenters") (com)) (Str.ofString "wordchars") (v0)) (Str.ofString "wordchars") (.str (S (WC1 ++ WC2)) t0)) (Str.ofString "whitespace") (.str (S [32, 9, 13, 10]) t1)) (Str.ofString "whitespace_split") (wsp)) (Str.ofString "quotes") (.str (S [39, 34]) t2)) (Str.ofString "escape") (.str (S [92]) t3)) (Str.ofString "escapedquotes") (.str (S [34]) t4)) (Str.ofString "state") (st)) (Str.ofString "pushback") (.ref PB)) (Str.ofString "lineno") (lin)) (Str.ofString "debug") (.int 0 t5)) (Str.ofString "token") (tok)) (Str.ofString "filestack") (.ref FS)) (Str.ofString "source") (.none)) (Str.ofString "_punctuation_chars") (.str (S []) t6) = lexM I PB FS (tk7 t0 t1 t2 t3 t4 t5 t6) com wsp st tok lin := lex_new (u := tk7 t0 t1 t2 t3 t4 t5 t6)
local macro_rules | `(tactic| walk_at "k2") => `(tactic| repeat (first | exact KB.refl _ | assumption | refine KB.trans ?_ (KB.m0 (by assumption)) | refine KB.trans ?_ (KB.m1 (by assumption)) | refine KB.trans ?_ (KB.of (by assumption))))
section
variable {A : Around} {E : Value → Shared → Prop} {s : Shared} {hh b₀ : Heap} {tk : Nat} {env : Env}
variable {w : World} {mg mb m : Str → Option Value} {L : Addr}
theorem f656 (P : Params) : (K P).lookup 656 = some ⟨.type "function", none, .func (fnOf "__init__" "shlex.__init__" (dA (sm 23 0)) (dB (sm 23 0)) (dS (sm 23 0)) (.ref 649) .none .none (.str "cpy313.shlex" 1088) none (.ref 655) .none), #[]⟩ := by kernel_rfl
theorem t649 (P : Params) : (K P).lookup 649 = some ⟨.type "tuple", none, .seq #[.none, .none, .bool false, .bool false] 0, #[]⟩ := by kernel_rfl
theorem c_lexinit {x dx : Addr} {t : T} {u : Tok} {R : Result → Shared → Prop} (o : On w mg mb b₀ hh) (hroom : A.depth + 6 < recursionLimit) (O : Ob lexN hh x 732 dx fun _ => none) (hd : b₀.objs.size ≤ dx)
    (h : ∀ h' k I dI PB FS v ct st tt lt nl pu, KB [dx] hh h' → hh.objs.size ≤ h'.objs.size → Lx h' x dx I PB FS v (.str (S [35]) ct) (.bool false) (.str (S [32]) st) (.str (S []) tt) (.int 1 lt) → Io h' I dI nl (.str (S t) u) (.int (0 : Nat) pu) →
      h'.get? PB = some dq → h'.get? FS = some dq → hh.objs.size ≤ dI → dI < I → hh.objs.size ≤ PB → hh.objs.size ≤ FS → PB ≠ dI → FS ≠ dI → R (.ok (.ret .none)) (up s h' k)) :
    codeAny (model pw w) A (.call (.ref 656) ⟨[.ref x, .str (S t) u], [("posix", .bool true)]⟩) R (up s hh tk) := by
  refine call_onC [("self", .ref x), ("instream", .str (S t) u), ("infile", .none), ("posix", .bool true), ("punctuation_chars", .bool false)] o (by omega) (f656 _) (by kernel_rfl) (binds_K o.gg.X rfl (t649 _) rfl rfl rfl) fun h₁ L k hL k1 Φ hk => ?_
  have O1 := O.keeps k1
  have n1 : x ≠ L := Nat.ne_of_lt (hL ▸ O.lt)
  have n2 : dx ≠ L := Nat.ne_of_lt (hL ▸ O.dlt)
  refine nameR fun Qn1 En1 hQ1 hE1 => ?_
  refine q_cons ?_
  walk_at "r q_If;r q_tc;he q_call;b n_blt Boot.isinstance;hp q_cm;he q_acons;l n_loc;he q_acons;b n_blt Boot.str;r args_nil"
  refine r_isstr ?_
  walk_at "r wpAny_truthy_bool;r q_cons;hs q_asn;he q_call;g n_glob g597;K;he q_acons;l n_loc;r args_nil;A"
  refine c_mkio Φ.on (by show A.depth + 1 + 3 < _; omega) fun h2 k2 I dI nl pu kp2 z1 z2 z3 P2 => ?_
  have Φ2 := Φ.keeps kp2
  have O2 := O1.keeps kp2
  (refine k_setOb (by assumption) (by assumption) (by assumption) (by assumption) ?_ (by kernel_rfl) (by kernel_rfl)); (intro _ _ _ _); walk_at "r q_nil;r q_cons;r q_If;hm q_ctest;l n_loc;r wpAny_Constant_none;r isnot_ref_none;r wpAny_truthy_bool;r q_cons;hs q_aattr;l n_loc;l n_loc;G;r q_cons;hs q_aattr;l n_loc;l n_loc;G;r q_nil;r q_cons;hs q_aattr;l n_loc;l n_loc;G;r q_cons;r q_If;r q_tn;l n_loc;r wpAny_truthy_bool;r q_cons;hs q_aattr;r wpAny_Constant_none;l n_loc;G;r q_nil;r q_cons;hs q_aattr"; (with_reducible refine k_str [35] (by decide +kernel) ?_); walk_at "l n_loc;G;r q_cons;hs q_aattr"; (with_reducible refine k_str WC1 (by decide +kernel) ?_); walk_at "l n_loc;G;r q_cons;r q_If;r q_ta"; (with_reducible refine' e_attr (C := 732) ?pa31 ?pb31 (cls732 _) ?pc31 ?pd31 ?pe31 ?pf31 ?pg31 ?ph31 ?pi31 ?pj31); (case pa31 => assumption); (case pc31 => assumption); (case pb31 => rfl); (case pd31 => rfl); (case pf31 => kernel_rfl); (case pg31 => kernel_rfl); (case ph31 => decide); (case pi31 => kernel_rfl); (case pj31 => rfl); walk_at "r wpAny_truthy_bool;r q_cons;r q_auga;l n_loc"; (with_reducible refine' get_ob (C := 732) ?qa32 (cls732 _) ?qb32 ?qc32 ?qd32 ?qe32 ?qf32); (case qb32 => assumption); (case qa32 => exact (Fm.gg (by assumption)).X); (case qc32 => rfl); (case qd32 => kernel_rfl); (case qe32 => rfl); (with_reducible refine k_str WC2 (by decide +kernel) ?_)
  refine r_iadd (by decide) fun t7 k7 hk7 => ?_
  walk_at "G;r q_nil;r q_cons;hs q_aattr"; (with_reducible refine k_str [32, 9, 13, 10] (by decide +kernel) ?_); walk_at "l n_loc;G;r q_cons;hs q_aattr;r wpAny_Constant_bool;l n_loc;G;r q_cons;hs q_aattr"; (with_reducible refine k_str [39, 34] (by decide +kernel) ?_); walk_at "l n_loc;G;r q_cons;hs q_aattr"; (with_reducible refine k_str [92] (by decide +kernel) ?_); walk_at "l n_loc;G;r q_cons;hs q_aattr"; (with_reducible refine k_str [34] (by decide +kernel) ?_); walk_at "l n_loc;G;r q_cons;hs q_aattr"; (with_reducible refine k_str [32] (by decide +kernel) ?_); walk_at "l n_loc;G;r q_cons;hs q_aattr;he q_call;g n_glob gdq"
  rename_i ha ka Φa kba Oa
  refine PyProof.Rows.callWith_type rfl (evalArgs_nil3 (r_deque fun hb kpb dqb zb => ?_))
  have Φb := Φa.keeps kpb
  have Ob := Oa.keeps kpb
  walk_at "l n_loc;G;r q_cons;hs q_aattr;r k_int;l n_loc;G;r q_cons;hs q_aattr;r k_int;l n_loc;G;r q_cons;hs q_aattr"; (with_reducible refine k_str [] (by decide +kernel) ?_); walk_at "l n_loc;G;r q_cons;hs q_aattr;he q_call;g n_glob gdq"
  rename_i hc kc Φc kbc Oc
  refine PyProof.Rows.callWith_type rfl (evalArgs_nil3 (r_deque fun he kpe dqe ze => ?_))
  have Φe := Φc.keeps kpe
  have Oe := Oc.keeps kpe
  walk_at "l n_loc;G;r q_cons;hs q_aattr;r wpAny_Constant_none;l n_loc;G;r q_cons;r q_If;r q_not;r q_tn;l n_loc;r wpAny_truthy_bool;r q_cons;hs q_asn"; (with_reducible refine k_str [] (by decide +kernel) ?_); (refine k_setOb (by assumption) (by assumption) (by assumption) (by assumption) ?_ (by kernel_rfl) (by kernel_rfl)); (intro _ _ _ _); walk_at "r q_nil;r q_cons;hs q_aattr;l n_loc;l n_loc;G;r q_cons;r q_If;r q_tn;l n_loc"; (with_reducible refine r_truthy ?tl33 ?th33); (case tl33 => first | assumption | decide); walk_at "r if_e0;r q_nil;r q_nil"
  rename_i h9 k9 Φ9 kb9 O9
  rw [lex_new7] at O9
  have kbx : KB [L, dx] hh h9 := (KB.of k1).trans (by walk_at "k2")
  have kb2 : KB [L, dx] h2 h9 := by walk_at "k2"
  have kb2a : KB [L, dx] h2 ha := by walk_at "k2"
  have kb2c : KB [L, dx] h2 hc := by walk_at "k2"
  have kbb : KB [L, dx] hb h9 := by walk_at "k2"
  have kbe : KB [L, dx] he h9 := by walk_at "k2"
  have lL : L < h₁.objs.size := Φ.lt
  have ldx : dx < hh.objs.size := O.dlt
  have hL' : hh.objs.size = L := hL.symm
  have e1 : I ∉ [L, dx] := by
    simp only [List.mem_cons, List.not_mem_nil, or_false, not_or]
    try subst hQ1 hE1
    exact ⟨Nat.ne_of_gt (Nat.lt_of_lt_of_le lL (Nat.le_trans z1 (Nat.le_of_lt z2))), Nat.ne_of_gt (Nat.lt_trans (hL' ▸ ldx) (Nat.lt_of_lt_of_le lL (Nat.le_trans z1 (Nat.le_of_lt z2))))⟩
  have e2 : dI ∉ [L, dx] := by
    simp only [List.mem_cons, List.not_mem_nil, or_false, not_or]
    try subst hQ1 hE1
    exact ⟨Nat.ne_of_gt (Nat.lt_of_lt_of_le lL z1), Nat.ne_of_gt (Nat.lt_trans (hL' ▸ ldx) (Nat.lt_of_lt_of_le lL z1))⟩
  have Pa := P2.kb kb2a e1 e2
  have Pc := P2.kb kb2c e1 e2
  have e3 : ha.objs.size ∉ [L, dx] := by
    simp only [List.mem_cons, List.not_mem_nil, or_false, not_or]
    try subst hQ1 hE1
    exact ⟨Nat.ne_of_gt Φa.lt, Nat.ne_of_gt Oa.dlt⟩
  have e4 : hc.objs.size ∉ [L, dx] := by
    simp only [List.mem_cons, List.not_mem_nil, or_false, not_or]
    try subst hQ1 hE1
    exact ⟨Nat.ne_of_gt Φc.lt, Nat.ne_of_gt Oc.dlt⟩
  try subst hQ1 hE1
  exact h h9 _ I dI ha.objs.size hc.objs.size _ _ _ _ _ nl pu (kbx.drop fun b hb => by
      rcases List.mem_cons.mp hb with rfl | hb
      · try subst hQ1 hE1
        exact .inr (Nat.le_of_eq hL')
      · try subst hQ1 hE1
        exact .inl hb) (hL ▸ Nat.le_of_lt Φ9.lt) O9 (P2.kb kb2 e1 e2) (kbb _ _ e3 dqb) (kbe _ _ e4 dqe) (Nat.le_trans (Nat.le_of_lt (hL ▸ lL)) z1) z2 (hL ▸ Nat.le_of_lt Φa.lt) (hL ▸ Nat.le_of_lt Φc.lt) (Nat.ne_of_gt Pa.dlt) (Nat.ne_of_gt Pc.dlt)
end
theorem Call_KW {M : Model} {A : Around} {E : Value → Shared → Prop} {s : Shared} {env : Env} {func : Expr} {args : List Expr} {kws : List Keyword} {pos : Pos} {Q : Value → Shared → Prop}
    (h : wpAny M A (eval func env) (fun f s₁ => wpAny M A (callWith pos f [] (backTo pos (starEach args env)) (backToKw pos (keywordEach kws env))) Q E s₁) E s)
    (he : eval (.Call func args kws pos) env = (do callWith pos (← eval func env) [] (backTo pos (starEach args env)) (backToKw pos (keywordEach kws env)))) : wpAny M A (eval (.Call func args kws pos) env) Q E s := by
  rw [he]; exact wpAny_bind h
theorem Sl.env {h h' : Heap} {X : List Addr} {l : List Env} {env : Env} {L : Addr} (f : Sl h X (env :: l) h') (hf : env.frame = some L) (hL : h.objs.size ≤ L) : Sl h X l h' :=
  ⟨fun b o nb e nf => f.1 b o nb e fun en hen => by
    rcases List.mem_cons.mp hen with rfl | hen
    · rw [hf]; rintro ⟨⟩; exact absurd (Heap.lt_size e) (Nat.not_lt.mpr hL)
    · exact nf en hen, f.2⟩
section
variable {A : Around} {E : Value → Shared → Prop} {s : Shared} {hh b₀ : Heap} {tk : Nat} {env : Env}
variable {w : World} {mg mb m : Str → Option Value} {L : Addr}
theorem c_mklex {t : T} {u : Tok} {Q : Value → Shared → Prop} (o : On w mg mb b₀ hh) (hroom : A.depth + 8 < recursionLimit)
    (h : ∀ h' k x dx I dI PB FS v ct st tt lt nl pu, Keeps hh h' → hh.objs.size ≤ h'.objs.size → Lx h' x dx I PB FS v (.str (S [35]) ct) (.bool false) (.str (S [32]) st) (.str (S []) tt) (.int 1 lt) → Io h' I dI nl (.str (S t) u) (.int (0 : Nat) pu) →
      h'.get? PB = some dq → h'.get? FS = some dq → Apart hh x dx I dI PB FS → hh.objs.size ≤ x → hh.objs.size ≤ I → hh.objs.size ≤ PB → hh.objs.size ≤ FS → Q (.ref x) (up s h' k)) :
    wpAny (model pw w) A (call (.ref 732) [.str (S t) u] [("posix", .bool true)]) Q E (up s hh tk) := by
  have X := o.gg.X
  refine wpAny_call (make_core (h := hh) (C := 732) (rest := [.str (S t) u]) (kw := [("posix", .bool true)]) (init := .ref 656) (makes_of X (by kernel_rfl)) (looks_findIn X (by kernel_rfl)) (fun self => bind_fn X self (by kernel_rfl)) (.inl rfl) ?_)
  have kp : Keeps hh ((hh.push emptyDict).push (instObj 732 hh.objs.size)) := fun b ob e => Heap.get?_push_of_some _ (Heap.get?_push_of_some _ e)
  have hx : ((hh.push emptyDict).push (instObj 732 hh.objs.size)).get? (hh.objs.size + 1) = some (instObj 732 hh.objs.size) := by heap_get
  have hd : ((hh.push emptyDict).push (instObj 732 hh.objs.size)).get? hh.objs.size = some emptyDict := by heap_get
  have sz : ((hh.push emptyDict).push (instObj 732 hh.objs.size)).objs.size = hh.objs.size + 2 := by rw [Heap.size_push, Heap.size_push]
  generalize (hh.push emptyDict).push (instObj 732 hh.objs.size) = h1 at kp hx hd sz
  have O1 : Ob lexN h1 (hh.objs.size + 1) 732 hh.objs.size fun _ => none := ⟨hx, Heap.Ns1.of_empty ⟨_, #[], 0, hd, rfl, fun e he => absurd he (by simp), fun _ => rfl⟩, Nat.ne_of_lt (Nat.lt_succ_self _), fun y hy => absurd rfl hy⟩
  have o1 : On w mg mb hh h1 := ⟨o.gg, kp, by omega⟩
  refine c_lexinit (s := s) (tk := tk) o1 (by rw [depth_under_kw]; omega) O1 (Nat.le_refl _) fun h' k I dI PB FS v ct st tt lt nl pu kb z1 O2 P2 q1 q2 z2 z3 z4 z5 z6 z7 => ⟨rfl, ?_⟩
  refine h h' k _ _ I dI PB FS v ct st tt lt nl pu (fun b ob e => kb b ob (by rw [List.mem_singleton]; exact Nat.ne_of_lt (Heap.lt_size e)) (kp b ob e)) (by omega) O2 P2 q1 q2 ⟨Nat.le_refl _, by omega, ?_, ?_, ?_, ?_, ?_, ?_⟩ (Nat.le_succ _) (Nat.le_of_lt (Nat.lt_trans (by omega : hh.objs.size < dI) z3)) (by omega) (by omega)
  · exact Nat.ne_of_lt (by omega)
  · exact Nat.ne_of_lt (by omega)
  · exact Nat.ne_of_gt (Nat.lt_trans (by omega : hh.objs.size < dI) z3)
  · exact Nat.ne_of_gt (by omega)
  · simp only [List.mem_cons, List.not_mem_nil, or_false, not_or]; exact ⟨Nat.ne_of_gt (by omega), z6⟩
  · simp only [List.mem_cons, List.not_mem_nil, or_false, not_or]; exact ⟨Nat.ne_of_gt (by omega), z7⟩
theorem f744 (P : Params) : (K P).lookup 744 = some ⟨.type "function", none, .func (fnOf "split" "split" (dA (st 24)) (dB (st 24)) (dS (st 24)) (.ref 737) .none .none (.str "cpy313.shlex" 1088) none (.ref 743) .none), #[]⟩ := by kernel_rfl
theorem t737 (P : Params) : (K P).lookup 737 = some ⟨.type "tuple", none, .seq #[.bool false, .bool true] 0, #[]⟩ := by kernel_rfl
theorem c_split {t : T} {u : Tok} {outer : List Env} {Q : Value → Shared → Prop} (o : On w mg mb b₀ hh) (hroom : A.depth + 30 < recursionLimit) (hA : A.handled = none) (hfr : A.frames = some outer) (hF : Frs hh outer)
    (hl : t.length ≤ 2 ^ 20) (hc : ∀ c ∈ t, c ≠ 34 ∧ c ≠ 92)
    (h : ∀ h' k D acc c ws, shl .sp [] t = some ws → Sl hh [] outer h' → h'.get? D = some ⟨.type "list", none, .seq acc c, #[]⟩ → Strs acc ws → hh.objs.size ≤ D → Q (.ref D) (up s h' k))
    (hE : shl .sp [] t = none → ∀ e h' k, Fl (.type "ValueError") hh [] outer e h' → E (.ref e) (up s h' k)) :
    wpAny (model pw w) A (call (.ref 744) [.str (S t) u]) Q E (up s hh tk) := by
  refine call_on [("s", .str (S t) u), ("comments", .bool false), ("posix", .bool true)] o.gg.on (by omega) (f744 _) (by kernel_rfl) (binds_K o.gg.X rfl (t737 _) rfl rfl rfl) fun h₁ L k hL k1 Φ hk => ?_
  refine q_cons ?_
  walk_at "r q_If;hm q_ctest;l n_loc;r wpAny_Constant_none;r is_str_none;r wpAny_truthy_bool;r q_nil;r q_cons;hs q_asn"
  with_reducible refine Call_KW ?c1 ?c2
  case c2 => rfl
  walk_at "g n_glob g732"
  with_reducible refine callWith_KW Φ.gg.X ?d1 ?d2 ?d3 ?d4 ?d5
  case d1 => kernel_rfl
  case d2 => rfl
  case d4 => rfl
  case d5 => rfl
  walk_at "he q_acons;l n_loc;r args_nil"
  refine wpAny_evalAll_cons ?_
  refine wpAny_bind ?_
  walk_at "l n_loc"
  refine wpAny_bind (wpAny_standAt (wpAny_pure ?_))
  refine wpAny_evalAll_nil ⟨Φ.gg.X, ?_⟩
  refine (c_mklex (A := A.deeper (envOf "split" (dS (st 24)) L 744 (.ref 743))) (t := t) (u := u) Φ.gg.on (by show A.depth + 1 + 8 < _; omega) fun h2 k2 x dx I dI PB FS v ct st1 tt lt nl pu kp2 z2 O2 P2 q1 q2 Z z5 z6 z7 z8 => ?_ : wpAny _ _ (call (.ref 732) [.str (S t) u] [("posix", .bool true)]) _ _ _)
  have Φ2 := Φ.keeps kp2
  have lL : L < h₁.objs.size := Φ.lt
  have n1 : x ≠ L := Nat.ne_of_gt (Nat.lt_of_lt_of_le lL z5)
  have n2 : dx ≠ L := Nat.ne_of_gt (Nat.lt_of_lt_of_le lL Z.hd)
  have n3 : I ≠ L := Nat.ne_of_gt (Nat.lt_of_lt_of_le lL z6)
  have n4 : dI ≠ L := Nat.ne_of_gt (Nat.lt_of_lt_of_le lL Z.hdI)
  have hlo : hh.objs.size ≤ h₁.objs.size := hL ▸ Nat.le_of_lt lL
  have hd : hh.objs.size ≤ dx := Nat.le_trans hlo Z.hd
  have hdI : hh.objs.size ≤ dI := Nat.le_trans hlo Z.hdI
  have a3 := Z.a3
  have a4 := Z.a4
  walk_at "sL;r q_cons;hs q_aattr;r wpAny_Constant_bool;l n_loc;z z_whitespace_split;r q_cons;r q_If;r q_not;r q_tn;l n_loc;r wpAny_truthy_bool;r q_cons;hs q_aattr"; (with_reducible refine k_str [] (by decide +kernel) ?_); walk_at "l n_loc;z z_commenters;r q_nil;r q_cons;r q_ret;he q_call;b n_blt Boot.list;hp q_ct;he q_acons;l n_loc;r args_nil"
  rename_i h9 k9 Φ9 kb9 O9 P9
  have kb29 : KB [L, dx] h2 h9 := by walk_at "k3"
  have kp9 : Keeps hh h9 := fun b ob e => kb29 b ob (by
    simp only [List.mem_cons, List.not_mem_nil, or_false, not_or]
    exact ⟨hL ▸ Nat.ne_of_lt (Heap.lt_size e), Nat.ne_of_lt (Nat.lt_of_lt_of_le (Heap.lt_size e) hd)⟩) (kp2 b ob (k1 b ob e))
  have qb : ∀ {b ob}, b ∉ [dx, dI] → h₁.objs.size ≤ b → h2.get? b = some ob → h9.get? b = some ob := fun nb lb e => kb29 _ _ (by
    simp only [List.mem_cons, List.not_mem_nil, or_false, not_or] at nb ⊢
    exact ⟨Nat.ne_of_gt (Nat.lt_of_lt_of_le lL lb), nb.1⟩) e
  have hX2 : ∀ env ∈ (envOf "split" (dS (st 24)) L 744 (.ref 743)) :: outer, ∀ b ∈ [dx, dI], env.frame ≠ some b := by
    intro env he b hb
    rcases List.mem_cons.mp he with rfl | he
    · intro q
      have q' : L = b := Option.some.inj q
      subst q'
      rcases List.mem_cons.mp hb with q | hb
      · exact n2 q.symm
      · exact n4 (List.mem_singleton.mp hb).symm
    · intro q
      obtain ⟨_, L', ob, c', d', _⟩ := hF env he
      rw [c'] at q; cases q
      have := Heap.lt_size d'
      rcases List.mem_cons.mp hb with q | hb
      · exact absurd (q ▸ this) (Nat.not_lt.mpr hd)
      · rw [List.mem_singleton] at hb; exact absurd (hb ▸ this) (Nat.not_lt.mpr hdI)
  have low : ∀ {Y : List Addr}, ∀ b ∈ [dx, dI], b ∈ Y ∨ hh.objs.size ≤ b := fun b hb => by
    rcases List.mem_cons.mp hb with rfl | hb
    · exact .inr hd
    · rw [List.mem_singleton] at hb; subst hb; exact .inr hdI
  refine c_listlex (A := A.deeper (envOf "split" (dS (st 24)) L 744 (.ref 743))) hA (Around.frames_deeper hfr) (by show A.depth + 1 + 20 < _; omega) ⟨hd, hdI, Z.a1, Z.a2, Z.a3, Z.a4, Z.p1, Z.p2⟩ hl hc hX2 Φ9.on ((hF.keeps kp9).cons Φ9 rfl rfl) O9 P9 (qb Z.p1 z7 q1) (qb Z.p2 z8 q2) ?post ?exc
  case post =>
    intro h' k acc' c' ws e sl hD hacc
    exact h h' _ _ acc' c' ws e ((sl.kb (KB.of kp9) low).env (L := L) rfl (Nat.le_of_eq hL.symm)) hD hacc Φ9.le
  case exc =>
    intro e1 e h' k fl
    refine leave_fl (X := [L]) (Around.frames_deeper hfr) rfl (fl.kb (KB.of kp9) low) (.head _) fun h3 f3 => hE e1 e h3 k (f3.kb (KB.refl _) fun b hb => ?_)
    rw [List.mem_singleton] at hb
    subst hb
    exact .inr (Nat.le_of_eq hL.symm)
end
noncomputable def stepW (p : List T × T) (c : Nat) : List T × T := if ws c then ((if p.2 = [] then p.1 else p.1 ++ [p.2]), []) else (p.1, p.2 ++ [c])
noncomputable def foldG : Bool → List T × T → List T → List T × T
  | _, p, [] => p
  | true, p, g :: r => foldG false (p.1, p.2 ++ g) r
  | false, p, g :: r => foldG true (g.foldl stepW p) r
theorem evenGap_fold : ∀ (g : T) (acc : List T) (wd : T), g.foldl stepW (acc, wd) = (acc ++ (evenGap wd g).1, (evenGap wd g).2)
  | [], acc, wd => by simp [evenGap]
  | c :: r, acc, wd => by
    rw [List.foldl_cons]
    by_cases hw : ws c = true
    · by_cases h0 : wd = []
      · have e1 : stepW (acc, wd) c = (acc, []) := by unfold stepW; rw [if_pos hw]; simp [h0]
        have e2 : evenGap wd (c :: r) = ((evenGap [] r).1, (evenGap [] r).2) := by rw [evenGap, if_pos hw, if_pos h0]
        rw [e1, e2, evenGap_fold r acc []]
      · have e1 : stepW (acc, wd) c = (acc ++ [wd], []) := by unfold stepW; rw [if_pos hw]; simp [h0]
        have e2 : evenGap wd (c :: r) = (wd :: (evenGap [] r).1, (evenGap [] r).2) := by rw [evenGap, if_pos hw, if_neg h0]
        rw [e1, e2, evenGap_fold r (acc ++ [wd]) [], List.append_assoc]; rfl
    · have e1 : stepW (acc, wd) c = (acc, wd ++ [c]) := by unfold stepW; rw [if_neg hw]
      rw [e1, evenGap, if_neg hw]
      exact evenGap_fold r acc (wd ++ [c])
theorem lawWords_fold : ∀ (gs : List T) (f : Bool) (acc : List T) (wd : T), acc ++ lawWords f wd gs = (foldG f (acc, wd) gs).1 ++ (if (foldG f (acc, wd) gs).2 = [] then [] else [(foldG f (acc, wd) gs).2])
  | [], f, acc, wd => by cases f <;> rfl
  | g :: r, true, acc, wd => lawWords_fold r false acc (wd ++ g)
  | g :: r, false, acc, wd => by
    show acc ++ ((evenGap wd g).1 ++ lawWords true (evenGap wd g).2 r) = _
    have e : foldG false (acc, wd) (g :: r) = foldG true (acc ++ (evenGap wd g).1, (evenGap wd g).2) r := by
      show foldG true (g.foldl stepW (acc, wd)) r = _
      rw [evenGap_fold]
    rw [e, ← List.append_assoc]
    exact lawWords_fold r true _ _
theorem foldG_snoc : ∀ (a : List T) (f : Bool) (p : List T × T) (g : T), foldG f p (a ++ [g]) = if (a.length % 2 = 1) = (f = false) then ((foldG f p a).1, (foldG f p a).2 ++ g) else g.foldl stepW (foldG f p a)
  | [], true, p, g => by simp [foldG]
  | [], false, p, g => by simp [foldG]
  | x :: a, true, p, g => by
    show foldG false _ (a ++ [g]) = _
    rw [foldG_snoc a false _ g]
    show _ = if ((a.length + 1) % 2 = 1) = (true = false) then ((foldG false (p.1, p.2 ++ x) a).1, (foldG false (p.1, p.2 ++ x) a).2 ++ g) else g.foldl stepW (foldG false (p.1, p.2 ++ x) a)
    by_cases h : a.length % 2 = 1
    · rw [if_pos (by simp [h]), if_pos (by simp; omega)]
    · rw [if_neg (by simp [h]), if_neg (by simp; omega)]
  | x :: a, false, p, g => by
    show foldG true _ (a ++ [g]) = _
    rw [foldG_snoc a true _ g]
    show _ = if ((a.length + 1) % 2 = 1) = (false = false) then ((foldG true (x.foldl stepW p) a).1, (foldG true (x.foldl stepW p) a).2 ++ g) else g.foldl stepW (foldG true (x.foldl stepW p) a)
    by_cases h : a.length % 2 = 1
    · rw [if_neg (by simp [h]), if_neg (by simp; omega)]
    · rw [if_pos (by simp [h]), if_pos (by simp; omega)]
theorem foldG_take (gs : List T) (i : Nat) (g : T) (h : gs[i]? = some g) : foldG false ([], []) (gs.take (i + 1)) = if i % 2 = 1 then ((foldG false ([], []) (gs.take i)).1, (foldG false ([], []) (gs.take i)).2 ++ g) else g.foldl stepW (foldG false ([], []) (gs.take i)) := by
  have hl : i < gs.length := (List.getElem?_eq_some_iff.mp h).1
  rw [List.take_succ, h]
  show foldG false ([], []) (gs.take i ++ [g]) = _
  rw [foldG_snoc, List.length_take, Nat.min_eq_left (Nat.le_of_lt hl)]
  by_cases h2 : i % 2 = 1
  · rw [if_pos (by simp [h2]), if_pos h2]
  · rw [if_neg (by simp [h2]), if_neg h2]
theorem stepW_take (g : T) (j c : Nat) (p : List T × T) (h : g[j]? = some c) : (g.take (j + 1)).foldl stepW p = stepW ((g.take j).foldl stepW p) c := by
  rw [List.take_succ, h, List.foldl_append]; rfl
theorem stepW_len (p : List T × T) (c : Nat) : (stepW p c).1.length ≤ p.1.length + 1 ∧ (stepW p c).2.length ≤ p.2.length + 1 := by
  unfold stepW
  split
  · split <;> simp
  · simp
theorem foldW_len : ∀ (g : T) (p : List T × T), (g.foldl stepW p).1.length ≤ p.1.length + g.length ∧ (g.foldl stepW p).2.length ≤ p.2.length + g.length
  | [], p => ⟨Nat.le_refl _, Nat.le_refl _⟩
  | c :: g, p => by
    have h1 := stepW_len p c
    have h2 := foldW_len g (stepW p c)
    rw [List.foldl_cons, List.length_cons]
    omega
theorem foldG_len (gs : List T) (B : Nat) (hB : ∀ x ∈ gs, x.length ≤ B) : ∀ i, i ≤ gs.length → (foldG false ([], []) (gs.take i)).1.length ≤ B * i ∧ (foldG false ([], []) (gs.take i)).2.length ≤ B * i
  | 0, _ => ⟨Nat.zero_le _, Nat.zero_le _⟩
  | i + 1, hi => by
    have ih := foldG_len gs B hB i (Nat.le_of_succ_le hi)
    have h : gs[i]? = some (gs[i]'hi) := List.getElem?_eq_getElem hi
    have hb := hB _ (List.getElem_mem hi)
    rw [foldG_take gs i _ h, Nat.mul_succ]
    split
    · simp only [List.length_append]; omega
    · have := foldW_len (gs[i]'hi) (foldG false ([], []) (gs.take i))
      omega
section
variable {A : Around} {E : Value → Shared → Prop} {s : Shared} {hh : Heap} {tk : Nat} {env : Env}
variable {w : World} {mg mb : Str → Option Value}
theorem f907 (P : Params) : (K P).lookup 907 = some ⟨.type "function", none, .func (fnOf "_law_words" "_law_words" (dA (st 53)) (dB (st 53)) (dS (st 53)) .none .none .none (.str "law_rt0109_01" 1427) none (.ref 906) .none), #[]⟩ := by kernel_rfl
theorem r_len {D : Addr} {items : Array Value} {Q : Value → Shared → Prop} (x : Li hh D items) (hs : items.size < 2 ^ 62) (h : Q (.int ((items.size : Nat) : Int) (tk + 1)) (up s hh (tk + 2))) : wpAny (model pw w) A (call (.builtin "len") [.ref D]) Q E (up s hh tk) := Calls.call_len_list (s := up s hh tk) x.is (by walk_at "x2") h
theorem c_words {Gd : Nat} {items : Array Value} {gs : List T} {Q : Value → Shared → Prop} (g : G w mg mb hh) (hroom : A.depth < recursionLimit) (hA : A.handled = none)
    (hG : Li hh Gd items) (hi : Strs items gs) (hn : gs.length ≤ 1000) (hl : ∀ x ∈ gs, x.length ≤ 300)
    (h : ∀ h' k D its, Keeps hh h' → Li h' D its → Strs its (lawWords false [] gs) → hh.objs.size ≤ D → Q (.ref D) (up s h' k)) :
    wpAny (model pw w) A (call (.ref 907) [.ref Gd]) Q E (up s hh tk) := by
  refine call_pure [("gaps", .ref Gd)] g hroom (f907 _) (by kernel_rfl) (.of_eq (by rfl)) fun h₁ L k hL Φ hk => ?_
  refine q_cons ?_
  walk_at "hs q_asn;r q_list;r args_nil"
  refine k_newList Φ (by decide) fun h2 kp2 Φ2 hW => ?_
  walk_at "sB;r q_cons;hs q_asn"
  refine k_str [] (by kernel_rfl) ?_
  walk_at "sB;r q_cons"
  refine q_for ?_
  walk_at "he q_call;b n_blt Boot.range;hp q_ct;he q_acons;he q_call;b n_blt Boot.len;hp q_cm;he q_acons;l n_loc;r args_nil"
  rename_i h3 Φ3 kb3
  have G3 : Li h3 Gd items := (hG.keeps Φ3.kept)
  have hsz := hi.size
  refine r_len G3 (by walk_at "x2") ?_
  walk_at "r args_nil"
  rw [show ((items.size : Nat) : Int) = ((gs.length : Nat) : Int) by rw [hsz]]
  with_reducible refine r_range Φ3 ?rg
  intro h4 t4 u4 kp4 Φ4 hr4
  with_reducible refine p_range Φ4 hr4 ?bd ?pr
  case bd => omega
  intro h5 kp5 Φ5 hi5
  have hL' : @Eq Nat L hh.objs.size := hL
  have oL : hh.objs.size < h₁.objs.size := hL ▸ Φ.lt
  have kb23 : KB [L] h2 h3 := by walk_at "kb"
  have W3 : Li h3 h₁.objs.size _ := hW.kb kb23 (by walk_at "x3")
  have o4 : h₁.objs.size < h4.objs.size := (W3.keeps kp4).lt
  have GL : Gd < hh.objs.size := hG.lt
  have fl := fun i hi => foldG_len gs 300 hl i hi
  refine loop_W (Walks.range (A := A.deeper _) hA h4.objs.size 0 1 gs.length) [h₁.objs.size] ?_ ?_
    (fun i m h => m "gaps" = some (.ref Gd) ∧ m "words" = some (.ref h₁.objs.size) ∧ ∃ its u, Li h h₁.objs.size its ∧ Strs its (foldG false ([], []) (gs.take i)).1 ∧ m "word" = some (.str (S (foldG false ([], []) (gs.take i)).2) u))
    ?_ Φ5 hi5 ⟨rfl, rfl, #[], _, (W3.keeps kp4).keeps kp5, Strs.nil, rfl⟩ (by kernel_rfl) (by kernel_rfl) ?_ ?_
  · intro b hb
    obtain rfl := List.mem_singleton.mp hb
    exact ⟨ni1 (by walk_at "x2"), show @Ne Nat _ _ by walk_at "x2"⟩
  · intro b hb
    obtain rfl := List.mem_singleton.mp hb
    show @LE.le Nat _ _ _
    omega
  · rintro i m h h' ⟨a, b, its, u, x, y, z⟩ kb
    exact ⟨a, b, its, u, x.kb kb (by walk_at "x3"), y, z⟩
  · rintro i v1 m' h10 k10 hi2 ⟨t1, rfl⟩ kb10 ⟨jg, jw, its, u, Dl, hits, jwd⟩ Φ10 hk10
    have ei : (0 + (i : Int) * 1) = ((i : Nat) : Int) := by omega
    rw [ei] at Φ10
    obtain ⟨gi, hgi⟩ : ∃ gi, gs[i]? = some gi := ⟨_, List.getElem?_eq_getElem hi2⟩
    obtain ⟨ug, hug⟩ := hi.at i gi hgi
    have G10 : Li h10 Gd items := hG.keeps Φ10.kept
    have hlg : gi.length ≤ 300 := hl gi (List.mem_of_getElem? hgi)
    have hfl := fl i (Nat.le_of_lt hi2)
    have hft := foldG_take gs i gi hgi
    generalize hF : foldG false ([], []) (gs.take i) = F at *
    obtain ⟨acc, wd⟩ := F
    dsimp only at hits jwd hfl hft
    have hb : 300 * i ≤ 300000 := by omega
    refine nameQ fun Qt1 hQt1 => ?_
    refine q_cons ?_
    walk_at "r q_If;r q_tb;r q_bin;l n_loc;r k_int"
    refine r_mod (b := 2) (by decide) ?_
    refine P.truthy_int (s := up s _ _) ?_
    refine if_int (fun h2 => ?_) (fun h2 => ?_)
    · rw [if_neg (by walk_at "x2")] at hft
      walk_at "r q_cons"
      refine q_for ?_
      walk_at "ht q_sname;l n_loc;l n_loc"
      refine i_list G10 hug (by walk_at "x2") ?_
      refine p_str Φ10 fun h11 St kp11 Φ11 W11 st11 => ?_
      have o10 : h₁.objs.size < h10.objs.size := Dl.lt
      refine loop_W (W11 (A.deeper _) hA) [h₁.objs.size] ?_ ?_
        (fun j m h => m "gaps" = some (.ref Gd) ∧ m "words" = some (.ref h₁.objs.size) ∧ ∃ its u, Li h h₁.objs.size its ∧ Strs its ((gi.take j).foldl stepW (acc, wd)).1 ∧ m "word" = some (.str (S ((gi.take j).foldl stepW (acc, wd)).2) u))
        ?_ Φ11 st11 ⟨jg, jw, its, u, Dl.keeps kp11, hits, jwd⟩ (by kernel_rfl) (by kernel_rfl) ?_ ?_
      · intro b hb
        obtain rfl := List.mem_singleton.mp hb
        exact ⟨ni1 (by walk_at "x2"), show @Ne Nat _ _ by walk_at "x2"⟩
      · intro b hb
        obtain rfl := List.mem_singleton.mp hb
        show @LE.le Nat _ _ _
        omega
      · rintro j m h h' ⟨a, b, its, u, x, y, z⟩ kb
        exact ⟨a, b, its, u, x.kb kb (by walk_at "x3"), y, z⟩
      · rintro j v2 m2 h12 k12 hj ⟨c, u1, hc, rfl⟩ kb12 ⟨jg2, jw2, its2, u2, D12, hits2, jwd2⟩ Φ12 hk12
        have hc' : gi[j]? = some c := by simpa using hc
        have hjl : j < gi.length := (List.getElem?_eq_some_iff.mp hc').1
        have hst := stepW_take gi j c (acc, wd) hc'
        have hsl := foldW_len (gi.take j) (acc, wd)
        rw [List.length_take] at hsl
        generalize (gi.take j).foldl stepW (acc, wd) = F2 at *
        obtain ⟨acc2, wd2⟩ := F2
        dsimp only at hits2 jwd2 hsl hst
        refine nameQ fun Qt2 hQt2 => ?_
        refine q_cons ?_
        walk_at "r q_If;hm q_ctest;l n_loc"
        refine k_str [32, 9, 13, 10] (by kernel_rfl) ?_
        refine r_in ?_
        walk_at "r wpAny_truthy_bool"
        refine if_ws (fun hw => ?_) (fun hw => ?_)
        · (walk_at "r q_cons;r q_If;r q_tn;l n_loc")
          refine r_truthy (by walk_at "x2") ?_
          rcases wd2 with _ | ⟨a0, w1⟩
          · (walk_at "r if_e0;r q_nil;r q_cons;hs q_asn")
            refine k_str [] (by kernel_rfl) ?_
            walk_at "sB;r q_nil;r q_nil"
            rename_i h14 Φ14 kb14
            have hs2 : stepW (acc2, []) c = (acc2, []) := by unfold stepW; rw [if_pos hw]; rfl
            subst hQt2
            refine ⟨_, h14, _, rfl, Φ14, ?_, ?_⟩
            · rw [hst, hs2]; exact ⟨jg2, jw2, its2, _, D12.kb kb14 (by walk_at "x3"), hits2, rfl⟩
            · walk_at "kb"
          · (walk_at "r if_e1;r q_cons;X;M;l n_loc")
            refine m_append D12 ?_
            walk_at "hp q_cm;he q_acons;l n_loc;r args_nil"
            refine r_append D12 (by rw [hits2.size]; omega) fun h13 D13 kb13 => ?_
            have Φ13 := Φ12.kb kb13 (by walk_at "x3") (by intro b hb; obtain rfl := List.mem_singleton.mp hb; show @LE.le Nat _ _ _; walk_at "x2")
            walk_at "r q_nil;r q_cons;hs q_asn"
            refine k_str [] (by kernel_rfl) ?_
            walk_at "sB;r q_nil;r q_nil"
            rename_i h14 Φ14 kb14
            have hs2 : stepW (acc2, a0 :: w1) c = (acc2 ++ [a0 :: w1], []) := by unfold stepW; rw [if_pos hw]; rfl
            subst hQt2
            refine ⟨_, h14, _, rfl, Φ14, ?_, ?_⟩
            · rw [hst, hs2]; exact ⟨jg2, jw2, _, _, D13.kb kb14 (by walk_at "x3"), hits2.push _ _, rfl⟩
            · walk_at "kb"
        · (walk_at "r q_cons;hs q_asn;r q_bin;l n_loc;l n_loc")
          refine r_add (by simp only [List.length_cons, List.length_nil]; omega) fun t15 k15 hk15 => ?_
          walk_at "sB;r q_nil;r q_nil"
          rename_i h14 Φ14 kb14
          have hs2 : stepW (acc2, wd2) c = (acc2, wd2 ++ [c]) := by unfold stepW; rw [if_neg (by rw [hw]; exact Bool.false_ne_true)]
          subst hQt2
          refine ⟨_, h14, _, rfl, Φ14, ?_, ?_⟩
          · rw [hst, hs2]; exact ⟨jg2, jw2, its2, _, D12.kb kb14 (by walk_at "x3"), hits2, rfl⟩
          · walk_at "kb"
      · rintro m2 h12 k12 kb12 ⟨jg2, jw2, its2, u2, D12, hits2, jwd2⟩ Φ12
        have et : gi.take (S gi).cps.size = gi := by rw [show (S gi).cps.size = gi.length by simp]; exact List.take_length
        rw [et, ← hft] at hits2 jwd2
        walk_at "r q_nil;r q_nil"
        subst hQt1
        refine ⟨_, h12, _, rfl, Φ12, ⟨jg2, jw2, its2, u2, D12, hits2, jwd2⟩, ?_⟩
        exact ((KB.of kp11).trans kb12).drop fun b hb => by
          simp only [List.mem_cons, List.not_mem_nil, or_false, List.mem_append, List.cons_append, List.nil_append] at hb
          rcases hb with rfl | rfl | rfl
          · exact .inl (.head _)
          · exact .inr (Nat.le_refl _)
          · exact .inl (.tail _ (.head _))
    · rw [if_pos (by walk_at "x2")] at hft
      walk_at "r q_cons;hs q_asn;r q_bin;l n_loc;ht q_sname;l n_loc;l n_loc"
      refine i_list G10 hug (by walk_at "x2") ?_
      refine r_add (by walk_at "x2") fun t15 k15 hk15 => ?_
      walk_at "sB;r q_nil;r q_nil"
      rename_i h14 Φ14 kb14
      subst hQt1
      refine ⟨_, h14, _, rfl, Φ14, ?_, ?_⟩
      · rw [hft]; exact ⟨jg, jw, its, _, Dl.kb kb14 (by walk_at "x3"), hits, rfl⟩
      · walk_at "kb"
  · intro m' h' k' kb ⟨jg, jw, its, u, Dl, hits, jwd⟩ Φ'
    have hfl := fl gs.length (Nat.le_refl _)
    have hlw := lawWords_fold gs false [] []
    rw [List.nil_append] at hlw
    rw [List.take_length] at hits jwd hfl
    generalize foldG false ([], []) gs = F at *
    obtain ⟨acc, wd⟩ := F
    dsimp only at hits jwd hfl hlw
    have hb : 300 * gs.length ≤ 300000 := by omega
    walk_at "r q_cons;r q_If;r q_tn;l n_loc"
    refine r_truthy (by walk_at "x2") ?_
    rcases wd with _ | ⟨a0, w1⟩
    · (walk_at "r if_e0;r q_nil;r q_cons;r q_ret;l n_loc")
      refine h h' _ _ its Φ'.kept Dl ?_ (Nat.le_of_lt oL)
      rw [hlw, if_pos rfl, List.append_nil]; exact hits
    · (walk_at "r if_e1;r q_cons;X;M;l n_loc")
      refine m_append Dl ?_
      walk_at "hp q_cm;he q_acons;l n_loc;r args_nil"
      refine r_append Dl (by rw [hits.size]; omega) fun h13 D13 kb13 => ?_
      have Φ13 := Φ'.kb kb13 (by walk_at "x3") (by intro b hb; obtain rfl := List.mem_singleton.mp hb; show @LE.le Nat _ _ _; walk_at "x2")
      walk_at "r q_nil;r q_cons;r q_ret;l n_loc"
      refine h h13 _ _ _ Φ13.kept D13 ?_ (Nat.le_of_lt oL)
      rw [hlw, if_neg (List.cons_ne_nil _ _)]; exact hits.push _ _
end
noncomputable def wayS (l : List Nat) : T := l.flatMap fun d => [47, 48 + d]
theorem wayS_append (a b : List Nat) : wayS (a ++ b) = wayS a ++ wayS b := List.flatMap_append
theorem wayS_cons (d : Nat) (b : List Nat) : wayS (d :: b) = 47 :: (48 + d) :: wayS b := rfl
theorem wayS_len (l : List Nat) : (wayS l).length = 2 * l.length := by
  induction l with
  | nil => rfl
  | cons d l ih => rw [wayS_cons, List.length_cons, List.length_cons, ih, List.length_cons]; omega
theorem wayS_inj : ∀ a b : List Nat, wayS a = wayS b ↔ a = b
  | [], [] => by simp
  | [], d :: b => by simp [wayS]
  | d :: a, [] => by simp [wayS]
  | d :: a, e :: b => by
    rw [wayS_cons, wayS_cons]
    have := wayS_inj a b
    simp only [List.cons.injEq, true_and]
    rw [this]
    exact ⟨fun ⟨x, y⟩ => ⟨by omega, y⟩, fun ⟨x, y⟩ => ⟨by omega, y⟩⟩
theorem wayS_joined (l : List Nat) (d : Nat) (h : l ≠ []) : joined (wayS l) [48 + d] = wayS (l ++ [d]) := by
  have : ∃ p x, l = p ++ [x] := ⟨l.dropLast, l.getLast h, (List.dropLast_concat_getLast h).symm⟩
  obtain ⟨p, x, rfl⟩ := this
  rw [wayS_append _ [d]]
  unfold joined
  have e : wayS (p ++ [x]) = (wayS p ++ [47]) ++ [48 + x] := by rw [wayS_append]; simp [wayS]
  rw [e, List.getLast?_append]
  rw [if_neg (by simp; omega)]
  rfl
theorem wayGo_from : ∀ (r p : Nat) (l : List Nat), l ≠ [] → wayGo r p (wayS l) = wayS (l ++ figs r p)
  | 0, p, l, h => by rw [wayGo, wayS_joined l p h]; rfl
  | r + 1, p, l, h => by
    rw [wayGo, wayS_joined l _ h, wayGo_from r (p / 3) _ (by simp), List.append_assoc]; rfl
theorem wayGo_wayS (r p : Nat) : wayGo r p [47] = wayS (figs r p) := by
  cases r with
  | zero => rfl
  | succ r =>
    rw [wayGo, show joined [47] [48 + p % 3] = wayS [p % 3] from rfl, wayGo_from r _ _ (by simp)]; rfl
noncomputable def cp : Nat → T
  | 0 => [47]
  | k + 1 => wayS (List.replicate (k + 1) 1)
theorem cp_half (k : Nat) : (cp k).length / 2 = k := by
  cases k with
  | zero => rfl
  | succ k => rw [cp, wayS_len, List.length_replicate]; omega
theorem figs_last : ∀ r p, ∃ l, figs r p = l ++ [p / 3 ^ r] ∧ l.length = r ∧ ∀ x ∈ l, x < 3
  | 0, p => ⟨[], by simp [figs], rfl, by simp⟩
  | r + 1, p => by
    obtain ⟨l, e, hl, h3⟩ := figs_last r (p / 3)
    refine ⟨p % 3 :: l, ?_, by rw [List.length_cons, hl], fun x hx => ?_⟩
    · rw [figs, e, List.cons_append, Nat.pow_succ, Nat.mul_comm, Nat.div_div_eq_div_mul]
    · rcases List.mem_cons.mp hx with rfl | hx
      · exact Nat.mod_lt _ (by decide)
      · exact h3 x hx
theorem way_base (r p : Nat) : ∃ pre, wayS (figs r p) = pre ++ 47 :: [48 + p / 3 ^ r] := by
  obtain ⟨l, e, _, _⟩ := figs_last r p
  exact ⟨wayS l, by rw [e, wayS_append]; rfl⟩
section
variable {A : Around} {E : Value → Shared → Prop} {s : Shared} {hh : Heap} {tk : Nat} {env : Env}
variable {w : World} {mg mb : Str → Option Value} {m : Str → Option Value} {h₀ : Heap} {L : Addr}
theorem i_slice {l : Addr} {items : Array Value} {vl vu : Value} {lo hi : Option Int} {Q : Value → Shared → Prop} (hl : hh.IsList l items) (pl : IsPart vl lo) (pu : IsPart vu hi) (hsz : items.size ≤ 2 ^ 20)
    (h : ∀ h' D, Keeps hh h' → Li h' D (slicePick items lo hi none) → hh.objs.size ≤ D → Q (.ref D) (up s h' tk)) :
    ItemOn (model pw w) A E (.ref l) (.ref hh.objs.size) Q { up s hh tk with heap := hh.push { cls := .type "slice", data := .fields #[vl, vu, .none] } } := by
  refine ⟨"list", _, list_getitem_lookup, Heap.IsList.typeIs (s := { up s hh tk with heap := hh.push { cls := .type "slice", data := .fields #[vl, vu, .none] } }) (hl.push _), ?_⟩
  refine wpAny_getItem_list_slice (hl.push _) (Heap.IsSliceOf.new ..) pl pu .none (by simp) ?_ (by rw [sizeLine_eq]; omega)
  refine h _ _ (fun _ _ e => Heap.get?_push_of_some _ (Heap.get?_push_of_some _ e)) ⟨0, Heap.get?_push_size _ rfl⟩ ?_
  show @LE.le Nat _ _ _
  rw [Heap.size_push]; omega
theorem s_lupto {value hi : Expr} {p pos : Pos} {Q : Value → Shared → Prop} (ht : ∀ o r, letTemporaryGo value o r = pure ())
    (h : wpAny (model pw w) A (eval value env) (fun o s₁ => wpAny (model pw w) A (eval hi env) (fun vi s₂ => ∃ l items u h k, ∃ n : Nat, o = .ref l ∧ vi = .int (n : Int) u ∧ h.IsList l items ∧ n ≤ items.size ∧ items.size ≤ 2 ^ 20 ∧ s₂ = up s h k ∧
      ∀ h' D, Keeps h h' → Li h' D (items.toList.take n).toArray → h.objs.size ≤ D → Q (.ref D) (up s h' k)) E s₁) E (up s hh tk)) :
    wpAny (model pw w) A (eval (.Subscript value (.Slice none (some hi) none p) pos) env) Q E (up s hh tk) := by
  refine Subscript_Slice (wpAny_mono h (fun o s₁ h₁ => wpAny_Slice (evalPart_none_step (evalPart_some_step (wpAny_mono h₁ (fun vi s₂ h₂ => ?_) fun _ _ e => e)))) fun _ _ e => e) ht
  obtain ⟨l, items, u, hp, k, n, rfl, rfl, hl, hn, hs, rfl, hq⟩ := h₂
  refine evalPart_none_step ?_
  refine i_slice (s := s) (hh := hp) (tk := k) hl .none (.int _ _) hs fun h' D kp x lt => ?_
  rw [slicePick_upto items n hn] at x
  exact hq h' D kp x lt
theorem s_lfrom {value lo : Expr} {p pos : Pos} {Q : Value → Shared → Prop} (ht : ∀ o r, letTemporaryGo value o r = pure ())
    (h : wpAny (model pw w) A (eval value env) (fun o s₁ => wpAny (model pw w) A (eval lo env) (fun vi s₂ => ∃ l items u h k, ∃ n : Nat, o = .ref l ∧ vi = .int (n : Int) u ∧ h.IsList l items ∧ n ≤ items.size ∧ items.size ≤ 2 ^ 20 ∧ s₂ = up s h k ∧
      ∀ h' D, Keeps h h' → Li h' D (items.toList.drop n).toArray → h.objs.size ≤ D → Q (.ref D) (up s h' k)) E s₁) E (up s hh tk)) :
    wpAny (model pw w) A (eval (.Subscript value (.Slice (some lo) none none p) pos) env) Q E (up s hh tk) := by
  refine Subscript_Slice (wpAny_mono h (fun o s₁ h₁ => wpAny_Slice (evalPart_some_step (wpAny_mono h₁ (fun vi s₂ h₂ => evalPart_none_step ?_) fun _ _ e => e))) fun _ _ e => e) ht
  obtain ⟨l, items, u, hp, k, n, rfl, rfl, hl, hn, hs, rfl, hq⟩ := h₂
  refine evalPart_none_step ?_
  refine i_slice (s := s) (hh := hp) (tk := k) hl (.int _ _) .none hs fun h' D kp x lt => ?_
  rw [slicePick_from items n hn] at x
  exact hq h' D kp x lt
end
theorem sub_any {w : World} {A : Around} {E : Value → Shared → Prop} {s : Shared} {env : Env} {value slice : Expr} {pos : Pos} {Q : Value → Shared → Prop}
    (h : wpAny (model pw w) A (eval value env) (fun o s₁ => wpAny (model pw w) A (eval slice env) (fun i s₂ => ItemOn (model pw w) A E o i Q s₂) E s₁) E s)
    (hs : ∀ o i, subscripted slice false o i = operate [o, i] (getItem o i)) : wpAny (model pw w) A (eval (.Subscript value slice pos) env) Q E s := by
  rw [eval_Subscript]
  exact wpAny_bind (wpAny_mono h (fun o s₁ h₁ => wpAny_bind (wpAny_holding (wpAny_mono h₁ (fun i s₂ h₂ => wpAny_bind (wpAny_standAt (tail_on h₂ (hs o i)))) fun _ _ x => x))) fun _ _ x => x)
section
variable {A : Around} {E : Value → Shared → Prop} {s : Shared} {hh : Heap} {tk : Nat} {env : Env}
variable {w : World} {mg mb : Str → Option Value}
noncomputable def fm (x : Int) (k : Nat) : Nat := (x.fmod k).toNat
theorem fm_eq (x : Int) {k : Nat} (hk : k ≠ 0) : x.fmod k = ((fm x k : Nat) : Int) := by
  unfold fm
  rw [Int.toNat_of_nonneg]
  rw [Int.fmod_eq_emod_of_nonneg _ (by omega)]
  exact Int.emod_nonneg _ (by omega)
theorem fm_lt (x : Int) {k : Nat} (hk : k ≠ 0) : fm x k < k := by
  have h := fm_eq x hk
  rw [Int.fmod_eq_emod_of_nonneg _ (by omega)] at h
  have := Int.emod_lt_of_pos x (show (0 : Int) < (k : Int) by omega)
  omega
theorem i_mod {x : Int} (k : Nat) {t u : Tok} {Q : Value → Shared → Prop} (hk : k ≠ 0) (h : Q (.int ((fm x k : Nat) : Int) tk) (up s hh (tk + 1))) : wpAny (model pw w) A (binaryOp .Mod (.int x t) (.int (k : Nat) u)) Q E (up s hh tk) := by
  refine PyProof.Rows.mod_int (s := up s hh tk) (by omega) ?_
  rw [fm_eq x hk]; exact h
theorem i_fdiv {x : Int} (k : Nat) {t u : Tok} {Q : Value → Shared → Prop} (hk : k ≠ 0) (hk2 : k < 2 ^ 20) (h : Q (.int (x.fdiv k) tk) (up s hh (tk + 1))) : wpAny (model pw w) A (binaryOp .FloorDiv (.int x t) (.int (k : Nat) u)) Q E (up s hh tk) :=
  floordiv_int (s := up s hh tk) (by omega) h (.inl (PyProof.noPylong_small (by omega)))
theorem i_add (a b : Nat) {t u : Tok} {Q : Value → Shared → Prop} (h : Q (.int ((a + b : Nat) : Int) tk) (up s hh (tk + 1))) : wpAny (model pw w) A (binaryOp .Add (.int (a : Nat) t) (.int (b : Nat) u)) Q E (up s hh tk) := PyProof.Rows.add_int (s := up s hh tk) h
theorem i_sub1 (a : Nat) {t u : Tok} {Q : Value → Shared → Prop} (h : Q (.int ((a : Nat) : Int) tk) (up s hh (tk + 1))) : wpAny (model pw w) A (binaryOp .Sub (.int ((1 + a : Nat) : Int) t) (.int 1 u)) Q E (up s hh tk) :=
  PyProof.Rows.sub_int (s := up s hh tk) (by rw [show (((1 + a : Nat) : Int) - 1) = ((a : Nat) : Int) by omega]; exact h)
noncomputable def kN : Nat → Nat | 0 => 9 | 1 => 3 | _ => 1
theorem kN_pos (r : Nat) : kN r ≠ 0 := by unfold kN; split <;> decide
theorem kN_le (r : Nat) : kN r ≤ 9 := by unfold kN; split <;> decide
theorem pick3 {a b c : Tok} (r : Nat) (h : r < 3) : ∃ u, (#[Value.int 9 a, Value.int 3 b, Value.int 1 c] : Array Value)[r]? = some (.int ((kN r : Nat) : Int) u) := by
  match r, h with
  | 0, _ => exact ⟨a, rfl⟩
  | 1, _ => exact ⟨b, rfl⟩
  | 2, _ => exact ⟨c, rfl⟩
noncomputable def itemL : List T := [[97], [32], [38], [60], [62], [34], [13], [9], [10], []]
noncomputable def item (i : Nat) : T := itemL.getD i []
theorem item_at {its : Array Value} (h : Strs its itemL) (i : Nat) (hi : i < 10) : ∃ u, its[i]? = some (.str (S (item i)) u) := by
  refine h.at i (item i) ?_
  unfold item
  rw [List.getD_eq_getElem?_getD, List.getElem?_eq_getElem (show i < itemL.length from hi)]; rfl
theorem item_len (i : Nat) : (item i).length ≤ 1 := by
  unfold item itemL
  match i with
  | 0 | 1 | 2 | 3 | 4 | 5 | 6 | 7 | 8 | 9 => decide
  | n + 10 => simp
noncomputable def pc (x : Int) : T := item (fm x 10) ++ item (fm (x.fdiv 10) 10)
theorem pc_len (x : Int) : (pc x).length ≤ 2 := by
  unfold pc
  have h1 := item_len (fm x 10)
  have h2 := item_len (fm (x.fdiv 10) 10)
  rw [List.length_append]; omega
noncomputable def pc0 (x : Int) : T := if (subst1 97 [] (pc x)).isEmpty = true then 38 :: pc x else pc x
theorem r_sum {D : Addr} {vs : List Value} {ns : List Int} {Q : Value → Shared → Prop} (hA : A.handled = none) (hl : hh.IsList D vs.toArray) (hi : IntsAre vs ns) (h : ∀ h' k t', Keeps hh h' → Q (.int ns.sum t') (up s h' k)) :
    wpAny (model pw w) A (call (.builtin "sum") [.ref D]) Q E (up s hh tk) := by
  obtain ⟨xs, e⟩ := hi.allInts.items
  have e2 : ns = xs.toList.map (·.1) := by rw [← nums_intItems, ← e]; exact hi.numsOf.symm
  refine sum_intListG (s := up s hh tk) (xs := xs) hA (by rw [← e]; exact hl) fun h' k t' kp => ?_
  have := h h' k t' kp
  rw [preSum_eq, List.take_of_length_le (by simp), ← e2]; exact this
theorem len_l {D : Addr} {items : Array Value} {Q : Value → Shared → Prop} (x : hh.IsList D items) (hs : items.size < 2 ^ 62) (h : Q (.int ((items.size : Nat) : Int) (tk + 1)) (up s hh (tk + 2))) : wpAny (model pw w) A (call (.builtin "len") [.ref D]) Q E (up s hh tk) := Calls.call_len_list (s := up s hh tk) x (by omega) h
theorem f914 (P : Params) : (K P).lookup 914 = some ⟨.type "function", none, .func (fnOf "law" "law" (dA (st 54)) (dB (st 54)) (dS (st 54)) .none .none .none (.str "law_rt0109_01" 1427) none (.ref 913) .none), #[]⟩ := by kernel_rfl
theorem subst1_nil (c : Nat) (t : T) : (subst1 c [] t).length ≤ t.length := by
  unfold subst1
  induction t with
  | nil => simp
  | cons a t ih =>
    rw [List.flatMap_cons, List.length_append, List.length_cons]
    have : (if a = c then ([] : T) else [a]).length ≤ 1 := by split <;> simp
    first | omega | (simp only [] at *; split <;> simp_all <;> omega)
theorem pc0_len (x : Int) : (pc0 x).length ≤ 3 := by
  have := pc_len x
  unfold pc0
  split
  · rw [List.length_cons]; omega
  · omega
theorem item_un (i : Nat) : ∀ c ∈ item i, c = 97 ∨ unsafeC c = true := by
  unfold item itemL
  match i with
  | 0 | 1 | 2 | 3 | 4 | 5 | 6 | 7 | 8 | 9 => decide
  | n + 10 => simp
theorem item_no (i : Nat) : ∀ c ∈ item i, c ≠ 39 ∧ c ≠ 92 := by
  unfold item itemL
  match i with
  | 0 | 1 | 2 | 3 | 4 | 5 | 6 | 7 | 8 | 9 => decide
  | n + 10 => simp
theorem pc_un (x : Int) : ∀ c ∈ pc x, c = 97 ∨ unsafeC c = true := fun c h => (List.mem_append.mp h).elim (item_un _ c) (item_un _ c)
theorem pc_no (x : Int) : ∀ c ∈ pc x, c ≠ 39 ∧ c ≠ 92 := fun c h => (List.mem_append.mp h).elim (item_no _ c) (item_no _ c)
theorem pc0_no (x : Int) : ∀ c ∈ pc0 x, c ≠ 39 ∧ c ≠ 92 := by
  intro c h
  unfold pc0 at h
  split at h
  · rcases List.mem_cons.mp h with rfl | h
    · decide
    · exact pc_no x c h
  · exact pc_no x c h
theorem subst1_all {t : T} (h : ∀ c ∈ t, c = 97) : subst1 97 [] t = [] := by
  induction t with
  | nil => rfl
  | cons a t ih =>
    have e : a = 97 := h a (.head _)
    subst e
    have := ih fun c hc => h c (.tail _ hc)
    unfold subst1 at this ⊢
    rw [List.flatMap_cons, this]
    rfl
theorem pc0_un (x : Int) : ∃ c ∈ pc0 x, unsafeC c = true := by
  unfold pc0
  split
  · exact ⟨38, .head _, rfl⟩
  · rename_i h
    by_cases hu : ∃ c ∈ pc x, unsafeC c = true
    · exact hu
    · refine absurd ?_ h
      rw [subst1_all fun c hc => (pc_un x c hc).elim id fun q => absurd ⟨c, hc, q⟩ hu]
      rfl
theorem unsafe_sep {p : T} {P : List T} (h : ∃ c ∈ p, unsafeC c = true) : ∃ c ∈ sep (p :: P), unsafeC c = true := by
  obtain ⟨c, hc, hu⟩ := h
  refine ⟨c, ?_, hu⟩
  cases P with
  | nil => exact hc
  | cons a P => rw [sep_cons p (by simp)]; exact List.mem_append_left _ hc
theorem unsafe_rounds : ∀ (hs : List Nat) {t : T}, (∃ c ∈ t, unsafeC c = true) → ∃ c ∈ rounds hs t, unsafeC c = true
  | [], _, h => h
  | a :: hs, t, _ => unsafe_rounds hs ⟨39, by
      unfold quo
      rw [esc_cons, escC_39]
      exact .head _, rfl⟩
theorem rounds_len : ∀ (hs : List Nat) (t : T) (B : Nat), t.length ≤ B → (rounds hs t).length ≤ (Nat.repeat (fun x => 30 * x + 12) hs.length B)
  | [], _, _, h => h
  | a :: hs, t, B, h => by
    have h1 := rounds_len hs (esc a (quo t)) (30 * B + 12) (by have := esc_len a (quo t); have := quo_len t; omega)
    have e : ∀ n x, Nat.repeat (fun x => 30 * x + 12) n (30 * x + 12) = Nat.repeat (fun x => 30 * x + 12) (n + 1) x := by
      intro n; induction n with
      | zero => intro x; rfl
      | succ n ih => intro x; show 30 * Nat.repeat _ n _ + 12 = _; rw [ih]; rfl
    rw [e] at h1
    exact h1
theorem sep_len : ∀ (P : List T), (∀ x ∈ P, x.length ≤ 3) → (sep P).length ≤ 4 * P.length
  | [], _ => by simp [sep]
  | [s], h => by have := h s (.head _); simp only [sep, List.length_cons, List.length_nil]; omega
  | s :: b :: t, h => by
    have := sep_len (b :: t) fun x hx => h x (.tail _ hx)
    have h1 := h s (.head _)
    rw [sep_cons s (by simp), List.length_append, List.length_cons]
    simp only [List.length_cons] at this ⊢
    omega
theorem sep_eq : ∀ P : List T, ([39] : T).intercalate P = sep P
  | [] => rfl
  | [s] => by simp [sep, List.intercalate]
  | s :: b :: t => by
    rw [sep_cons s (by simp), ← sep_eq (b :: t)]
    simp [List.intercalate, List.intersperse]
theorem rounds_snoc : ∀ (hs : List Nat) (a : Nat) (t : T), rounds (hs ++ [a]) t = esc a (quo (rounds hs t))
  | [], _, _ => rfl
  | b :: hs, a, t => rounds_snoc hs a (esc b (quo t))
noncomputable def hands3 (x : Int) : List Nat := [fm (x.fdiv 3) 3, fm (x.fdiv 9) 3, fm (x.fdiv 27) 3]
theorem hands3_lt (x : Int) : ∀ a ∈ hands3 x, a < 3 := by
  intro a h
  simp only [hands3, List.mem_cons, List.not_mem_nil, or_false] at h
  rcases h with rfl | rfl | rfl <;> exact fm_lt _ (by decide)
theorem law_len (r0 : Nat) (hs : List Nat) (P : List T) (h3 : ∀ x ∈ P, x.length ≤ 3) (hr : r0 < 3) (hP : P.length ≤ kN r0) (hl : hs.length ≤ r0) : (rounds hs (sep P)).length ≤ 2 ^ 14 := by
  have h1 := rounds_len hs (sep P) (4 * kN r0) (by have := sep_len P h3; omega)
  refine Nat.le_trans h1 ?_
  have : ∀ r, r < 3 → ∀ n, n ≤ r → Nat.repeat (fun x => 30 * x + 12) n (4 * kN r) ≤ 2 ^ 14 := by decide
  exact this r0 hr _ hl
end
section
variable {A : Around} {E : Value → Shared → Prop} {s : Shared} {hh : Heap} {tk : Nat} {env : Env}
variable {w : World} {mg mb : Str → Option Value} {m : Str → Option Value} {h₀ : Heap} {L : Addr}
structure LF (m : Str → Option Value) (ns : List Int) (D I Wr Pd : Addr) : Prop where
  script : m "script" = some (.ref D)
  items : m "items" = some (.ref I)
  writers : m "writers" = some (.ref Wr)
  total : ∃ t, m "total" = some (.int ns.sum t)
  rounds : ∃ t, m "rounds" = some (.int ((1 + fm ns.sum 3 : Nat) : Int) t)
  count : ∃ t, m "count" = some (.int ((1 + ns.length % kN (fm ns.sum 3) : Nat) : Int) t)
  pieces : m "pieces" = some (.ref Pd)
noncomputable def lE (L : Addr) : Env := envOf (Str.ofString "law") (dS (st 54)) L 914 (Value.ref 913)
theorem int_at {vs : List Value} {ns : List Int} (h : IntsAre vs ns) : ∀ (i : Nat) (v : Value), vs.toArray[i]? = some v → ∃ x t, ns[i]? = some x ∧ v = .int x t := by
  induction h with
  | nil => intro i v e; simp at e
  | cons n t _ ih =>
    intro i v e
    cases i with
    | zero => simp at e; exact ⟨n, t, rfl, e.symm⟩
    | succ i => simp at e ih ⊢; exact ih i v e
theorem lawB1 {ns : List Int} {vs : List Value} {D I Wr Pd : Addr} {its ps : Array Value} {R : Result → Shared → Prop} (hA : A.handled = none) (Φ : Fm w mg mb h₀ L m hh) (lf : LF m ns D I Wr Pd)
    (hD : hh.IsList D vs.toArray) (hi : IntsAre vs ns) (hn : ns.length ≤ 63) (hI : Li hh I its) (sI : Strs its itemL) (hP : Li hh Pd ps) (sP : Strs ps [pc0 ns.sum])
    (o1 : @LT.lt Nat _ D L) (o2 : @LT.lt Nat _ L I) (o3 : @LT.lt Nat _ I Pd) (oL : @LE.le Nat _ h₀.objs.size L)
    (h : ∀ h' m' k ps', KB [L, Pd] hh h' → Fm w mg mb h₀ L m' h' → LF m' ns D I Wr Pd → Li h' Pd ps' → Strs ps' (pc0 ns.sum :: (ns.take (ns.length % kN (fm ns.sum 3))).map pc) → wpAny (model pw w) A (execs ((dB (st 54)).drop 8) (lE L)) (fun r s' => R (.ok r) s') (fun e s' => R (.error e) s') (up s h' k)) :
    wpAny (model pw w) A (execs ((dB (st 54)).drop 7) (lE L)) (fun r s' => R (.ok r) s') (fun e s' => R (.error e) s') (up s hh tk) := by
  obtain ⟨l1, l2, l3, ⟨t4, l4⟩, ⟨t5, l5⟩, ⟨t6, l6⟩, l7⟩ := lf
  refine q_cons ?_
  refine q_for ?_
  (with_reducible refine s_lupto ?ht ?_); (case ht => intro _ _; rfl)
  walk_at "l n_loc;r q_bin;l n_loc;r k_int"
  refine i_sub1 (ns.length % kN (fm ns.sum 3)) ?_
  have hkn := Nat.mod_le ns.length (kN (fm ns.sum 3))
  generalize hC : ns.length % kN (fm ns.sum 3) = C at *
  refine ⟨D, vs.toArray, _, hh, _, C, rfl, rfl, hD, by rw [List.size_toArray, hi.length]; omega, by rw [List.size_toArray, hi.length]; omega, rfl, fun h2 N2 kp2 hN2 oN => ?_⟩
  have hiC : IntsAre (vs.take C) (ns.take C) := hi.take C
  have hN : Li h2 N2 (vs.take C).toArray := hN2
  have Φ2 := Φ.keeps kp2
  have o6 : @LE.le Nat _ h₀.objs.size h2.objs.size := Φ2.le
  have hsz : (vs.take C).toArray.size = C := by rw [List.size_toArray, List.length_take, hi.length]; omega
  have o4 : @LT.lt Nat _ Pd hh.objs.size := hP.lt
  have o5 : @LT.lt Nat _ N2 h2.objs.size := hN.lt
  have oN : @LE.le Nat _ hh.objs.size N2 := oN
  refine p_list Φ2 hN.is fun h3 kp3 Φ3 it3 hN3 => ?_
  refine loop_W (Walks.list hA h2.objs.size N2 (by show @Ne Nat _ _; omega) (vs.take C).toArray) [Pd] ?_ ?_
    (fun i m' h' => LF m' ns D I Wr Pd ∧ ∃ q, Li h' Pd q ∧ Strs q (pc0 ns.sum :: (ns.take i).map pc)) ?_ Φ3 ⟨it3, hN3⟩ ⟨⟨l1, l2, l3, ⟨t4, l4⟩, ⟨t5, l5⟩, ⟨t6, by rw [hC]; exact l6⟩, l7⟩, ps, (hP.keeps kp2).keeps kp3, sP⟩ (by kernel_rfl) (by kernel_rfl) ?_ ?_
  · intro b hb
    simp only [List.mem_cons, List.not_mem_nil, or_false] at hb
    rcases hb with rfl | rfl
    · exact ⟨ni1 (by omega), show @Ne Nat _ _ by omega⟩
    · exact ⟨ni1 (by omega), show @Ne Nat _ _ by omega⟩
  · intro b hb
    obtain rfl := List.mem_singleton.mp hb
    show @LE.le Nat _ _ _
    omega
  · rintro i m' h' h'' ⟨a, q, b, c⟩ kb
    exact ⟨a, q, b.kb kb (by first | exact ni1 (by omega) | exact ni2 (by omega) (by omega) | exact ni3 (by omega) (by omega) (by omega)), c⟩
  · rintro i v m' h4 k4 hi2 hv kb4 ⟨lf, q, hq, sq⟩ Φ4 hk4
    obtain ⟨x, u, hx, rfl⟩ := int_at hiC i v hv
    rw [hsz] at hi2
    have hx2 : ns[i]? = some x := by rw [List.getElem?_take] at hx; split at hx <;> simp_all
    obtain ⟨l1, l2, l3, ⟨t4, l4⟩, ⟨t5, l5⟩, ⟨t6, l6⟩, l7⟩ := lf
    have I4 : Li h4 I its := ((hI.keeps kp2).keeps kp3).kb kb4 (by first | exact ni1 (by omega) | exact ni2 (by omega) (by omega) | exact ni3 (by omega) (by omega) (by omega))
    refine nameQ fun Qn1 hQ1 => ?_
    refine q_cons ?_
    walk_at "X;M;l n_loc"
    refine m_append hq ?_
    walk_at "hp q_cm;he q_acons;r q_bin"; (with_reducible refine sub_any ?sh34 ?ss34); (case ss34 => intro _ _; rfl); walk_at "l n_loc;r q_bin;l n_loc;r k_int"
    refine i_mod 10 (by decide) ?_
    obtain ⟨u1, hu1⟩ := item_at sI (fm x 10) (fm_lt _ (by decide))
    refine i_list I4 hu1 (Nat.lt_trans (fm_lt _ (by decide)) (by decide)) ?_
    (with_reducible refine sub_any ?sh35 ?ss35); (case ss35 => intro _ _; rfl); walk_at "l n_loc;r q_bin;r q_bin;l n_loc;r k_int"
    refine i_fdiv 10 (by decide) (by decide) ?_
    walk_at "r k_int"
    refine i_mod 10 (by decide) ?_
    obtain ⟨u2, hu2⟩ := item_at sI (fm (x.fdiv 10) 10) (fm_lt _ (by decide))
    refine i_list I4 hu2 (Nat.lt_trans (fm_lt _ (by decide)) (by decide)) ?_
    refine r_add (by have := pc_len x; unfold pc at this; rw [List.length_append] at this; omega) fun t10 k10 hk10 => ?_
    walk_at "r args_nil"
    refine r_append hq (by rw [sq.size, List.length_cons, List.length_map, List.length_take]; omega) fun h5 q5 kb5 => ?_
    have Φ5 := Φ4.kb kb5 (by first | exact ni1 (by omega) | exact ni2 (by omega) (by omega) | exact ni3 (by omega) (by omega) (by omega)) (by intro b hb; obtain rfl := List.mem_singleton.mp hb; show @LE.le Nat _ _ _; omega)
    walk_at "r q_nil"
    try subst hQ1
    refine ⟨_, h5, _, rfl, Φ5, ⟨⟨l1, l2, l3, ⟨t4, l4⟩, ⟨t5, l5⟩, ⟨t6, l6⟩, l7⟩, _, q5, ?_⟩, ?_⟩
    · have e := sq.push (pc x) t10
      rw [List.take_succ, hx2, List.map_append]; exact e
    · walk_at "kb"
  · intro m' h' k' kb ⟨lf, q, hq, sq⟩ Φ'
    rw [hsz] at sq
    refine h h' m' k' q ?_ Φ' (lf) hq sq
    refine ((KB.of kp2).trans ((KB.of kp3).trans kb)).drop fun b hb => ?_
    simp only [List.mem_cons, List.not_mem_nil, or_false, List.mem_append, List.cons_append, List.nil_append] at hb
    rcases hb with rfl | rfl | rfl
    · exact .inl (.head _)
    · exact .inr (by show @LE.le Nat _ _ _; omega)
    · exact .inl (.tail _ (.head _))
end
section
variable {A : Around} {E : Value → Shared → Prop} {s : Shared} {hh : Heap} {tk : Nat} {env : Env}
variable {w : World} {mg mb : Str → Option Value} {m : Str → Option Value} {h₀ : Heap} {L : Addr}
theorem Subscript_Slice2 {value : Expr} {lower upper : Option Expr} {p pos : Pos} {Q : Value → Shared → Prop}
    (h : wpAny (model pw w) A (eval value env) (fun o s₁ => wpAny (model pw w) A (eval (.Slice lower upper none p) env) (fun i s₂ => ItemOn (model pw w) A E o i Q s₂) E s₁) E s) :
    wpAny (model pw w) A (eval (.Subscript value (.Slice lower upper none p) pos) env) Q E s := by
  rw [eval_Subscript]
  exact wpAny_bind (wpAny_mono h (fun o s₁ h₁ => wpAny_bind (wpAny_holding (wpAny_mono h₁ (fun i s₂ h₂ => wpAny_bind (wpAny_standAt (tail_on2 [i, o] h₂ rfl))) fun _ _ x => x))) fun _ _ x => x)
theorem s_lupto2 {value hi : Expr} {p pos : Pos} {Q : Value → Shared → Prop}
    (h : wpAny (model pw w) A (eval value env) (fun o s₁ => wpAny (model pw w) A (eval hi env) (fun vi s₂ => ∃ l items u h k, ∃ n : Nat, o = .ref l ∧ vi = .int (n : Int) u ∧ h.IsList l items ∧ n ≤ items.size ∧ items.size ≤ 2 ^ 20 ∧ s₂ = up s h k ∧
      ∀ h' D, Keeps h h' → Li h' D (items.toList.take n).toArray → h.objs.size ≤ D → Q (.ref D) (up s h' k)) E s₁) E (up s hh tk)) :
    wpAny (model pw w) A (eval (.Subscript value (.Slice none (some hi) none p) pos) env) Q E (up s hh tk) := by
  refine Subscript_Slice2 (wpAny_mono h (fun o s₁ h₁ => wpAny_Slice (evalPart_none_step (evalPart_some_step (wpAny_mono h₁ (fun vi s₂ h₂ => ?_) fun _ _ e => e)))) fun _ _ e => e)
  obtain ⟨l, items, u, hp, k, n, rfl, rfl, hl, hn, hs, rfl, hq⟩ := h₂
  refine evalPart_none_step ?_
  refine i_slice (s := s) (hh := hp) (tk := k) hl .none (.int _ _) hs fun h' D kp x lt => ?_
  rw [slicePick_upto items n hn] at x
  exact hq h' D kp x lt
theorem Ints.three {a b c : Nat} {t u v : Tok} : Ints #[.int (a : Nat) t, .int (b : Nat) u, .int (c : Nat) v] [a, b, c] := by
  refine ⟨rfl, ?_⟩
  intro i x h
  match i with
  | 0 => obtain rfl := Option.some.inj h; exact ⟨t, rfl⟩
  | 1 => obtain rfl := Option.some.inj h; exact ⟨u, rfl⟩
  | 2 => obtain rfl := Option.some.inj h; exact ⟨v, rfl⟩
  | n + 3 => simp at h
theorem Ints.take {items : Array Value} {hs : List Nat} (h : Ints items hs) (n : Nat) : Ints (items.toList.take n).toArray (hs.take n) := by
  refine ⟨by rw [List.size_toArray, List.length_take, List.length_take, ← h.1, Array.length_toList], fun i x e => ?_⟩
  rw [List.getElem?_take] at e
  split at e
  · obtain ⟨t, ht⟩ := h.2 i x e
    refine ⟨t, ?_⟩
    rw [List.getElem?_toArray, List.getElem?_take, if_pos (by assumption), ← ht, Array.getElem?_toList]
  · cases e
theorem Ints.drop {items : Array Value} {hs : List Nat} (h : Ints items hs) (n : Nat) : Ints (items.toList.drop n).toArray (hs.drop n) := by
  refine ⟨by rw [List.size_toArray, List.length_drop, List.length_drop, ← h.1, Array.length_toList], fun i x e => ?_⟩
  rw [List.getElem?_drop] at e
  obtain ⟨t, ht⟩ := h.2 _ x e
  exact ⟨t, by rw [List.getElem?_toArray, List.getElem?_drop, ← ht, Array.getElem?_toList]⟩
noncomputable def PP (ns : List Int) : List T := pc0 ns.sum :: (ns.take (ns.length % kN (fm ns.sum 3))).map pc
noncomputable def HN (ns : List Int) : List Nat := (hands3 ns.sum).take (1 + fm ns.sum 3)
theorem PP_3 (ns : List Int) : ∀ x ∈ PP ns, x.length ≤ 3 := by
  intro x h
  rcases List.mem_cons.mp h with rfl | h
  · exact pc0_len _
  · obtain ⟨y, _, rfl⟩ := List.mem_map.mp h
    have := pc_len y; omega
theorem PP_no (ns : List Int) : ∀ x ∈ PP ns, ∀ c ∈ x, c ≠ 39 ∧ c ≠ 92 := by
  intro x h
  rcases List.mem_cons.mp h with rfl | h
  · exact pc0_no _
  · obtain ⟨y, _, rfl⟩ := List.mem_map.mp h
    exact pc_no y
theorem PP_len (ns : List Int) : (PP ns).length = 1 + ns.length % kN (fm ns.sum 3) := by
  have := Nat.mod_le ns.length (kN (fm ns.sum 3))
  unfold PP
  rw [List.length_cons, List.length_map, List.length_take]; omega
theorem PP_le (ns : List Int) : (PP ns).length ≤ kN (fm ns.sum 3) := by
  have := Nat.mod_lt ns.length (Nat.pos_of_ne_zero (kN_pos (fm ns.sum 3)))
  rw [PP_len]; omega
theorem HN_len (ns : List Int) : (HN ns).length = 1 + fm ns.sum 3 := by
  have : fm ns.sum 3 < 3 := fm_lt _ (by decide)
  unfold HN
  rw [List.length_take]; show min _ 3 = _; omega
theorem HN_lt (ns : List Int) : ∀ a ∈ HN ns, a < 3 := fun a h => hands3_lt _ a (List.mem_of_mem_take h)
structure LG (m : Str → Option Value) (ns : List Int) (Pd Hd : Addr) : Prop where
  rounds : ∃ t, m "rounds" = some (.int ((HN ns).length : Nat) t)
  count : ∃ t, m "count" = some (.int ((PP ns).length : Nat) t)
  pieces : m "pieces" = some (.ref Pd)
  hands : m "hands" = some (.ref Hd)
theorem pickW (x : Nat) (h : x < 3) : ∃ f : Addr, (#[Value.ref 872, Value.ref 879, Value.ref 886] : Array Value)[x]? = some (.ref f) ∧ ((x = 0 ∧ f = 872) ∨ (x = 1 ∧ f = 879) ∨ (x = 2 ∧ f = 886)) := by
  match x, h with
  | 0, _ => exact ⟨872, rfl, .inl ⟨rfl, rfl⟩⟩
  | 1, _ => exact ⟨879, rfl, .inr (.inl ⟨rfl, rfl⟩)⟩
  | 2, _ => exact ⟨886, rfl, .inr (.inr ⟨rfl, rfl⟩)⟩
theorem turn_facts (ns : List Int) (i x : Nat) (hx : (HN ns)[i]? = some x) : ∃ T : T, rounds ((HN ns).take i) (sep (PP ns)) = T ∧ T.length ≤ 2 ^ 14 ∧ (∃ c ∈ T, unsafeC c = true) ∧ rounds ((HN ns).take (i + 1)) (sep (PP ns)) = esc x (quo T) ∧ (quo T).length ≤ 2 ^ 17 := by
  have hi2 : i < (HN ns).length := (List.getElem?_eq_some_iff.mp hx).1
  have r3 : fm ns.sum 3 < 3 := fm_lt _ (by decide)
  have hlen : (rounds ((HN ns).take i) (sep (PP ns))).length ≤ 2 ^ 14 := by
    have := HN_len ns
    exact law_len (fm ns.sum 3) _ _ (PP_3 ns) r3 (PP_le ns) (by rw [List.length_take]; omega)
  have hsn := rounds_snoc ((HN ns).take i) x (sep (PP ns))
  rw [show (HN ns).take i ++ [x] = (HN ns).take (i + 1) by rw [List.take_succ, hx]; rfl] at hsn
  have hq := quo_len (rounds ((HN ns).take i) (sep (PP ns)))
  exact ⟨_, rfl, hlen, unsafe_rounds _ (unsafe_sep (pc0_un _)), hsn, by omega⟩
theorem lawB2 {ns : List Int} {D I Wr Pd : Addr} {ps : Array Value} {R : Result → Shared → Prop} (hA : A.handled = none) (hroom : A.depth + 1 < recursionLimit) (Φ : Fm w mg mb h₀ L m hh) (lf : LF m ns D I Wr Pd)
    (hW : Li hh Wr #[Value.ref 872, Value.ref 879, Value.ref 886]) (hP : Li hh Pd ps) (sP : Strs ps (PP ns))
    (o2 : @LT.lt Nat _ L Wr) (o3 : @LT.lt Nat _ Wr Pd) (oL : @LE.le Nat _ h₀.objs.size L)
    (h : ∀ h' m' k Hd hs, KB [L] hh h' → Fm w mg mb h₀ L m' h' → LG m' ns Pd Hd → Li h' Hd hs → Ints hs (HN ns) → hh.objs.size ≤ Hd → (∃ t, m' "text" = some (.str (S (rounds (HN ns) (sep (PP ns)))) t)) →
      wpAny (model pw w) A (execs ((dB (st 54)).drop 11) (lE L)) (fun r s' => R (.ok r) s') (fun e s' => R (.error e) s') (up s h' k)) :
    wpAny (model pw w) A (execs ((dB (st 54)).drop 8) (lE L)) (fun r s' => R (.ok r) s') (fun e s' => R (.error e) s') (up s hh tk) := by
  obtain ⟨l1, l2, l3, ⟨t4, l4⟩, ⟨t5, l5⟩, ⟨t6, l6⟩, l7⟩ := lf
  refine q_cons ?_
  walk_at "hs q_asn"
  with_reducible refine s_lupto2 ?_
  walk_at "r q_list;he q_acons;r q_bin;r q_bin;l n_loc;r k_int"
  refine i_fdiv 3 (by decide) (by decide) ?_
  walk_at "r k_int"
  refine i_mod 3 (by decide) ?_
  walk_at "he q_acons;r q_bin;r q_bin;l n_loc;r k_int"
  refine i_fdiv 9 (by decide) (by decide) ?_
  walk_at "r k_int"
  refine i_mod 3 (by decide) ?_
  walk_at "he q_acons;r q_bin;r q_bin;l n_loc;r k_int"
  refine i_fdiv 27 (by decide) (by decide) ?_
  walk_at "r k_int"
  refine i_mod 3 (by decide) ?_
  walk_at "r args_nil"
  refine k_newList Φ (by simp) fun h2 kp2 Φ2 hT => ?_
  obtain ⟨T0, hT0, iT⟩ : ∃ T0, Li h2 hh.objs.size T0 ∧ Ints T0 (hands3 ns.sum) := ⟨_, hT, Ints.three⟩
  have s3 : T0.size = 3 := iT.1
  have oh : @LT.lt Nat _ hh.objs.size h2.objs.size := hT0.lt
  walk_at "l n_loc"
  have r3 : fm ns.sum 3 < 3 := fm_lt _ (by decide)
  refine ⟨hh.objs.size, _, _, h2, _, 1 + fm ns.sum 3, rfl, rfl, hT0.is, by omega, by omega, rfl, fun h3 Hd kp3 hH oH => ?_⟩
  obtain ⟨IH, hH, iH⟩ : ∃ IH, Li h3 Hd IH ∧ Ints IH (HN ns) := ⟨_, hH, iT.take (1 + fm ns.sum 3)⟩
  have oH : @LE.le Nat _ h2.objs.size Hd := oH
  have o8 : @LT.lt Nat _ L h2.objs.size := Φ2.lt
  have Φ3 := Φ2.keeps kp3
  have hP3 := (hP.keeps kp2).keeps kp3
  have hW3 := (hW.keeps kp2).keeps kp3
  walk_at "sB;r q_cons;hs q_asn;M"; (with_reducible refine k_str [39] (by decide +kernel) ?_); walk_at "r GM.join;hp q_cm;he q_acons;l n_loc;r args_nil"
  rename_i h4 Φ4 kb4
  obtain ⟨pl, rfl, epl⟩ := sP
  have P4 := hP3.kb kb4 (ni1 (by walk_at "x2"))
  refine r_join P4.is epl 3 (PP_3 ns) (by have := PP_le ns; have := kN_le (fm ns.sum 3); simp only [List.length_cons, List.length_nil]; omega) fun t5' k5 => ?_
  rw [sep_eq]
  walk_at "sB;r q_cons"
  rename_i h5 Φ5 kb5
  refine q_for ?_
  walk_at "l n_loc"
  have H5 : Li h5 Hd _ := (hH.kb kb4 (ni1 (by walk_at "x2"))).kb kb5 (ni1 (by walk_at "x2"))
  refine p_list Φ5 H5.is fun h6 kp6 Φ6 it6 hN6 => ?_
  have o5 : @LT.lt Nat _ Hd h5.objs.size := H5.lt
  have o6 : @LE.le Nat _ h₀.objs.size h5.objs.size := Φ5.le
  have o7 : @LT.lt Nat _ L h5.objs.size := Φ5.lt
  have W5 : Li h5 Wr _ := (hW3.kb kb4 (ni1 (by walk_at "x2"))).kb kb5 (ni1 (by walk_at "x2"))
  have W6 := W5.keeps kp6
  have o9 : @LT.lt Nat _ Wr h5.objs.size := W5.lt
  refine loop_W (Walks.list hA h5.objs.size Hd (by show @Ne Nat _ _; omega) IH) [] ?_ ?_
    (fun i m' h' => LG m' ns Pd Hd ∧ m' "writers" = some (.ref Wr) ∧ ∃ t, m' "text" = some (.str (S (rounds ((HN ns).take i) (sep (PP ns)))) t)) ?_ Φ6 ⟨it6, hN6⟩ ⟨⟨⟨t5, by rw [HN_len]; exact l5⟩, ⟨t6, by rw [PP_len]; exact l6⟩, l7, rfl⟩, l3, t5', rfl⟩ (by kernel_rfl) (by kernel_rfl) ?_ ?_
  · intro b hb
    simp only [List.mem_cons, List.not_mem_nil, or_false] at hb
    rcases hb with rfl | rfl
    · exact ⟨by simp, show @Ne Nat _ _ by walk_at "x2"⟩
    · exact ⟨by simp, show @Ne Nat _ _ by walk_at "x2"⟩
  · intro b hb
    obtain rfl := List.mem_singleton.mp hb
    show @LE.le Nat _ _ _
    omega
  · rintro i m' h' h'' a kb
    exact a
  · rintro i v m' h7 k7 hi2 hv kb7 ⟨⟨⟨a1, a2⟩, ⟨a3, a4⟩, a5, a6⟩, a7, ⟨a8, a9⟩⟩ Φ7 hk7
    rw [iH.1] at hi2
    obtain ⟨x, hx⟩ : ∃ x, (HN ns)[i]? = some x := ⟨_, List.getElem?_eq_getElem hi2⟩
    obtain ⟨ux, hux⟩ := iH.2 i x hx
    obtain rfl : v = .int (x : Nat) ux := Option.some.inj (hv.symm.trans hux)
    have hx3 : x < 3 := HN_lt ns x (List.mem_of_getElem? hx)
    have W7 : Li h7 Wr _ := W6.kb kb7 (by walk_at "x3")
    obtain ⟨T, eT, hlen, hun, hsn, hq⟩ := turn_facts ns i x hx
    rw [eT] at a9
    refine nameQ fun Qn1 hQ1 => ?_
    refine q_cons ?_
    walk_at "hs q_asn;he q_call;ht q_sname;l n_loc;l n_loc"
    obtain ⟨f, hf, hw⟩ := pickW x hx3
    refine i_list W7 hf (by walk_at "x2") ?_
    rcases hw with ⟨rfl, rfl⟩ | ⟨rfl, rfl⟩ | ⟨rfl, rfl⟩
    · (walk_at "K;he q_acons;he q_call;g n_glob g752;K;he q_acons;l n_loc;r args_nil;A")
      refine c_quote (Fm.gg (by assumption)) (by walk_at "x2") (by walk_at "x2") hun fun h8 k8 u8 kp8 => ?_
      have Φ8 := Φ7.keeps kp8
      walk_at "r args_nil;A"
      refine c_esc0 (Fm.gg (by assumption)) (by walk_at "x2") hq fun h9 k9 u9 kp9 => ?_
      have Φ9 := Φ8.keeps kp9
      walk_at "sB;r q_nil"
      rename_i h10 Φ10 kb10
      try subst hQ1
      refine ⟨_, h10, _, rfl, Φ10, ⟨⟨⟨a1, a2⟩, ⟨a3, a4⟩, a5, a6⟩, a7, _, by rw [hsn]; rfl⟩, ?_⟩
      walk_at "kb"
    · (walk_at "K;he q_acons;he q_call;g n_glob g752;K;he q_acons;l n_loc;r args_nil;A")
      refine c_quote (Fm.gg (by assumption)) (by walk_at "x2") (by walk_at "x2") hun fun h8 k8 u8 kp8 => ?_
      have Φ8 := Φ7.keeps kp8
      walk_at "r args_nil;A"
      refine c_esc1 (Fm.gg (by assumption)) (by walk_at "x2") hq fun h9 k9 u9 kp9 => ?_
      have Φ9 := Φ8.keeps kp9
      walk_at "sB;r q_nil"
      rename_i h10 Φ10 kb10
      try subst hQ1
      refine ⟨_, h10, _, rfl, Φ10, ⟨⟨⟨a1, a2⟩, ⟨a3, a4⟩, a5, a6⟩, a7, _, by rw [hsn]; rfl⟩, ?_⟩
      walk_at "kb"
    · (walk_at "K;he q_acons;he q_call;g n_glob g752;K;he q_acons;l n_loc;r args_nil;A")
      refine c_quote (Fm.gg (by assumption)) (by walk_at "x2") (by walk_at "x2") hun fun h8 k8 u8 kp8 => ?_
      have Φ8 := Φ7.keeps kp8
      walk_at "r args_nil;A"
      refine c_esc2 (Fm.gg (by assumption)) (by walk_at "x2") hq fun h9 k9 u9 kp9 => ?_
      have Φ9 := Φ8.keeps kp9
      walk_at "sB;r q_nil"
      rename_i h10 Φ10 kb10
      try subst hQ1
      refine ⟨_, h10, _, rfl, Φ10, ⟨⟨⟨a1, a2⟩, ⟨a3, a4⟩, a5, a6⟩, a7, _, by rw [hsn]; rfl⟩, ?_⟩
      walk_at "kb"
  · intro m' h' k' kb ⟨lf, _, q⟩ Φ'
    rw [iH.1, List.take_length] at q
    refine h h' m' k' Hd IH ?_ Φ' lf ?_ iH ?_ q
    · have kbA : KB (L :: ([h5.objs.size] ++ [])) hh h' := by walk_at "kb"
      refine kbA.drop fun b hb => ?_
      simp only [List.mem_cons, List.not_mem_nil, or_false, List.mem_append, List.cons_append, List.nil_append] at hb
      rcases hb with rfl | rfl
      · exact .inl (.head _)
      · exact .inr (by show @LE.le Nat _ _ _; walk_at "x2")
    · exact (H5.keeps kp6).kb kb (by walk_at "x3")
    · show @LE.le Nat _ _ _
      omega
end
section
variable {A : Around} {s : Shared} {hh : Heap} {tk : Nat} {env : Env}
variable {w : World} {mg mb : Str → Option Value} {m : Str → Option Value} {h₀ : Heap} {L : Addr}
theorem law_try {t : T} {u : Tok} {Gd : Addr} {items : Array Value} {Q : Flow → Shared → Prop} (Φ : Fm w mg mb h₀ L m hh) (ht : m "text" = some (.str (S t) u)) (hl : t.length ≤ 2 ^ 20) (hc : ∀ c ∈ t, c ≠ 34 ∧ c ≠ 92)
    (hG : Li hh Gd items) (oG : @LE.le Nat _ h₀.objs.size Gd) (oL : @Ne Nat Gd L)
    (h : ∀ h' k v, Fm w mg mb h₀ L (upd m "words" v) h' → Li h' Gd items → ((∃ ws D its, shl .sp [] t = some ws ∧ v = .ref D ∧ Li h' D its ∧ Strs its ws) ∨ (shl .sp [] t = none ∧ v = .none)) →
      wpAny (model pw w) (callerA.deeper (lE L)) (execs ((dB (st 54)).drop 15) (lE L)) Q (fun _ _ => False) (up s h' k)) :
    wpAny (model pw w) (callerA.deeper (lE L)) (execs ((dB (st 54)).drop 14) (lE L)) Q (fun _ _ => False) (up s hh tk) := by
  have gL : h₀.get? L = none := by
    cases q : h₀.get? L with
    | none => rfl
    | some o => exact absurd (Heap.lt_size q) (Nat.not_lt.mpr Φ.F.above)
  have nL : ∀ b o, h₀.get? b = some o → ∀ env ∈ [lE L], env.frame ≠ some b := by
    intro b o e env he q
    obtain rfl := List.mem_singleton.mp he
    obtain rfl : L = b := Option.some.inj q
    rw [gL] at e; cases e
  have nG : ∀ env ∈ [lE L], env.frame ≠ some Gd := by
    intro env he q
    obtain rfl := List.mem_singleton.mp he
    exact oL (Option.some.inj q).symm
  obtain ⟨nG1, eG⟩ := id hG
  have hGn : h₀.get? Gd = none := by
    cases q : h₀.get? Gd with
    | none => rfl
    | some o => exact absurd (Heap.lt_size q) (Nat.not_lt.mpr oG)
  refine q_cons ?_
  refine wpAny_mono (?_ : wpAny _ _ _ (fun f s' => f = .next ∧ ∃ h' k v, s' = up s h' k ∧ Fm w mg mb h₀ L (upd m "words" v) h' ∧ Li h' Gd items ∧ ((∃ ws D its, shl .sp [] t = some ws ∧ v = .ref D ∧ Li h' D its ∧ Strs its ws) ∨ (shl .sp [] t = none ∧ v = .none))) (fun _ _ => False) _) ?_ (fun _ _ x => x)
  rotate_left
  · rintro _ _ ⟨rfl, h', k, v, rfl, a, b, c⟩
    exact h h' k v a b c
  clear h
  refine wpAny_Try_except ?_
  walk_at "r q_cons;hs q_asn;he q_call;g n_glob g744;K;he q_acons;l n_loc;r args_nil;A"
  refine c_split (outer := [lE L]) Φ.on (by rw [depth_deeper, depth_caller]; decide) rfl rfl (Frs.cons (fun _ he => nomatch he) Φ rfl rfl) hl hc (fun h2 k2 D acc c ws hs sl hD hacc oD => ?_) (fun hs e h2 k2 fl => ?_)
  · have F2 : Fr h₀ L h2 m := Φ.F.of_stays (fun b o e => sl.1 b o (by simp) (Φ.F.keep b o e) (nL b o e)) (fun b o e nf => sl.2 b o (by simp) e nf)
    have Φ2 : Fm w mg mb h₀ L m h2 := ⟨F2, Φ.G⟩
    have G2 : Li h2 Gd items := ⟨nG1, sl.1 Gd _ (by simp) eG nG⟩
    have o2 : @Ne Nat D L := fun q => by
      have a : @LT.lt Nat _ L hh.objs.size := Φ.lt
      have b : @LE.le Nat _ hh.objs.size D := oD
      omega
    have D2 : Li h2 D acc := ⟨c, hD⟩
    walk_at "sB;r q_nil;r q_nil"
    rename_i h3 Φ3 kb3
    exact ⟨rfl, h3, _, _, rfl, Φ3, G2.kb kb3 (ni1 oL), .inl ⟨ws, D, acc, hs, rfl, D2.kb kb3 (ni1 o2), hacc⟩⟩
  · obtain ⟨B, tt, xs, f1, f2, f3, f4, f5⟩ := fl
    refine caught_K0 (T' := "ValueError") (below_caller h₀) Φ.F (fun b o e nf => f2 b o (by simp) e nf) (news := [(Gd, ⟨.type "list", none, .seq items nG1, #[]⟩)])
      ⟨⟨B, fun b o e => f1 b o (by simp) (Φ.F.keep b o e) (nL b o e), fun q hq => ?_, f3, f4⟩, f5⟩ Φ.G.T PyProof.Rows.Boot.«ValueError» PySem.F.isExc_ValueError PySem.F.notTuple_ValueError (by rw [isSubtype_type]; kernel_rfl) ?_
    · obtain rfl := List.mem_singleton.mp hq
      exact ⟨f1 Gd _ (by simp) eG nG, hGn⟩
    · intro h3 n3 F3 N3 G3 N4
      have Φ3 : Fm w mg mb h₀ L m h3 := ⟨F3, Φ.G⟩
      have G3 : Li h3 Gd items := ⟨nG1, N4.get (.head _)⟩
      walk_at "r q_cons;hs q_asn;r wpAny_Constant_none;sB;r q_nil"
      rename_i h4 Φ4 kb4
      exact ⟨rfl, h4, _, _, rfl, Φ4, G3.kb kb4 (ni1 oL), .inr ⟨hs, rfl⟩⟩
end
section
open PySem.SeqAt
section
variable {A : Around} {E : Value → Shared → Prop} {s : Shared} {hh : Heap} {tk : Nat} {env : Env}
variable {w : World} {mg mb : Str → Option Value} {m : Str → Option Value} {h₀ : Heap} {L : Addr}
theorem Li.neL {D : Addr} {items : Array Value} (x : Li hh D items) (Φ : Fm w mg mb h₀ L m hh) : @Ne Nat D L := by
  rintro rfl
  obtain ⟨n, e⟩ := x
  obtain ⟨o, es, ep, ho, hd, _⟩ := Φ.F.ns
  rw [e] at ho
  obtain rfl := Option.some.inj ho
  cases hd
theorem r_eqL {a b : Addr} {xs ys : Array Value} {ts : List T} {Q : Value → Shared → Prop} (hu : A.units < PySem.cLine) (ha : Li hh a xs) (hb : Li hh b ys) (sa : Strs xs ts) (sb : Strs ys ts) (h : Q (.bool true) (up s hh tk)) :
    wpAny (model pw w) A (compareOp .Eq (.ref a) (.ref b)) Q E (up s hh tk) := by
  refine eq_listAt (s := up s hh tk) (e := fun _ => true) ha.is hb.is (sa.size.trans sb.size.symm) hu (fun j h1 h2 => ?_) ?_
  · have h3 : j < ts.length := by rw [← sa.size]; exact h1
    obtain ⟨x, hx⟩ : ∃ x, ts[j]? = some x := ⟨_, List.getElem?_eq_getElem h3⟩
    obtain ⟨u, hu⟩ := sa.at j x hx
    obtain ⟨v, hv⟩ := sb.at j x hx
    rw [Array.getElem?_eq_getElem h1] at hu
    rw [Array.getElem?_eq_getElem h2] at hv
    rw [Option.some.inj hu, Option.some.inj hv]
    have := EqAt.str_str (A := A.in1) (s := up s hh tk) (S x) u (S x) v
    rwa [beq_self_eq_true] at this
  · rw [List.all_eq_true.mpr (fun _ _ => rfl)]; exact h
theorem law_end {t : T} {gs : List T} {c : Nat} {u cu : Tok} {v : Value} {Gd : Addr} {items : Array Value} {Q : Flow → Shared → Prop} (hA : A.handled = none) (hroom : A.depth + 1 < recursionLimit) (hu : A.units < PySem.cLine) (Φ : Fm w mg mb h₀ L m hh)
    (mt : m "text" = some (.str (S t) u)) (mG : m "gaps" = some (.ref Gd)) (mc : m "count" = some (.int (c : Nat) cu)) (mw : m "words" = some v)
    (hG : Li hh Gd items) (sG : Strs items gs) (hn : gs.length ≤ 1000) (hl : ∀ x ∈ gs, x.length ≤ 300) (et : t = sep gs) (es : shl .sp [] t = if c % 2 = 1 then some (lawWords false [] gs) else none)
    (hv : (∃ ws D its, shl .sp [] t = some ws ∧ v = .ref D ∧ Li hh D its ∧ Strs its ws) ∨ (shl .sp [] t = none ∧ v = .none))
    (h : ∀ h' m' k, Fm w mg mb h₀ L m' h' → Q (.ret (.bool true)) (up s h' k)) :
    wpAny (model pw w) A (execs ((dB (st 54)).drop 15) (lE L)) Q E (up s hh tk) := by
  have nG := hG.neL Φ
  refine q_cons ?_
  walk_at "hs q_asn;r q_ife;r q_tb;r q_bin;l n_loc;r k_int"
  refine r_mod (b := 2) (by decide) ?_
  refine P.truthy_int (s := up s _ _) ?_
  refine if_int (fun h2 => ?_) (fun h2 => ?_)
  · rw [if_neg (by omega)] at es
    obtain rfl : v = .none := (hv.resolve_left fun ⟨ws, D, its, e1, _⟩ => by rw [es] at e1; cases e1).2
    walk_at "r wpAny_Constant_none;sB;r q_cons;r q_ret"
    rename_i h4 Φ4 kb4
    obtain ⟨gl, rfl, egl⟩ := sG
    have GG := hG.kb kb4 (ni1 nG)
    refine BoolOp_and ?_
    walk_at "hm q_cmp;l n_loc;M"; (with_reducible refine k_str [39] (by decide +kernel) ?_); walk_at "r GM.join;hp q_cm;he q_acons;l n_loc;r args_nil"
    refine r_join GG.is egl 300 hl (by simp only [List.length_cons, List.length_nil]; omega) fun t5 k5 => ?_
    rw [sep_eq]
    refine r_eqS ?_
    rw [decide_eq_true et]
    walk_at "r wpAny_truthy_bool"
    refine BoolOp_one ?_
    walk_at "hm q_cmp;l n_loc;l n_loc"
    refine PySem.EqNone.eq_none_none ?_
    exact h _ _ _ Φ4
  · rw [if_pos (by omega)] at es
    obtain ⟨ws, D, its, e1, rfl, hD, sD⟩ : ∃ ws D its, shl .sp [] t = some ws ∧ v = .ref D ∧ Li hh D its ∧ Strs its ws := hv.resolve_right fun q => by rw [es] at q; cases q.1
    obtain rfl := Option.some.inj (es.symm.trans e1)
    have nD := hD.neL Φ
    walk_at "he q_call;g n_glob g907;K;he q_acons;l n_loc;r args_nil;A"
    refine c_words (Fm.gg (by assumption)) (by omega) hA hG sG hn hl fun h3 k3 D3 its3 kp3 hD3 sD3 oD3 => ?_
    have Φ3 := Φ.keeps kp3
    have n3 := hD3.neL Φ3
    walk_at "sB;r q_cons;r q_ret"
    rename_i h4 Φ4 kb4
    obtain ⟨gl, rfl, egl⟩ := sG
    have GG := (hG.keeps kp3).kb kb4 (ni1 nG)
    refine BoolOp_and ?_
    walk_at "hm q_cmp;l n_loc;M"; (with_reducible refine k_str [39] (by decide +kernel) ?_); walk_at "r GM.join;hp q_cm;he q_acons;l n_loc;r args_nil"
    refine r_join GG.is egl 300 hl (by simp only [List.length_cons, List.length_nil]; omega) fun t5 k5 => ?_
    rw [sep_eq]
    refine r_eqS ?_
    rw [decide_eq_true et]
    walk_at "r wpAny_truthy_bool"
    refine BoolOp_one ?_
    walk_at "hm q_cmp;l n_loc;l n_loc"
    refine r_eqL hu ((hD.keeps kp3).kb kb4 (ni1 nD)) (hD3.kb kb4 (ni1 n3)) sD sD3 ?_
    exact h _ _ _ Φ4
end
end
section
variable {A : Around} {E : Value → Shared → Prop} {s : Shared} {hh : Heap} {tk : Nat} {env : Env}
variable {w : World} {mg mb : Str → Option Value} {m : Str → Option Value} {h₀ : Heap} {L : Addr}
theorem mul_wayS (d n : Nat) (hn : n ≤ 4) : Txt.mul (S [47, 48 + d]) (n : Int) = S (wayS (List.replicate n d)) := by
  match n, hn with
  | 0, _ => rfl
  | 1, _ => rfl
  | 2, _ => rfl
  | 3, _ => rfl
  | 4, _ => rfl
theorem mulOk_wayS (d n : Nat) (hn : n ≤ 4) : MulOk (S [47, 48 + d]) (n : Int) := by
  have e : (S [47, 48 + d]).length = 2 := rfl
  unfold MulOk
  rw [e]
  match n, hn with
  | 0, _ => decide
  | 1, _ => decide
  | 2, _ => decide
  | 3, _ => decide
  | 4, _ => decide
theorem r_mulS (d n : Nat) (hn : n ≤ 4) {t u : Tok} {Q : Value → Shared → Prop} (h : ∀ t' k, Q (.str (S (wayS (List.replicate n d))) t') (up s hh k)) :
    wpAny (model pw w) A (binaryOp .Mult (.str (S [47, 48 + d]) t) (.int (n : Nat) u)) Q E (up s hh tk) := by
  refine SB.mul (s := up s hh tk) (mulOk_wayS d n hn) fun t' k => ?_
  rw [mul_wayS d n hn]
  exact h t' k
theorem r_pow3 (n : Nat) (hn : n ≤ 3) {t u : Tok} {Q : Value → Shared → Prop} (h : Q (.int ((3 ^ n : Nat) : Int) tk) (up s hh (tk + 1))) :
    wpAny (model pw w) A (binaryOp .Pow (.int 3 t) (.int (n : Nat) u)) Q E (up s hh tk) := by
  refine pow_int_small (s := up s hh tk) (by omega) (by omega) (by decide) ?_
  rw [Int.toNat_natCast]
  have e : ((3 : Int) ^ n) = ((3 ^ n : Nat) : Int) := by simp
  rw [e]; exact h
theorem r_mulN (a b : Nat) (ha : a < 2 ^ 20) (hb : b < 2 ^ 20) {t u : Tok} {Q : Value → Shared → Prop} (h : Q (.int ((a * b : Nat) : Int) tk) (up s hh (tk + 1))) :
    wpAny (model pw w) A (binaryOp .Mult (.int (a : Nat) t) (.int (b : Nat) u)) Q E (up s hh tk) :=
  PyProof.Rows.mul_int (s := up s hh tk) (by rw [← Int.natCast_mul]; exact h)
theorem r_subN (a b : Nat) (hb : b ≤ a) {t u : Tok} {Q : Value → Shared → Prop} (h : Q (.int ((a - b : Nat) : Int) tk) (up s hh (tk + 1))) :
    wpAny (model pw w) A (binaryOp .Sub (.int (a : Nat) t) (.int (b : Nat) u)) Q E (up s hh tk) :=
  PyProof.Rows.sub_int (s := up s hh tk) (by rw [← Int.ofNat_sub hb]; exact h)
theorem r_int (d : Nat) (hd : d < 10) {t : Tok} {Q : Value → Shared → Prop} (h : Q (.int (d : Nat) tk) (up s hh (tk + 1))) : wpAny (model pw w) A (call (.type "int") [.str (S [48 + d]) t]) Q E (up s hh tk) := by
  refine PySem.W.KIN.call_text (s := up s hh tk) (n := (d : Nat)) ?_ (by show 1 ≤ 640; decide) h
  match d, hd with
  | 0, _ | 1, _ | 2, _ | 3, _ | 4, _ | 5, _ | 6, _ | 7, _ | 8, _ | 9, _ => decide +kernel
end
noncomputable abbrev kE (L : Nat) : Env := envX "commonpath" (dS (st 44)) L 858 (.ref 857) [("curdir", L + 2), ("sep", L + 1)]
section
variable {A : Around} {E : Value → Shared → Prop} {s : Shared} {hh : Heap} {tk : Nat} {env : Env}
variable {w : World} {mg mb : Str → Option Value} {m : Str → Option Value} {h₀ : Heap} {L : Nat}
theorem f858 (P : Params) : (K P).lookup 858 = some ⟨.type "function", none, .func (fnOf "commonpath" "commonpath" (dA (st 44)) (dB (st 44)) (dS (st 44)) .none .none .none (.str "cpy313.posixpath" 1361) none (.ref 857) .none), #[]⟩ := by kernel_rfl
theorem call_cell {D : Addr} {Q : Value → Shared → Prop} (g : G w mg mb hh) (hroom : A.depth < recursionLimit)
    (h : ∀ h₁ m k, m "paths" = some (.ref D) → Fm w mg mb hh hh.objs.size m h₁ → Keeps hh h₁ → h₁.IsCell (hh.objs.size + 1) none → h₁.IsCell (hh.objs.size + 2) none →
      wpAny (model pw w) (A.deeper (kE hh.objs.size)) (execs (dB (st 44)) (kE hh.objs.size)) (fun fl s' => Q (match fl with | .ret v => v | _ => .none) s') (fun _ _ => False) (up s h₁ k)) :
    wpAny (model pw w) A (call (.ref 858) [.ref D]) Q E (up s hh tk) := by
  refine wpAny_call (codeAny_call_function (fd := fnOf "commonpath" "commonpath" (dA (st 44)) (dB (st 44)) (dS (st 44)) .none .none .none (.str "cpy313.posixpath" 1361) none (.ref 857) .none) (body := dB (st 44)) hroom (g.X _ _ (f858 _)) rfl (by rfl) (by rfl) rfl (codeRec_of g.X (by kernel_rfl))
    ((BindsTo.of_eq (binds := [("paths", Value.ref D)]) (by rfl)) _ _ _ _ ?_))
  refine wpAny_newFunctionEnv_cells (by rfl) (by intro x hx; obtain rfl := List.mem_singleton.mp hx; exact .inl (by rfl)) fun env' he s' x => ?_
  subst he
  refine ⟨g.T.nolimit.keeps x.toInCall.keep, codeAny_func ?_⟩
  obtain ⟨h₁, k, rfl, kp⟩ := x.done
  have c1 := x.cell "sep" (hh.objs.size + 1) (by kernel_rfl)
  have c2 := x.cell "curdir" (hh.objs.size + 2) (by kernel_rfl)
  refine wpAny_mono (h h₁ _ k (by rfl) ⟨⟨x.toInCall.ns, kp, Nat.le_refl _⟩, g⟩ kp c1 c2) (fun _ _ x => x) (fun _ _ x => x.elim)
end
theorem mp_mro : mroOf (.type "map") = pure [.type "map", .type "object"] := by rw [mroOf_type]; kernel_rfl
theorem mp_lookup_new : typeLookup (.type "map") "__new__" = pure (some (.builtin "map.__new__")) := by rw [typeLookup_type, builtinLookup_eq_fast]; kernel_rfl
theorem mp_slot_init : Slot "map" "__init__" "object.__init__" :=
  .of (owner := "object") (n := "__init__") (by rw [typeLookup_type, builtinLookup_eq_fast]; kernel_rfl) (by decide +kernel) (by decide +kernel) (by decide +kernel)
    (by first | exact .inl (by decide +kernel) | exact .inr (by decide +kernel)) (by rw [isSubtype_type]; kernel_rfl)
theorem mp_slot_next : Slot "map" "__next__" "map.__next__" :=
  .of (owner := "map") (n := "__next__") (by rw [typeLookup_type, builtinLookup_eq_fast]; kernel_rfl) (by decide +kernel) (by decide +kernel) (by decide +kernel)
    (by first | exact .inl (by decide +kernel) | exact .inr (by decide +kernel)) (by rw [isSubtype_type]; kernel_rfl)
theorem mp_slot_iter : Slot "map" "__iter__" "map.__iter__" :=
  .of (owner := "map") (n := "__iter__") (by rw [typeLookup_type, builtinLookup_eq_fast]; kernel_rfl) (by decide +kernel) (by decide +kernel) (by decide +kernel)
    (by first | exact .inl (by decide +kernel) | exact .inr (by decide +kernel)) (by rw [isSubtype_type]; kernel_rfl)
theorem mp_sub : isSubtype (.type "map") (.type "map") = pure true := by rw [isSubtype_type]; kernel_rfl
theorem mp_called : TypeCalled "map" "map.__new__" "object.__init__" :=
  ⟨by decide +kernel, by decide +kernel, ⟨_, _, mp_mro⟩, madeBy_type mp_mro mp_lookup_new (by decide +kernel), by decide +kernel, mp_sub, mp_slot_init⟩
theorem mp_typeCall (a b : Value) : checkTypeCall "map" ⟨[a, b], []⟩ = pure () := by kernel_rfl
theorem mp_newCall (a b : Value) : checkBuiltinCall "map.__new__" ⟨[.type "map", a, b], []⟩ = pure () := by kernel_rfl
theorem mp_entry_new : entryFor table "map.__new__" = some Builtin.«map.__new__» := entryFor_of_tree (by kernel_rfl)
theorem mp_entry_next : entryFor table "map.__next__" = some Builtin.«map.__next__» := entryFor_of_tree (by kernel_rfl)
theorem mp_plain_new : plainId "map.__new__" = true := by decide +kernel
theorem mp_args_init (a b c : Value) : argsOk "object.__init__" ⟨[a, b, c], []⟩ := by unfold argsOk; kernel_rfl
theorem mp_args_next (a : Value) : argsOk "map.__next__" ⟨[a], []⟩ := by unfold argsOk; kernel_rfl
theorem mp_args_iter (a : Value) : argsOk "map.__iter__" ⟨[a], []⟩ := by unfold argsOk; kernel_rfl
theorem mp_entry_iter : entryFor table "map.__iter__" = some Builtin.«dict_keyiterator.__iter__» :=
  entryFor_alias (id' := "dict_keyiterator.__iter__") (by kernel_rfl) (by first | rfl | decide +kernel | (unfold String.splitOn; simp +decide [String.splitOnAux])) (by decide +kernel) (by kernel_rfl)
theorem mp_isType : isType (.type "map") = pure true := by kernel_rfl
noncomputable abbrev mpO (T : Addr) (f : Value) : Obj := ⟨.type "map", none, .fields #[.ref T, f], #[]⟩
noncomputable abbrev tpO (xs : Array Value) : Obj := { cls := .type "tuple", data := .seq xs }
section
variable {A : Around} {E : Value → Shared → Prop} {s : Shared} {hh : Heap} {tk : Nat} {env : Env}
variable {w : World} {mg mb : Str → Option Value}
theorem mp_new {f : Value} {l : Addr} {items : Array Value} {Q₁ : Value → Shared → Prop} (hl : Li hh l items)
    (h : ∀ h' I TT M, Keeps hh h' → h'.get? M = some (mpO TT f) → h'.get? TT = some (tpO #[.ref I]) → h'.IsListIter I l 0 → @LE.le Nat _ hh.objs.size I → @LT.lt Nat _ I TT → @LT.lt Nat _ TT M → Q₁ (.ref M) (up s h' tk)) :
    codeAny (model pw w) A (.call (.builtin "map.__new__") ⟨[.type "map", f, .ref l], []⟩) (wants Q₁ E) (up s hh tk) := by
  refine codeAny_call_builtin mp_plain_new mp_entry_new (wpAny_of_eq (mp_newCall _ _) ?_)
  unfold Builtin.«map.__new__» SmallTypes.newClass
  have h1 := mp_isType
  have h2 := mp_sub
  dsimp only
  rw [h1, h2]
  have his := hl.is
  repeat first | (with_reducible refine wpAny_pyIter_list (s := up s _ _) his ?_) | lk
  have e1 : ((hh.push { cls := .type "list_iterator", data := .fields #[.ref l, .int 0 0] }).objs.size : Nat) = hh.objs.size + 1 := Heap.size_push ..
  have e2 : (((hh.push { cls := .type "list_iterator", data := .fields #[.ref l, .int 0 0] }).push (tpO #[.ref hh.objs.size])).objs.size : Nat) = hh.objs.size + 2 := by rw [Heap.size_push, e1]
  exact h (((hh.push { cls := .type "list_iterator", data := .fields #[.ref l, .int 0 0] }).push (tpO #[.ref hh.objs.size])).push (mpO _ f)) hh.objs.size _ _
    (fun b o e => Heap.get?_push_of_some _ (Heap.get?_push_of_some _ (Heap.get?_push_of_some _ e))) (Heap.get?_push_size _ rfl) (Heap.get?_push_of_some _ (Heap.get?_push_size _ rfl))
    ⟨_, Heap.get?_push_of_some _ (Heap.get?_push_of_some _ (Heap.get?_push_size _ rfl)), rfl, rfl⟩ (Nat.le_refl _) (by rw [e1]; exact Nat.lt_succ_self _) (by rw [e1]; exact Nat.lt_of_lt_of_eq (Nat.lt_succ_self _) e2.symm)
theorem r_map {f : Value} {l : Addr} {items : Array Value} {Q : Value → Shared → Prop} (hl : Li hh l items)
    (h : ∀ h' I TT M, Keeps hh h' → h'.get? M = some (mpO TT f) → h'.get? TT = some (tpO #[.ref I]) → h'.IsListIter I l 0 → @LE.le Nat _ hh.objs.size I → @LT.lt Nat _ I TT → @LT.lt Nat _ TT M → Q (.ref M) (up s h' tk)) :
    wpAny (model pw w) A (call (.type "map") [f, .ref l]) Q E (up s hh tk) := by
  refine callType_codes (Q₁ := fun v s₁ => s₁.TypeIs v "map" ∧ Q v s₁) mp_called (mp_typeCall _ _) F.entry_object_init
    (mp_new hl fun h' I TT M kp a b c d e f' => ⟨⟨_, a, rfl⟩, h h' I TT M kp a b c d e f'⟩) fun obj s₁ h₁ => ?_
  exact ⟨h₁.1, mp_args_init obj _ _, object_init_meets mp_called.init.lookup mp_called.made (by decide) pw w A.in1 _ s₁ ⟨h₁.1, rfl, h₁.2⟩⟩
theorem walks_map {b₀ : Heap} (g : G w mg mb b₀) (hA : A.handled = none) (hroom : A.depth < recursionLimit) {M TT I l : Addr} (n1 : @Ne Nat M I) (n2 : @Ne Nat TT I) (n3 : @Ne Nat l I) (n4 : @LE.le Nat _ b₀.objs.size I) {items : Array Value} {ts : List T} (st : Strs items ts) :
    Walks pw w A M ([M, TT, I, l] ++ List.range b₀.objs.size) [I] items.size (fun i v => items[i]? = some v)
      (fun i h => Keeps b₀ h ∧ h.get? M = some (mpO TT (.ref 825)) ∧ h.get? TT = some (tpO #[.ref I]) ∧ h.IsListIter I l i ∧ Li h l items) where
  sub := fun b hb => by simp at hb; simp [hb]
  frame := fun i h h' ⟨a, b, c, d, e⟩ hk => ⟨fun x o q => hk x (List.mem_append_right _ (List.mem_range.mpr (Heap.lt_size q))) o (a x o q), hk M (by simp) _ b, hk TT (by simp) _ c, d.at fun o q => hk I (by simp) o q, let ⟨n, z⟩ := e; ⟨n, hk l (by simp) _ z⟩⟩
  item := by
    rintro i s Q E hi ⟨a, b, c, d, e⟩ hQ
    obtain ⟨x, hx⟩ : ∃ x, ts[i]? = some x := ⟨_, List.getElem?_eq_getElem (by rw [← st.size]; exact hi)⟩
    obtain ⟨u, hu⟩ := st.at i x hx
    have hT : s.TypeIs (.ref M) "map" := ⟨_, b, rfl⟩
    unfold pyNext
    refine wpAny_bind (wpAny_attempt (wpAny_callSpecial?_slot (name := Str.ofString "__next__") hT mp_slot_next
      (wpAny_call_entry mp_slot_next hT mp_entry_next ?_ (mp_args_next _))))
    unfold Builtin.«map.__next__» slotArgs
    have eis := e.is
    repeat first | ((with_reducible show wpAny _ _ (SmallTypes.nextOf _) _ _ _); refine wpAny_nextOf_list_item d eis hu ?_; intro _ _ _) | lk
    rename_i h1 d1 hs1
    have kp1 : Keeps b₀ h1 := fun b o q => hs1.extBut b o (fun q' => by
      have q2 : @LT.lt Nat _ b b₀.objs.size := Heap.lt_size q
      have q3 : @Eq Nat b I := q'
      omega) (a b o q)
    have b1 : h1.get? M = some (mpO TT (.ref 825)) := hs1.extBut M _ n1 b
    have c1 : h1.get? TT = some (tpO #[.ref I]) := hs1.extBut TT _ n2 c
    have e1 : Li h1 l items := let ⟨n, z⟩ := e; ⟨n, hs1.extBut l _ n3 z⟩
    repeat first | ((with_reducible show wpAny _ _ (call _ _) _ _ _); refine c_fspath (s := s) (hh := h1) (tk := s.toks) (t := x) (u := u) (g.keeps kp1) hroom ?_; intro _ _ _) | lk
    rename_i h2 k2 kp2
    refine ⟨_, rfl, wpAny_pure (hQ _ h2 k2 hu ⟨fun b o q => kp2 b o (kp1 b o q), kp2 _ _ b1, kp2 _ _ c1, d1.at fun o q => kp2 _ o q, e1.keeps kp2⟩ fun b o hb q => kp2 b o (hs1.extBut b o (fun q' => hb (by rw [q']; exact .head _)) q))⟩
  done := by
    rintro s Q E ⟨a, b, c, d, e⟩ hQ
    have hT : s.TypeIs (.ref M) "map" := ⟨_, b, rfl⟩
    unfold pyNext
    refine wpAny_bind (wpAny_attempt (wpAny_callSpecial?_slot (name := Str.ofString "__next__") hT mp_slot_next
      (wpAny_call_entry mp_slot_next hT mp_entry_next ?_ (mp_args_next _))))
    unfold Builtin.«map.__next__» slotArgs
    have eis := e.is
    repeat first | ((with_reducible show wpAny _ _ (SmallTypes.nextOf _) _ _ _); refine wpAny_nextOf_list_end hA d eis (Array.getElem?_eq_none (Nat.le_refl _)) ?_; intro _ _ _ _) | (with_reducible refine wpAny_isInstance (T := "StopIteration") (b := true) ?q1 isSubtype_stop ?q2) | lk
    case q1 => assumption
    rename_i h1 e1 he1 hx
    exact wpAny_pure (hQ h1 s.toks fun b o hb q => he1 b o (fun q' => hb (by rw [q']; exact .head _)) q)
  self := by
    rintro i s Q E ⟨a, b, c, d, e⟩ hQ
    have hT : s.TypeIs (.ref M) "map" := ⟨_, b, rfl⟩
    refine wpAny_pyIter_slot hT mp_slot_iter (wpAny_call_entry mp_slot_iter hT mp_entry_iter ?_ (mp_args_iter _))
    show wpAny _ _ (ret (.ref M)) _ _ s
    exact wpAny_pure ⟨_, rfl, "map", _, hT, mp_slot_next.lookup, hQ⟩
end
theorem mp_no_len : typeLookup (.type "map") "__len__" = pure none := by rw [typeLookup_type, builtinLookup_eq_fast]; kernel_rfl
theorem mp_no_hint : typeLookup (.type "map") "__length_hint__" = pure none := by rw [typeLookup_type, builtinLookup_eq_fast]; kernel_rfl
section
variable {A : Around} {E : Value → Shared → Prop} {s : Shared} {hh : Heap} {tk : Nat} {env : Env}
variable {w : World} {mg mb : Str → Option Value}
theorem collect_map (g : G w mg mb hh) (hA : A.handled = none) (hroom : A.depth < recursionLimit) {M TT I l : Addr} (n1 : @Ne Nat M I) (n2 : @Ne Nat TT I) (n3 : @Ne Nat l I) {b₀ : Heap} (kb : Keeps b₀ hh) (gb : G w mg mb b₀) (n4 : @LE.le Nat _ b₀.objs.size I)
    {items : Array Value} {ts : List T} (st : Strs items ts) (hsz : items.size ≤ 1000)
    (hM : hh.get? M = some (mpO TT (.ref 825))) (hT : hh.get? TT = some (tpO #[.ref I])) (hI : hh.IsListIter I l 0) (hl : Li hh l items) {Q : List Value → Shared → Prop}
    (h : ∀ h' k, KB [I] hh h' → Q items.toList (up s h' k)) :
    wpAny (model pw w) A (collect (.ref M)) Q E (up s hh tk) := by
  have W := (walks_map (A := A.in1) gb hA hroom n1 n2 n3 n4 st).toS
  have ML : @LT.lt Nat _ M hh.objs.size := Heap.lt_size hM
  have TL : @LT.lt Nat _ TT hh.objs.size := Heap.lt_size hT
  have IL : @LT.lt Nat _ I hh.objs.size := let ⟨_, e, _⟩ := hI; Heap.lt_size e
  have lL : @LT.lt Nat _ l hh.objs.size := hl.lt
  have bL : @LE.le Nat _ b₀.objs.size hh.objs.size := by omega
  have hSf : hh.objs.size ∉ [M, TT, I, l] ++ List.range b₀.objs.size := by
    intro hm
    rcases List.mem_append.mp hm with hm | hm
    · simp only [List.mem_cons, List.not_mem_nil, or_false] at hm
      rcases hm with q | q | q | q
      · exact Nat.ne_of_gt ML q
      · exact Nat.ne_of_gt TL q
      · exact Nat.ne_of_gt IL q
      · exact Nat.ne_of_gt lL q
    · exact Nat.lt_irrefl _ (Nat.lt_of_lt_of_le (List.mem_range.mp hm) bL)
  have hSM : @Ne Nat hh.objs.size M := by omega
  unfold collect
  refine wpAny_bind (wpAny_runValue (codeAny_builtin F.entry_proto_collect ?_))
  rw [Around.under_plainId F.plain_proto_collect _]
  show wpAny _ A.in1 (newList [] >>= fun l => again (.builtin "list.__iadd__" ⟨[l, .ref M], []⟩)) _ _ _
  refine wpAny_bind (wpAny_newObj_type ?_)
  refine wpAny_pure ⟨plainId_quiet F.plain_list_iadd _, codeAny_builtin F.entry_list_iadd ?_⟩
  rw [Around.under_plainId F.plain_list_iadd _]
  have hM1 := Heap.get?_push_of_some { cls := .type "list", data := .seq ([] : List Value).toArray } hM
  have hTy : (up s (hh.push { cls := .type "list", data := .seq ([] : List Value).toArray }) tk).TypeIs (.ref M) "map" := ⟨_, hM1, rfl⟩
  show wpAny _ A.in1 (Builtin.List.listExtendWith (.ref hh.objs.size) (.ref M) (.ref hh.objs.size)) _ _ _
  unfold Builtin.List.listExtendWith
  refine wpAny_bind (wpAny_typeOf hTy ?_)
  have h1 : Builtin.List.listSameRef (.ref hh.objs.size) (.ref M) = false := by simp [Builtin.List.listSameRef, hSM]
  have h2 : (Value.type "map" == Value.type "list") = false := by decide
  have h3 : (Value.type "map" == Value.type "tuple") = false := by decide
  simp only [h1, h2, h3, Bool.or_false, Bool.false_eq_true, if_false]
  have st1 : (fun i (s : Shared) => Keeps b₀ s.heap ∧ s.heap.get? M = some (mpO TT (.ref 825)) ∧ s.heap.get? TT = some (tpO #[.ref I]) ∧ s.heap.IsListIter I l i ∧ Li s.heap l items) 0 (up s (hh.push { cls := .type "list", data := .seq ([] : List Value).toArray }) tk) :=
    ⟨fun b o e => Heap.get?_push_of_some _ (kb b o e), hM1, Heap.get?_push_of_some _ hT, hI.at fun _ e => Heap.get?_push_of_some _ e, hl.keeps fun _ _ e => Heap.get?_push_of_some _ e⟩
  refine wpAny_bind (W.self 0 _ _ _ st1 ?_)
  refine wpAny_bind (wpAny_holding ?_)
  unfold Builtin.List.listLengthHint
  refine wpAny_bind (wpAny_specialOf hTy mp_no_len ?_)
  show wpAny _ A.in1 (specialOf (Value.ref M) (Str.ofString "__length_hint__") >>= _) _ _ _
  refine wpAny_bind (wpAny_specialOf hTy mp_no_hint ?_)
  refine wpAny_pure ?_
  have hS₁ : (hh.push { cls := .type "list", data := .seq ([] : List Value).toArray }).get? hh.objs.size = some { cls := .type "list", data := .seq ([] : List Value).toArray } := Heap.get?_push_size _ rfl
  rw [Bool.true_or, if_pos rfl]
  refine wpAny_bind (wpAny_rule ?_)
  refine wpAny_bind ?_
  show wpAny _ A.in1 (updateSeq hh.objs.size (·.push .none) >>= fun _ => updateSeq hh.objs.size (·.pop)) _ _ _
  refine wpAny_bind (wpAny_updateSeq hS₁ rfl ?_)
  have hS₂ := Heap.get?_update_self (Obj.mapSeq (·.push Value.none)) hS₁ rfl
  refine wpAny_updateSeq hS₂ rfl ?_
  have hS₃ := Heap.get?_update_self (Obj.mapSeq (·.pop)) hS₂ rfl
  have oth : Keeps hh (((hh.push { cls := .type "list", data := .seq ([] : List Value).toArray }).update hh.objs.size (Obj.mapSeq (·.push Value.none))).update hh.objs.size (Obj.mapSeq (·.pop))) := fun b o e => by
    have nb : b ≠ hh.objs.size := Nat.ne_of_lt (Heap.lt_size e)
    exact (Heap.get?_update_other _ _ (Ne.symm nb)).trans ((Heap.get?_update_other _ _ (Ne.symm nb)).trans (Heap.get?_push_of_some _ e))
  refine wpAny_pure ⟨plainId_quiet F.plain_extend_loop _, codeAny_extend_loopS W (by rw [sizeLine_eq]; omega) _ hSf _ items.size 0 _ _ _ rfl (Nat.zero_le _)
    ⟨fun b o e => oth b o (kb b o e), oth _ _ hM, oth _ _ hT, hI.at fun _ e => oth _ _ e, hl.keeps oth⟩ hS₃ (ItemsOf.nil _) fun s' acc' c' hm hS' hacc => ?_⟩
  show wpAny _ A (load hh.objs.size >>= _) _ _ s'
  refine wpAny_bind (wpAny_load hS' ?_)
  refine wpAny_pure ?_
  have ea : acc' = items := by
    refine Array.ext_getElem? fun i => ?_
    cases q : acc'[i]? with
    | some v => rw [hacc.2 i v q]
    | none =>
      have : items.size ≤ i := by rw [← hacc.1]; exact Array.getElem?_eq_none_iff.mp q
      exact (Array.getElem?_eq_none this).symm
  subst ea
  obtain ⟨hp, g1, d1, tk1, os1⟩ := s'
  obtain rfl : g1 = s.gens := hm.gens
  obtain rfl : d1 = s.drawn := hm.drawn
  obtain rfl : os1 = s.os := hm.os
  refine h hp tk1 fun b o hb e => hm.heap b o (fun q => ?_) (oth b o e)
  rcases List.mem_cons.mp q with q | q
  · exact absurd q (Nat.ne_of_lt (Heap.lt_size e))
  · exact hb q
theorem r_tupleMap (hA : A.handled = none) (hroom : A.depth < recursionLimit) {M TT I l : Addr} (n1 : @Ne Nat M I) (n2 : @LT.lt Nat _ I TT) (n3 : @Ne Nat l I) {b₀ : Heap} (kb : Keeps b₀ hh) (gb : G w mg mb b₀) (n4 : @LE.le Nat _ b₀.objs.size I)
    {items : Array Value} {ts : List T} (st : Strs items ts) (hsz : items.size ≤ 1000)
    (hM : hh.get? M = some (mpO TT (.ref 825))) (hT : hh.get? TT = some (tpO #[.ref I])) (hI : hh.IsListIter I l 0) (hl : Li hh l items) {Q : Value → Shared → Prop}
    (h : ∀ h' k P, KB [I] hh h' → h'.get? P = some (tpO items) → @LT.lt Nat _ TT P → Q (.ref P) (up s h' k)) :
    wpAny (model pw w) A (call (.type "tuple") [.ref M]) Q E (up s hh tk) := by
  refine callType_codes (Q₁ := fun obj s₁ => s₁.TypeIs obj "tuple" ∧ Q obj s₁) F.called_tuple (F.typeCall_tuple_1 _) F.entry_object_init
    ?_ fun obj s₁ h₁ => ⟨h₁.1, F.args_object_init_2 obj _, object_init_meets F.called_tuple.init.lookup F.called_tuple.made (by decide) pw w A.in1 _ s₁ ⟨h₁.1, rfl, h₁.2⟩⟩
  refine codeAny_call_builtin F.plain_tuple_new F.entry_tuple_new (wpAny_of_eq (F.newCall_tuple_1 _) ?_)
  have hsub := sub_tuple_self
  have hinit := init_tuple_lookup
  have hmh := madeHere_tuple
  have hTI : (up s hh tk).TypeIs (.ref M) "map" := ⟨_, hM, rfl⟩
  wp_walk using wpAny_typeOf hTI, collect_map (A := A.in1.in1) (s := s) (tk := tk) (gb.keeps kb) hA hroom n1 (Nat.ne_of_gt n2) n3 kb gb n4 st hsz hM hT hI hl
  intro h' k kb'
  unfold Builtin.Tuple.tupleExact
  show wpAny _ _ ((newObj (.type "tuple") (.seq items.toList.toArray) >>= fun v => ret v)) _ _ _
  refine wpAny_bind (wpAny_newObj_type ?_ (by show items.toList.toArray.size ≤ sizeLine; rw [sizeLine_eq]; simp; omega))
  have e : items.toList.toArray = items := by simp
  rw [e]
  have hT' : h'.get? TT = some (tpO #[.ref I]) := kb' TT _ (by simpa using Nat.ne_of_gt n2) hT
  exact wpAny_pure ⟨⟨_, Heap.get?_push_size _ rfl, rfl⟩, h _ _ _ (fun b o nb q => Heap.get?_push_of_some _ (kb' b o nb q)) (Heap.get?_push_size _ rfl) (Heap.lt_size hT')⟩
end
section
variable {A : Around} {E : Value → Shared → Prop} {s : Shared} {hh : Heap} {tk : Nat} {env : Env}
variable {w : World} {mg mb : Str → Option Value} {m : Str → Option Value} {h₀ : Heap} {L : Nat}
theorem x_loc {x : Str} {pos : Pos} {v : Value} {Q : Value → Shared → Prop} (Φ : Fm w mg mb h₀ L m s.heap) (hv : m x = some v) (h : Q v s)
    (hl : (kE L).kindOf x = some .local) (hd : (x == ("__debug__" : Str)) = false) : wpAny (model pw w) A (eval (.Name x pos) (kE L)) Q E s := nameX_L Φ.F hv h (by rfl) hl hd
theorem x_glob {x : Str} {pos : Pos} {v : Value} {Q : Value → Shared → Prop} (Φ : Fm w mg mb h₀ L m s.heap) (e : nsIn (K w.params) mainGlobals x = some (some v)) (h : Q v s)
    (hx : (kE L).kindOf x = some .globalImplicit) (hd : (x == ("__debug__" : Str)) = false) : wpAny (model pw w) A (eval (.Name x pos) (kE L)) Q E s := nameX_K Φ.F Φ.G.X Φ.G.T e h (by rfl) hx hd
theorem x_blt {x : Str} {pos : Pos} {v : Value} {Q : Value → Shared → Prop} (Φ : Fm w mg mb h₀ L m s.heap) (e : nsIn (K w.params) mainGlobals x = some none) (hv : bootBuiltins x = some v) (hn : x ≠ "__name__") (h : Q v s)
    (hx : (kE L).kindOf x = some .globalImplicit) (hd : (x == ("__debug__" : Str)) = false) : wpAny (model pw w) A (eval (.Name x pos) (kE L)) Q E s := nameX_B Φ.F Φ.G.X Φ.G.T e hv hn h (by rfl) hx hd
theorem x_cell {x : Str} {pos : Pos} {c : Addr} {v : Value} {Q : Value → Shared → Prop} (hc : (kE L).cells.lookup x = some c) (hv : s.heap.IsCell c (some v)) (h : Q v s)
    (hl : (kE L).kindOf x = some .cell) (hd : (x == ("__debug__" : Str)) = false) : wpAny (model pw w) A (eval (.Name x pos) (kE L)) Q E s := wpAny_Name (wpAny_loadName_cell (by rfl) hl hc hv h) hd
theorem x_setB {x : Str} {v : Value} {Q : Unit → Shared → Prop} (Φ : Fm w mg mb h₀ L m hh)
    (h : ∀ h', Fm w mg mb h₀ L (upd m x v) h' → KB [L] hh h' → Q () (up s h' (tk + 1))) (_ : (dS (st 44)).kind = .function) (hl : (kE L).kindOf x = some .local) :
    wpAny (model pw w) A (storeName (kE L) x v) Q E (up s hh tk) :=
  wpAny_storeName_local (s := up s hh tk) hl Φ.F.ns (fun h' hn hs => h h' ⟨Φ.F.set hn hs, Φ.G⟩ fun b o nb e => (hs.2 b (fun q => nb (by rw [q]; exact .head _))).trans e) (by rfl)
theorem x_setC {x : Str} {c : Nat} {v : Value} {v₀ : Option Value} {Q : Unit → Shared → Prop} (Φ : Fm w mg mb h₀ L m hh) (hv : hh.IsCell c v₀) (n : @Ne Nat c L) (hb : @LE.le Nat _ h₀.objs.size c)
    (h : ∀ h', Fm w mg mb h₀ L m h' → KB [c] hh h' → h'.IsCell c (some v) → Q () (up s h' tk)) (hl : (kE L).kindOf x = some .cell) (hc : (kE L).cells.lookup x = some c) :
    wpAny (model pw w) A (storeName (kE L) x v) Q E (up s hh tk) := by
  refine wpAny_storeName_cell (s := up s hh tk) (by rfl) hl hc hv fun h' hv' hs => ?_
  have kb : KB [c] hh h' := fun b o nb e => (hs.2 b (fun q => nb (by rw [q]; exact .head _))).trans e
  exact h h' (Φ.kb kb (by simpa using Ne.symm n) (by intro b hb'; obtain rfl := List.mem_singleton.mp hb'; exact hb)) kb hv'
theorem cellKb {X : List Addr} {h h' : Heap} {c : Addr} {v : Option Value} (x : h.IsCell c v) (k : KB X h h') (n : c ∉ X) : h'.IsCell c v := let ⟨o, e, d⟩ := x; ⟨o, k _ _ n e, d⟩
end
section
variable {A : Around} {E : Value → Shared → Prop} {s : Shared} {hh : Heap} {tk : Nat} {env : Env}
variable {w : World} {mg mb : Str → Option Value} {m : Str → Option Value} {h₀ : Heap} {L : Nat}
theorem comp_block {elt iter : Expr} {x : Str} {px : Pos} {scope : Scope} {cl : List (Str × Addr)} {pos : Pos} {h2 : Heap} {k2 : Nat} {I : Nat} {fp : List Addr} {n : Nat} {P : Nat → Value → Prop} {St : Nat → Heap → Prop} {RR : Value → Addr → Result → Shared → Prop}
    (W : Walks pw w A I fp [I] n P St) (hn : n ≤ 1000) (hcell : ∀ y ∈ scope.names, y.2 ≠ .cell) (hkind : scope.kind = .function) (hx : scope.names.lookup x = some .local) (hst : St 0 h2) (hfp : ∀ b ∈ fp, b < h2.objs.size)
    (J : Nat → List Value → Heap → Prop) (j0 : ∀ h', Keeps h2 h' → J 0 [] h') (Jk : ∀ i ys h h', KB [I, h2.objs.size, h2.objs.size + 1] h h' → J i ys h → J i ys h')
    (turn : ∀ i v ys h k mC E', i < n → P i v → ys.length = i → KB [I, h2.objs.size, h2.objs.size + 1] h2 h → h2.objs.size + 1 < h.objs.size → Li h h2.objs.size ys.toArray → St (i + 1) h → J i ys h → h.Ns (h2.objs.size + 1) mC → mC x = some v →
      wpAny (model pw w) A (eval elt (compEnvC scope cl (h2.objs.size + 1) env)) (fun y s' => ∃ h' k', s' = up s h' k' ∧ Keeps h h' ∧ J (i + 1) (ys ++ [y]) h') E' (up s h k))
    (fin : ∀ h' k ys mC, KB [I, h2.objs.size, h2.objs.size + 1] h2 h' → h'.Ns (h2.objs.size + 1) mC → Li h' h2.objs.size ys.toArray → J n ys h' → RR (.ref h2.objs.size) (h2.objs.size + 1) (.ok .next) (up s h' k)) :
    wpAny (model pw w) A (newList []) (fun acc s₃ => wpAny (model pw w) A (newFunctionEnv scope env.globals cl [] env.qual none .none (some env)) (fun cenv s₄ =>
      codeAny (model pw w) A (.compStart (.ListComp elt [⟨.Name x px, iter, [], 0⟩] scope pos) 0 (.ref I) acc { cenv with scope := relabel scope env }) (RR acc cenv.locals) s₄) E s₃) E (up s h2 k2) := by
  refine wpAny_newObj_type (wpAny_newFunctionEnv hcell (by intro y hy; simp at hy) (fun h₁ hns₁ hsb₁ => ?_) hkind)
  dsimp only at hns₁ hsb₁ ⊢
  generalize hH2 : h2.push { cls := .type "list", dict := none, data := .seq ([] : List Value).toArray } = H2 at hns₁ hsb₁ ⊢
  have hC : H2.objs.size = h2.objs.size + 1 := by rw [← hH2, Heap.size_push]
  rw [hC] at hns₁ hsb₁ ⊢
  have IL : @LT.lt Nat _ I h2.objs.size := hfp I (W.sub I (List.mem_singleton.mpr rfl))
  have old : Keeps h2 h₁ := fun b o e => hsb₁.extBut b o (by have : @LT.lt Nat _ b h2.objs.size := Heap.lt_size e; show @Ne Nat _ _; omega) (Heap.get?_push_of_some _ (hH2 ▸ Heap.get?_push_of_some _ e))
  have hacc : Li h₁ h2.objs.size #[] := ⟨0, hsb₁.extBut _ _ (by show @Ne Nat _ _; omega) (Heap.get?_push_of_some _ (hH2 ▸ Heap.get?_push_size _ rfl))⟩
  have hst₁ : St 0 h₁ := W.frame _ _ _ hst fun b _ o e => old b o e
  have fpo : ∀ b ∈ fp, @Ne Nat b h2.objs.size ∧ @Ne Nat b (h2.objs.size + 1) := fun b hb => by
    have : @LT.lt Nat _ b h2.objs.size := hfp b hb
    exact ⟨by omega, by omega⟩
  have loop : codeAny (model pw w) A (.compLoop (.ListComp elt [⟨.Name x px, iter, [], 0⟩] scope pos) 0 (.ref I) (.ref h2.objs.size) (compEnvC scope cl (h2.objs.size + 1) env)) (RR (.ref h2.objs.size) (h2.objs.size + 1)) (up s h₁ (k2 + ([] : List (Str × Value)).length)) := by
    refine codeAny_compLoop_tests (fun k s' => ∃ h' tk ys m', s' = up s h' tk ∧ ys.length ≤ n ∧ k = n + 1 - ys.length ∧ St ys.length h' ∧ Li h' h2.objs.size ys.toArray ∧ h'.Ns (h2.objs.size + 1) m' ∧
      KB [I, h2.objs.size, h2.objs.size + 1] h2 h' ∧ J ys.length ys h') ?_ (n + 1) ⟨h₁, _, [], _, rfl, Nat.zero_le _, rfl, hst₁, hacc, hns₁, KB.of old, j0 _ old⟩
    rintro k s' ⟨H, tk, ys, m', rfl, hi, rfl, hst', hacc', hn', kb, hj⟩
    have n1 : @Ne Nat (h2.objs.size + 1) I := by omega
    have n2 : @Ne Nat h2.objs.size I := by omega
    by_cases hlt : ys.length < n
    · refine W.item ys.length _ _ _ hlt hst' fun v h₂ tk₂ hP hst₂ hk₂ => ?_
      have kb₂ : KB [I] H h₂ := hk₂
      refine wpAny_assign_Name (wpAny_storeName_local (lookup_relabel_local hx) (hn'.at' fun o e => kb₂ _ o (ni1 n1) e) (fun h₃ hn₃ hs₃ => ?_) (by simp [compEnvC, relabel, hkind]))
      have kb₃ : KB [h2.objs.size + 1] h₂ h₃ := fun b o nb e => hs₃.extBut b o (fun q => nb (by rw [q]; exact .head _)) e
      refine wpAny_tests_nil ?_
      have hst₃ : St (ys.length + 1) h₃ := W.frame _ _ _ hst₂ fun b hb o e => kb₃ b o (ni1 (fpo b hb).2) e
      have kbA : KB [I, h2.objs.size, h2.objs.size + 1] H h₃ := (kb₂.mono (by intro p hp; simp at hp; simp [hp])).trans (kb₃.mono (by intro p hp; simp at hp; simp [hp]))
      have hacc₃ := (hacc'.kb kb₂ (ni1 n2)).kb kb₃ (ni1 (by show @Ne Nat _ _; omega))
      refine wpAny_mono (turn ys.length v ys h₃ _ _ _ hlt hP rfl (kb.trans kbA) hn₃.lt hacc₃ hst₃ (Jk _ _ _ _ kbA hj) hn₃ (by simp)) (fun y s₄ h₄ => ?_) fun _ _ e => e
      obtain ⟨h₄, k₄, rfl, kp₄, hj₄⟩ := h₄
      refine r_append (hacc₃.keeps kp₄) (by rw [List.size_toArray]; omega) fun h₅ q₅ kb₅ => ?_
      rw [List.push_toArray] at q₅
      have kbB : KB [I, h2.objs.size, h2.objs.size + 1] h₄ h₅ := kb₅.mono (by intro p hp; simp at hp; simp [hp])
      refine ⟨n + 1 - (ys.length + 1), by omega, h₅, _, ys ++ [y], _, rfl, by rw [List.length_append]; exact hlt, by rw [List.length_append]; rfl, ?_, q₅, (hn₃.keeps kp₄).at' fun o e => kb₅ _ o (ni1 (by show @Ne Nat (h2.objs.size + 1) h2.objs.size; omega)) e, (kb.trans kbA).trans ((KB.of kp₄).trans kbB), ?_⟩
      · rw [List.length_append]
        exact W.frame _ _ _ hst₃ fun b hb o e => kb₅ b o (ni1 (fpo b hb).1) (kp₄ b o e)
      · rw [List.length_append]
        exact Jk _ _ _ _ kbB hj₄
    · have hin : ys.length = n := by omega
      refine W.done _ _ _ (hin ▸ hst') fun h₂ tk₂ hk₂ => ?_
      have kb₂ : KB [I] H h₂ := hk₂
      have kbA : KB [I, h2.objs.size, h2.objs.size + 1] H h₂ := kb₂.mono (by intro p hp; simp at hp; simp [hp])
      exact fin h₂ tk₂ ys _ (kb.trans kbA) (hn'.at' fun o e => kb₂ _ o (ni1 n1) e) (hacc'.kb kb₂ (ni1 n2)) (Jk _ _ _ _ kbA (hin ▸ hj))
  exact codeAny_compStart_list loop (W.self 0 _ _ _ hst₁ loop)
theorem comp_as {elt iter : Expr} {x y : Str} {px py : Pos} {scope : Scope} {cl : List (Str × Addr)} {pos spos : Pos} {h2 : Heap} {k2 : Nat} {I : Nat} {fp : List Addr} {n : Nat} {P : Nat → Value → Prop} {St : Nat → Heap → Prop} {Q : Flow → Shared → Prop}
    (hsw : swapsWith (.ListComp elt [⟨.Name x px, iter, [], 0⟩] scope pos) (some (.Name y py)) spos.line (kE L) = pure true)
    (hclos : closureFor scope (kE L) = pure cl) (hcell : ∀ z ∈ scope.names, z.2 ≠ .cell) (hkind : scope.kind = .function)
    (hnames : ∀ z ∈ scope.names, z.2 = .local → scope.names.lookup z.1 = some .local) (hx : scope.names.lookup x = some .local) (hy : (kE L).kindOf y = some .local) (hs : ∀ x, foldedSetIterable iter (kE L) x = pure x)
    (hit : wpAny (model pw w) A (eval iter (kE L)) (fun xv s₁ => wpAny (model pw w) A (pyIter xv) (fun it s₂ => it = .ref I ∧ s₂ = up s h2 k2) E s₁) E (up s hh tk))
    (Φ : Fm w mg mb h₀ L m h2) (hI : @LE.le Nat _ h₀.objs.size I) (hIL : @Ne Nat I L)
    (W : Walks pw w A I fp [I] n P St) (hn : n ≤ 1000) (hst : St 0 h2) (hfp : ∀ b ∈ fp, b < h2.objs.size)
    (J : Nat → List Value → Heap → Prop) (j0 : ∀ h', Keeps h2 h' → J 0 [] h') (Jk : ∀ i ys h h', KB [L, I, h2.objs.size, h2.objs.size + 1] h h' → J i ys h → J i ys h')
    (turn : ∀ i v ys h k mC E', i < n → P i v → ys.length = i → KB [I, h2.objs.size, h2.objs.size + 1] h2 h → h2.objs.size + 1 < h.objs.size → Li h h2.objs.size ys.toArray → St (i + 1) h → J i ys h → h.Ns (h2.objs.size + 1) mC → mC x = some v →
      wpAny (model pw w) A (eval elt (compEnvC scope cl (h2.objs.size + 1) (kE L))) (fun y s' => ∃ h' k', s' = up s h' k' ∧ Keeps h h' ∧ J (i + 1) (ys ++ [y]) h') E' (up s h k))
    (fin : ∀ h' k ys, Fm w mg mb h₀ L (upd m y (.ref h2.objs.size)) h' → KB [L, I] h2 h' → Li h' h2.objs.size ys.toArray → J n ys h' → Q .next (up s h' k)) :
    wpAny (model pw w) A (exec (.Assign [.Name y py] (.ListComp elt [⟨.Name x px, iter, [], 0⟩] scope pos) spos) (kE L)) Q E (up s hh tk) := by
  have oL : @LT.lt Nat _ L h2.objs.size := Φ.lt
  have oI : @LT.lt Nat _ I h2.objs.size := hfp I (W.sub I (List.mem_singleton.mpr rfl))
  have ob : @LE.le Nat _ h₀.objs.size h2.objs.size := Φ.le
  rw [exec_Assign_Name_used _ _ _ _ hsw]
  refine wpAny_bind (wpAny_standAt (wpAny_bind ?_))
  show wpAny _ A (do let _ ← comprehension (.ListComp elt [⟨.Name x px, iter, [], 0⟩] scope pos) scope (kE L) _ (newList []) false (eval iter (kE L)) (some (assign (.Name y py) (kE L)))) _ _ _
  refine wpAny_bind (wpAny_mono (wpAny_comprehension_free (use := some (assign (.Name y py) (kE L))) (Q := fun _ s' => Q .next s') rfl hs hclos hkind hnames
    (wpAny_mono hit (fun xv s₁ h₁ => wpAny_mono h₁ (fun it s₂ h₂ => ?_) fun _ _ e => e) fun _ _ e => e)) (fun _ s' hq => wpAny_pure (wpAny_pure hq)) fun _ _ e => e)
  obtain ⟨rfl, rfl⟩ := h₂
  refine comp_block (RR := fun acc C => compPost (model pw w) A E (some (assign (.Name y py) (kE L))) (fun _ s' => Q .next s') acc C) W hn hcell hkind hx hst hfp J j0
    (fun i ys h h' kb => Jk i ys h h' (kb.mono (by intro p hp; simp only [List.mem_cons] at hp ⊢; exact .inr hp))) turn ?_
  intro h' k ys mC kb hnC hD hj
  show wpAny _ A (assign (.Name y py) (kE L) (.ref h2.objs.size)) _ _ _
  have Φ' : Fm w mg mb h₀ L m h' := Φ.kb kb (by simp only [List.mem_cons, List.not_mem_nil, or_false, not_or]; exact ⟨Ne.symm hIL, Nat.ne_of_lt oL, Nat.ne_of_lt (Nat.lt_succ_of_lt oL)⟩)
    (by intro b hb; simp only [List.mem_cons, List.not_mem_nil, or_false] at hb; rcases hb with rfl | rfl | rfl <;> (show @LE.le Nat _ _ _; omega))
  refine wpAny_assign_Name (x_setB Φ' (fun h₂ Φ₂ kb₂ => ?_) (by rfl) hy)
  have nC : @Ne Nat (h2.objs.size + 1) L := by omega
  refine ⟨mC, hnC.at' fun o e => kb₂ _ o (ni1 nC) e, fun h₃ hs₃ => ?_⟩
  have kb₃ : KB [h2.objs.size + 1] h₂ h₃ := fun b o nb e => hs₃.extBut b o (fun q => nb (by rw [q]; exact .head _)) e
  have kbE : KB [L, I, h2.objs.size, h2.objs.size + 1] h' h₃ := (kb₂.mono (by intro p hp; simp at hp; simp [hp])).trans (kb₃.mono (by intro p hp; simp at hp; simp [hp]))
  refine fin h₃ _ ys (Φ₂.kb kb₃ (ni1 (Ne.symm nC)) (by intro b hb; obtain rfl := List.mem_singleton.mp hb; show @LE.le Nat _ _ _; omega)) ?_ ((hD.kb kb₂ (ni1 (by show @Ne Nat _ _; omega))).kb kb₃ (ni1 (by show @Ne Nat _ _; omega))) (Jk _ _ _ _ kbE hj)
  have kbF : KB [I, h2.objs.size, h2.objs.size + 1, L, h2.objs.size + 1] h2 h₃ := (kb.mono (by intro p hp; simp at hp; rcases hp with rfl | rfl | rfl <;> simp)).trans ((kb₂.mono (by intro p hp; simp at hp; simp [hp])).trans (kb₃.mono (by intro p hp; simp at hp; simp [hp])))
  refine kbF.drop fun b hb => ?_
  simp only [List.mem_cons, List.not_mem_nil, or_false] at hb
  rcases hb with rfl | rfl | rfl | rfl | rfl
  · exact .inl (.tail _ (.head _))
  · exact .inr (Nat.le_refl _)
  · exact .inr (Nat.le_succ _)
  · exact .inl (.head _)
  · exact .inr (Nat.le_succ _)
end
noncomputable abbrev tb0 (led : Bool) : SetTable := .fresh 0 0 led
noncomputable abbrev tb1 (led : Bool) : SetTable := { mask := 7, place := #[1], dummies := #[], finger := 0, led := led, moves := 0, plain := true }
theorem tb_lay (led : Bool) : layNew (tb0 led) #[] 1 (.bool true) = (#[(1, .bool true)], tb1 led, false, false) := by cases led <;> decide +kernel
noncomputable abbrev so0 (led : Bool) : Obj := { cls := .type "set", dict := none, data := .set #[] 0 (tb0 led) }
noncomputable abbrev so1 (ep : Nat) (led : Bool) : Obj := { cls := .type "set", dict := none, data := .set #[(1, .bool true)] ep (tb1 led) }
section
variable {A : Around} {E : Value → Shared → Prop} {s : Shared} {hh : Heap} {tk : Nat} {env : Env}
variable {w : World}
theorem hash_true {Q : Int → Shared → Prop} (h : ∀ k, Q 1 (up s hh k)) : wpAny (model pw w) A (pyHash (.bool true)) Q E (up s hh tk) := by
  have hT : (up s hh tk).TypeIs (.bool true) "bool" := rfl
  unfold pyHash pyHashByItsType
  refine wpAny_bind ?_
  rw [cRoomFor, if_neg (by rw [show [Value.bool true].any Value.onHeap = false from rfl]; exact Bool.false_ne_true)]
  refine wpAny_pure ?_
  refine wpAny_bind (wpAny_specialOf hT F.slot_bool_hash.lookup ?_)
  show wpAny _ _ (if (some (Value.builtin "int.__hash__") == some Value.none) = true then _ else _) Q E _
  rw [if_neg (by rw [beq_builtin_none]; exact Bool.false_ne_true)]
  refine wpAny_bind (wpAny_specialOf hT F.slot_bool_hash.lookup ?_)
  show wpAny _ _ (callSpecialIfBoundUnlessNone? (.bool true) "__hash__" _ >>= _) Q E _
  refine wpAny_bind (wpAny_callSpecialIfBoundUnlessNone?_slot hT F.slot_bool_hash
    (wpAny_call_entry F.slot_bool_hash hT entry_int_hash ?_ (args_int_hash _)))
  repeat lk
  refine ⟨_, rfl, ?_⟩
  show wpAny _ _ (if (decide (-(2 : Int) ^ 63 ≤ 1) && decide ((1 : Int) < 2 ^ 63)) = true then pure (if ((1 : Int) == -1) = true then -2 else 1) else _) _ _ _
  rw [if_pos (by decide)]
  exact wpAny_pure (h _)
theorem add_new {D : Addr} {led : Bool} {Q : Value → Shared → Prop} (hD : hh.get? D = some (so0 led)) (h : ∀ h' k ep, KB [D] hh h' → h'.get? D = some (so1 ep led) → Q .none (up s h' k)) :
    wpAny (model pw w) A (call (.builtin "set.add") [.ref D, .bool true]) Q E (up s hh tk) := by
  refine wpAny_call_entry F.slot_set_add (s := up s hh tk) ⟨_, hD, rfl⟩ F.entry_set_add ?_ (F.args_set_add_2 _ _)
  unfold Builtin.«set.add» Builtin.Frozenset.oneOther
  simp only [List.isEmpty_nil, bind_assoc]
  unfold Builtin.Frozenset.addrOf setAdd
  refine wpAny_bind (wpAny_pure ?_)
  try dsimp only
  refine wpAny_bind (wpAny_pure ?_)
  try dsimp only
  refine wpAny_bind ?_
  refine wpAny_holding ?_
  refine wpAny_bind (hash_true fun k => ?_)
  unfold setAddHashed setAddHashedIn
  refine wpAny_holding ?_
  unfold setState
  repeat lk
  rw [if_pos (by decide +kernel)]
  unfold setAddByScan setScan setScanFrom
  repeat lk
  have e1 := Heap.get?_update_self (Obj.putSet #[(1, Value.bool true)] (tb1 led)) hD rfl
  rw [tb_lay]
  show wpAny _ _ (updatePart D none (Obj.putSet #[(1, Value.bool true)] (tb1 led))) _ _ _
  refine wpAny_updatePart hD ?_
  repeat lk
  exact ⟨_, rfl, h _ k _ (fun b o nb e => (Heap.get?_update_other _ _ (fun q => nb (by rw [q]; exact .head _))).trans e) e1⟩
theorem add_old {D : Addr} {led : Bool} {ep : Nat} {Q : Value → Shared → Prop} (hD : hh.get? D = some (so1 ep led)) (h : ∀ k, Q .none (up s hh k)) :
    wpAny (model pw w) A (call (.builtin "set.add") [.ref D, .bool true]) Q E (up s hh tk) := by
  refine wpAny_call_entry F.slot_set_add (s := up s hh tk) ⟨_, hD, rfl⟩ F.entry_set_add ?_ (F.args_set_add_2 _ _)
  unfold Builtin.«set.add» Builtin.Frozenset.oneOther
  simp only [List.isEmpty_nil, bind_assoc]
  unfold Builtin.Frozenset.addrOf setAdd
  refine wpAny_bind (wpAny_pure ?_)
  try dsimp only
  refine wpAny_bind (wpAny_pure ?_)
  try dsimp only
  refine wpAny_bind ?_
  refine wpAny_holding ?_
  refine wpAny_bind (hash_true fun k => ?_)
  unfold setAddHashed setAddHashedIn
  refine wpAny_holding ?_
  unfold setState
  repeat lk
  rw [if_pos (by decide +kernel)]
  unfold setAddByScan setScan setScanFrom
  refine wpAny_bind (wpAny_bind (wpAny_rule (wpAny_bind ?_)))
  show wpAny _ _ (if ((1 : Int) == 1) = true then _ else _) _ _ _
  rw [if_pos (by decide)]
  unfold setEpoch setState
  repeat first | ((with_reducible show wpAny _ _ (eqBool _ _) _ _ _); refine EqAt.bool_bool true true _ _ _ _ ?_) | lk
  exact ⟨_, rfl, h _⟩
noncomputable abbrev siO (D : Addr) (first i : Int) (src : Value) (ep : Nat) : Obj := ⟨.type "set_iterator", none, .fields #[rawInt first, rawInt i, src, rawInt 1, rawInt ep], #[]⟩
theorem si_slot_next : Slot "set_iterator" "__next__" "set_iterator.__next__" :=
  .of (owner := "set_iterator") (n := "__next__") (by rw [typeLookup_type, builtinLookup_eq_fast]; kernel_rfl) (by decide +kernel) (by decide +kernel) (by decide +kernel)
    (by first | exact .inl (by decide +kernel) | exact .inr (by decide +kernel)) (by rw [isSubtype_type]; kernel_rfl)
theorem si_entry_next : entryFor table "set_iterator.__next__" = some Builtin.«set_iterator.__next__» := entryFor_of_tree (by kernel_rfl)
theorem si_args_next (a : Value) : argsOk "set_iterator.__next__" ⟨[a], []⟩ := by unfold argsOk; kernel_rfl
theorem si_entry_iter : entryFor table "set.__iter__" = some Builtin.«frozenset.__iter__» := entryFor_alias (id' := "frozenset.__iter__") (by kernel_rfl) rfl (by decide +kernel) (by kernel_rfl)
theorem iter_set {D : Addr} {ep : Nat} {Q : Value → Shared → Prop} (hD : hh.get? D = some (so1 ep (!w.params.followText "set-order")))
    (h : Q (.ref hh.objs.size) (up s (hh.push (siO D 0 0 (.ref D) ep)) tk)) : wpAny (model pw w) A (pyIter (.ref D)) Q E (up s hh tk) := by
  have hT : (up s hh tk).TypeIs (.ref D) "set" := ⟨_, hD, rfl⟩
  refine wpAny_pyIter_slot hT F.slot_set_iter (wpAny_call_entry F.slot_set_iter hT si_entry_iter ?_ (F.args_set_iter_1 _))
  unfold Builtin.«frozenset.__iter__» Builtin.Frozenset.slot0 slotArgs
  repeat lk
  rw [if_neg (by cases (model pw w).w.params.followText "set-order" <;> (intro q; cases q))]
  unfold setEpoch
  repeat lk
  exact ⟨_, rfl, "set_iterator", _, ⟨_, Heap.get?_push_size _ rfl, rfl⟩, si_slot_next.lookup, h⟩
theorem pick_one {α : Type} (f : Nat → Nat) (a : α) : pickOrder f #[a] = #[a] := by
  unfold pickOrder
  show pickOrder.go f 1 0 [a] #[] = _
  unfold pickOrder.go
  have e : f 0 % [a].length = 0 := Nat.mod_one _
  rw [e]
  rfl
theorem next_set {D I : Addr} {ep : Nat} {Q : Option Value → Shared → Prop} (hD : hh.get? D = some (so1 ep (!w.params.followText "set-order"))) (hI : hh.get? I = some (siO D 0 0 (.ref D) ep)) (n : D ≠ I)
    (h : ∀ h' nx, KB [I] hh h' → h'.get? I = some (siO D nx 1 (.ref D) ep) → (w.params.followText "set-order" = false → nx = 2) → Q (some (.bool true)) (up s h' tk)) : wpAny (model pw w) A (pyNext (.ref I)) Q E (up s hh tk) := by
  have hT : (up s hh tk).TypeIs (.ref I) "set_iterator" := ⟨_, hI, rfl⟩
  unfold pyNext
  refine wpAny_bind (wpAny_attempt (wpAny_callSpecial?_slot (name := Str.ofString "__next__") hT si_slot_next
    (wpAny_call_entry si_slot_next hT si_entry_next ?_ (si_args_next _))))
  unfold Builtin.«set_iterator.__next__» slotArgs
  repeat lk
  by_cases hb : w.params.followText "set-order" = true
  · rw [if_pos (show (model pw w).w.params.followText "set-order" = true from hb)]
    rw [if_neg (by simp)]
    unfold setWalk setState
    repeat lk
    rw [if_pos (show (model pw w).w.params.followText "set-order" = true from hb)]
    repeat lk
    rw [pick_one]
    repeat lk
    have e1 := Heap.get?_update_self (Obj.mapFields fun x => x.setIfInBounds 0 (rawInt 0)) hI rfl
    refine wpAny_update (s := up s hh tk) hI ?_
    repeat lk
    have e2 := Heap.get?_update_self (Obj.mapFields fun x => x.setIfInBounds 1 (rawInt 1)) e1 rfl
    refine wpAny_update (s := up s _ tk) e1 ?_
    repeat lk
    have kb2 : KB [I] hh ((hh.update I (Obj.mapFields fun x => x.setIfInBounds 0 (rawInt 0))).update I (Obj.mapFields fun x => x.setIfInBounds 1 (rawInt 1))) := fun b o nb e =>
      (Heap.get?_update_other _ _ (fun q => nb (by rw [q]; exact .head _))).trans ((Heap.get?_update_other _ _ (fun q => nb (by rw [q]; exact .head _))).trans e)
    exact ⟨_, rfl, wpAny_pure (h _ 0 kb2 e2 fun q => absurd (q ▸ hb) (by decide))⟩
  · have hb' : w.params.followText "set-order" = false := by simpa using hb
    rw [if_neg (show ¬ (model pw w).w.params.followText "set-order" = true from hb)]
    rw [if_neg (by intro q; cases q)]
    rw [hb']
    repeat lk
    have e1 := Heap.get?_update_self (Obj.mapFields fun x => x.setIfInBounds 0 (rawInt 2)) hI rfl
    refine wpAny_update (s := up s hh tk) hI ?_
    repeat lk
    have e2 := Heap.get?_update_self (Obj.mapFields fun x => x.setIfInBounds 1 (rawInt 1)) e1 rfl
    refine wpAny_update (s := up s _ tk) e1 ?_
    repeat lk
    have kb2 : KB [I] hh ((hh.update I (Obj.mapFields fun x => x.setIfInBounds 0 (rawInt 2))).update I (Obj.mapFields fun x => x.setIfInBounds 1 (rawInt 1))) := fun b o nb e =>
      (Heap.get?_update_other _ _ (fun q => nb (by rw [q]; exact .head _))).trans ((Heap.get?_update_other _ _ (fun q => nb (by rw [q]; exact .head _))).trans e)
    exact ⟨_, rfl, wpAny_pure (h _ 2 kb2 e2 fun _ => rfl)⟩
theorem end_set {D I : Addr} {ep : Nat} {nx : Int} {Q : Option Value → Shared → Prop} (hA : A.handled = none) (hD : hh.get? D = some (so1 ep (!w.params.followText "set-order"))) (hI : hh.get? I = some (siO D nx 1 (.ref D) ep)) (n : D ≠ I)
    (hn : w.params.followText "set-order" = false → nx = 2) (h : ∀ h', KB [I] hh h' → Q none (up s h' tk)) : wpAny (model pw w) A (pyNext (.ref I)) Q E (up s hh tk) := by
  have hT : (up s hh tk).TypeIs (.ref I) "set_iterator" := ⟨_, hI, rfl⟩
  unfold pyNext
  refine wpAny_bind (wpAny_attempt (wpAny_callSpecial?_slot (name := Str.ofString "__next__") hT si_slot_next
    (wpAny_call_entry si_slot_next hT si_entry_next ?_ (si_args_next _))))
  unfold Builtin.«set_iterator.__next__» slotArgs
  repeat lk
  by_cases hb : w.params.followText "set-order" = true
  · rw [if_pos (show (model pw w).w.params.followText "set-order" = true from hb)]
    rw [if_neg (by simp)]
    unfold setWalk setState
    repeat lk
    rw [if_pos (show (model pw w).w.params.followText "set-order" = true from hb)]
    repeat lk
    rw [pick_one]
    repeat lk
    refine wpAny_update (s := up s hh tk) hI ?_
    repeat lk
    refine wpAny_handled ?_
    rw [show A.in1.handled = none from hA]
    repeat lk
    refine wpAny_throw ?_
    refine wpAny_bind (wpAny_isInstance (T := "StopIteration") (b := true) ⟨_, Heap.get?_push_size _ rfl, rfl⟩ isSubtype_stop ?_)
    exact wpAny_pure (h _ fun b o nb e => Heap.get?_push_of_some _ (Heap.get?_push_of_some _ ((Heap.get?_update_other _ _ (fun q => nb (by rw [q]; exact .head _))).trans e)))
  · have hb' : w.params.followText "set-order" = false := by simpa using hb
    rw [if_neg (show ¬ (model pw w).w.params.followText "set-order" = true from hb)]
    rw [if_neg (by intro q; cases q)]
    rw [hb']
    obtain rfl := hn hb'
    repeat lk
    refine wpAny_update (s := up s hh tk) hI ?_
    repeat lk
    refine wpAny_handled ?_
    rw [show A.in1.handled = none from hA]
    repeat lk
    refine wpAny_throw ?_
    refine wpAny_bind (wpAny_isInstance (T := "StopIteration") (b := true) ⟨_, Heap.get?_push_size _ rfl, rfl⟩ isSubtype_stop ?_)
    exact wpAny_pure (h _ fun b o nb e => Heap.get?_push_of_some _ (Heap.get?_push_of_some _ ((Heap.get?_update_other _ _ (fun q => nb (by rw [q]; exact .head _))).trans e)))
end
theorem turn_set (elt target iter : Expr) (scope : Scope) (pos : Pos) (it acc : Value) (env : Env) :
    compTurn (.SetComp elt [⟨target, iter, [], 0⟩] scope pos) 0 it acc env = (standAt iter.pos >>= fun _ => pyNext it >>= fun r => match r with
      | none => pure (.done .next)
      | some v => letOwnedTupleGo target it v >>= fun _ => assign target env v >>= fun _ =>
        (eval elt env >>= fun x => standAt elt.pos >>= fun _ => call (.builtin "set.add") [acc, x] >>= fun _ => pure ()) >>= fun _ =>
          again (.compLoop (.SetComp elt [⟨target, iter, [], 0⟩] scope pos) 0 it acc env)) := by rfl
section
variable {A : Around} {E : Value → Shared → Prop} {s : Shared} {hh : Heap} {tk : Nat} {env : Env}
variable {w : World} {mg mb : Str → Option Value} {m : Str → Option Value} {h₀ : Heap} {L : Nat}
theorem loop_set {elt target iter : Expr} {scope : Scope} {pos : Pos} {it acc : Value} {env : Env} {R : Result → Shared → Prop} {s : Shared} (I : Nat → Shared → Prop)
    (turn : ∀ n s, I n s → wpAny (model pw w) A (pyNext it) (fun r s₁ => match r with
      | none => R (.ok .next) s₁
      | some v => wpAny (model pw w) A (assign target env v) (fun _ s₂ => wpAny (model pw w) A (eval elt env) (fun x s₃ =>
          wpAny (model pw w) A (call (.builtin "set.add") [acc, x]) (fun _ s₄ => ∃ m, m < n ∧ I m s₄) (notedBy (model pw w) A env fun e s' => R (.error e) s') s₃)
          (notedBy (model pw w) A env fun e s' => R (.error e) s') s₂) (notedBy (model pw w) A env fun e s' => R (.error e) s') s₁) (notedBy (model pw w) A env fun e s' => R (.error e) s') s)
    (n : Nat) (h : I n s) (ht : ∀ v, letOwnedTupleGo target it v = pure () := by intro _; rfl) :
    codeAny (model pw w) A (.compLoop (.SetComp elt [⟨target, iter, [], 0⟩] scope pos) 0 it acc env) R s := by
  refine codeAny_loop rfl I (fun n s hI => ?_) n h
  show wpAny _ A ((compTurn (.SetComp elt [⟨target, iter, [], 0⟩] scope pos) 0 it acc env).onRaise (fun x => do noteFrame x env; theTreesLotGoes x)) _ _ s
  refine wpAny_noted ?_
  rw [turn_set]
  refine wpAny_bind (wpAny_standAt (wpAny_bind (wpAny_mono (turn n s hI) (fun r s₁ h₁ => ?_) fun _ _ h' => h')))
  cases r with
  | none => exact wpAny_pure h₁
  | some v =>
    refine wpAny_bind (wpAny_of_eq (ht v) ?_)
    exact wpAny_bind (wpAny_mono h₁ (fun _ s₂ h₂ => wpAny_bind (wpAny_bind (wpAny_mono h₂ (fun x s₃ h₃ => wpAny_bind (wpAny_standAt (wpAny_bind (wpAny_mono h₃
      (fun _ s₄ h₄ => wpAny_pure (wpAny_pure ⟨rfl, h₄⟩)) fun _ _ h' => h')))) fun _ _ h' => h'))) fun _ _ h' => h')
theorem start_set {elt target iter : Expr} {ifs : List Expr} {rest : List Comprehension} {scope : Scope} {pos : Pos} {it acc : Value} {env : Env} {R : Result → Shared → Prop} {s : Shared}
    (h0 : codeAny (model pw w) A (.compLoop (.SetComp elt (⟨target, iter, ifs, 0⟩ :: rest) scope pos) 0 it acc env) R s)
    (h : wpAny (model pw w) A (pyIter it) (fun it' s' => codeAny (model pw w) A (.compLoop (.SetComp elt (⟨target, iter, ifs, 0⟩ :: rest) scope pos) 0 it' acc env) R s')
      (notedBy (model pw w) A env fun x s' => R (.error x) s') s) :
    codeAny (model pw w) A (.compStart (.SetComp elt (⟨target, iter, ifs, 0⟩ :: rest) scope pos) 0 it acc env) R s := by
  refine codeAny_of_tree ?_
  show wpAny _ _ ((compStart (.SetComp elt (⟨target, iter, ifs, 0⟩ :: rest) scope pos) 0 it acc env).onRaise (fun x => do noteFrame x env; standAt theWindowsPlace)) _ _ s
  refine wpAny_notedAt ?_
  unfold compStart
  show wpAny _ _ (ask >>= _) _ _ s
  refine wpAny_bind (wpAny_askSetting (wpAny_ite ?_))
  split
  · first
      | exact wpAny_bind (wpAny_pure (wpAny_pure (And.intro rfl h0)))
      | exact wpAny_pure (And.intro rfl h0)
  · first
      | exact wpAny_bind (wpAny_rule (wpAny_bind (wpAny_standAt (wpAny_bind (wpAny_mono h (fun it' s' h' => wpAny_pure (And.intro rfl h')) fun _ _ x => x)))))
      | (refine wpAny_bind (wpAny_rule ?_); show wpAny _ _ (standAt iter.pos >>= _) _ _ s; exact wpAny_bind (wpAny_standAt (wpAny_bind (wpAny_mono h (fun it' s' h' => wpAny_pure (And.intro rfl h')) fun _ _ x => x))))
theorem new_set {Q : Value → Shared → Prop} (h : Q (.ref hh.objs.size) (up s (hh.push (so0 (!w.params.followText "set-order"))) tk)) : wpAny (model pw w) A (newSet (.type "set")) Q E (up s hh tk) := by
  unfold newSet
  repeat lk
  exact h
theorem unpack_set {D : Addr} {ep : Nat} {Q : List Value → Shared → Prop} (hA : A.handled = none) (hD : hh.get? D = some (so1 ep (!w.params.followText "set-order"))) (h : ∀ h', Keeps hh h' → Q [.bool true] (up s h' tk)) :
    wpAny (model pw w) A (unpackItems (.ref D) 1 none) Q E (up s hh tk) := by
  have hT : (up s hh tk).TypeIs (.ref D) "set" := ⟨_, hD, rfl⟩
  have nD : D ≠ hh.objs.size := Nat.ne_of_lt (Heap.lt_size hD)
  unfold unpackItems
  refine wpAny_bind ?_
  unfold notIterableAtAll
  refine wpAny_bind (wpAny_specialOf hT F.slot_set_iter.lookup ?_)
  refine wpAny_pure ?_
  rw [if_neg (by intro q; cases q)]
  refine wpAny_bind (wpAny_holding (iter_set hD ?_))
  refine wpAny_bind (wpAny_holding ?_)
  unfold draw
  refine wpAny_bind (next_set (Heap.get?_push_of_some _ hD) (Heap.get?_push_size _ rfl) nD fun h1 nx kb1 e1 hn => ?_)
  refine wpAny_bind (wpAny_holding ?_)
  unfold draw
  refine wpAny_pure (wpAny_pure ?_)
  rw [if_neg (by decide)]
  have hD1 : h1.get? D = some (so1 ep (!w.params.followText "set-order")) := kb1 _ _ (ni1 nD) (Heap.get?_push_of_some _ hD)
  refine wpAny_bind (wpAny_holding (end_set hA hD1 e1 nD hn fun h2 kb2 => ?_))
  rw [if_neg (by intro q; cases q)]
  refine wpAny_pure (h h2 fun b o e => ?_)
  have nb : b ≠ hh.objs.size := Nat.ne_of_lt (Heap.lt_size e)
  exact kb2 _ _ (ni1 nb) (kb1 _ _ (ni1 nb) (Heap.get?_push_of_some _ e))
theorem set_block {elt iter : Expr} {x : Str} {px : Pos} {scope : Scope} {cl : List (Str × Addr)} {pos : Pos} {h2 : Heap} {k2 : Nat} {I : Nat} {fp : List Addr} {n : Nat} {P : Nat → Value → Prop} {St : Nat → Heap → Prop} {RR : Value → Addr → Result → Shared → Prop}
    (W : Walks pw w A I fp [I] n P St) (hn : 0 < n) (hcell : ∀ y ∈ scope.names, y.2 ≠ .cell) (hkind : scope.kind = .function) (hx : scope.names.lookup x = some .local) (hst : St 0 h2) (hfp : ∀ b ∈ fp, b < h2.objs.size)
    (turn : ∀ i v h k mC E', i < n → P i v → KB [I, h2.objs.size, h2.objs.size + 1] h2 h → h.Ns (h2.objs.size + 1) mC → mC x = some v →
      wpAny (model pw w) A (eval elt (compEnvC scope cl (h2.objs.size + 1) env)) (fun y s' => y = .bool true ∧ ∃ h' k', s' = up s h' k' ∧ Keeps h h') E' (up s h k))
    (fin : ∀ h' k ep mC, KB [I, h2.objs.size, h2.objs.size + 1] h2 h' → h'.Ns (h2.objs.size + 1) mC → h'.get? h2.objs.size = some (so1 ep (!w.params.followText "set-order")) → RR (.ref h2.objs.size) (h2.objs.size + 1) (.ok .next) (up s h' k)) :
    wpAny (model pw w) A (newSet (.type "set")) (fun acc s₃ => wpAny (model pw w) A (newFunctionEnv scope env.globals cl [] env.qual none .none (some env)) (fun cenv s₄ =>
      codeAny (model pw w) A (.compStart (.SetComp elt [⟨.Name x px, iter, [], 0⟩] scope pos) 0 (.ref I) acc { cenv with scope := relabel scope env }) (RR acc cenv.locals) s₄) E s₃) E (up s h2 k2) := by
  refine new_set ?_
  refine wpAny_newFunctionEnv hcell (by intro y hy; simp at hy) (fun h₁ hns₁ hsb₁ => ?_) hkind
  dsimp only at hns₁ hsb₁ ⊢
  generalize hH2 : h2.push (so0 (!w.params.followText "set-order")) = H2 at hns₁ hsb₁ ⊢
  have hC : H2.objs.size = h2.objs.size + 1 := by rw [← hH2, Heap.size_push]
  rw [hC] at hns₁ hsb₁ ⊢
  have IL : @LT.lt Nat _ I h2.objs.size := hfp I (W.sub I (List.mem_singleton.mpr rfl))
  have old : Keeps h2 h₁ := fun b o e => hsb₁.extBut b o (by have : @LT.lt Nat _ b h2.objs.size := Heap.lt_size e; show @Ne Nat _ _; omega) (Heap.get?_push_of_some _ (hH2 ▸ Heap.get?_push_of_some _ e))
  have hacc : h₁.get? h2.objs.size = some (so0 (!w.params.followText "set-order")) := hsb₁.extBut _ _ (by show @Ne Nat _ _; omega) (Heap.get?_push_of_some _ (hH2 ▸ Heap.get?_push_size _ rfl))
  have hst₁ : St 0 h₁ := W.frame _ _ _ hst fun b _ o e => old b o e
  have fpo : ∀ b ∈ fp, @Ne Nat b h2.objs.size ∧ @Ne Nat b (h2.objs.size + 1) := fun b hb => by
    have : @LT.lt Nat _ b h2.objs.size := hfp b hb
    exact ⟨by omega, by omega⟩
  have loop : codeAny (model pw w) A (.compLoop (.SetComp elt [⟨.Name x px, iter, [], 0⟩] scope pos) 0 (.ref I) (.ref h2.objs.size) (compEnvC scope cl (h2.objs.size + 1) env)) (RR (.ref h2.objs.size) (h2.objs.size + 1)) (up s h₁ (k2 + ([] : List (Str × Value)).length)) := by
    refine loop_set (fun k s' => ∃ h' tk i m', s' = up s h' tk ∧ i ≤ n ∧ k = n + 1 - i ∧ St i h' ∧ (if i = 0 then h'.get? h2.objs.size = some (so0 (!w.params.followText "set-order")) else ∃ ep, h'.get? h2.objs.size = some (so1 ep (!w.params.followText "set-order"))) ∧ h'.Ns (h2.objs.size + 1) m' ∧
      KB [I, h2.objs.size, h2.objs.size + 1] h2 h') ?_ (n + 1) ⟨h₁, _, 0, _, rfl, Nat.zero_le _, rfl, hst₁, hacc, hns₁, KB.of old⟩
    rintro k s' ⟨H, tk, i, m', rfl, hi, rfl, hst', hacc', hn', kb⟩
    have n1 : @Ne Nat (h2.objs.size + 1) I := by omega
    have n2 : @Ne Nat h2.objs.size I := by omega
    by_cases hlt : i < n
    · refine W.item i _ _ _ hlt hst' fun v h₂ tk₂ hP hst₂ hk₂ => ?_
      have kb₂ : KB [I] H h₂ := hk₂
      refine wpAny_assign_Name (wpAny_storeName_local (lookup_relabel_local hx) (hn'.at' fun o e => kb₂ _ o (ni1 n1) e) (fun h₃ hn₃ hs₃ => ?_) (by simp [compEnvC, relabel, hkind]))
      have kb₃ : KB [h2.objs.size + 1] h₂ h₃ := fun b o nb e => hs₃.extBut b o (fun q => nb (by rw [q]; exact .head _)) e
      have hst₃ : St (i + 1) h₃ := W.frame _ _ _ hst₂ fun b hb o e => kb₃ b o (ni1 (fpo b hb).2) e
      have kbA : KB [I, h2.objs.size, h2.objs.size + 1] H h₃ := (kb₂.mono (by intro p hp; simp at hp; simp [hp])).trans (kb₃.mono (by intro p hp; simp at hp; simp [hp]))
      refine wpAny_mono (turn i v h₃ _ _ _ hlt hP (kb.trans kbA) hn₃ (by simp)) (fun y s₄ h₄ => ?_) fun _ _ e => e
      obtain ⟨rfl, h₄, k₄, rfl, kp₄⟩ := h₄
      have up4 : ∀ o, H.get? h2.objs.size = some o → h₄.get? h2.objs.size = some o := fun o e => kp₄ _ _ (kb₃ _ _ (ni1 (by show @Ne Nat _ _; omega)) (kb₂ _ _ (ni1 n2) e))
      have next : ∀ h₅ k₅ ep, KB [h2.objs.size] h₄ h₅ → h₅.get? h2.objs.size = some (so1 ep (!w.params.followText "set-order")) → ∃ q, q < n + 1 - i ∧ ∃ h' tk i m', up s h₅ k₅ = up s h' tk ∧ i ≤ n ∧ q = n + 1 - i ∧ St i h' ∧
          (if i = 0 then h'.get? h2.objs.size = some (so0 (!w.params.followText "set-order")) else ∃ ep, h'.get? h2.objs.size = some (so1 ep (!w.params.followText "set-order"))) ∧ h'.Ns (h2.objs.size + 1) m' ∧ KB [I, h2.objs.size, h2.objs.size + 1] h2 h' := by
        intro h₅ k₅ ep kb₅ e5
        have kbB : KB [I, h2.objs.size, h2.objs.size + 1] h₄ h₅ := kb₅.mono (by intro p hp; simp at hp; simp [hp])
        exact ⟨n + 1 - (i + 1), by omega, h₅, k₅, i + 1, _, rfl, hlt, rfl, W.frame _ _ _ hst₃ fun b hb o e => kb₅ b o (ni1 (fpo b hb).1) (kp₄ b o e), by rw [if_neg (Nat.succ_ne_zero i)]; exact ⟨ep, e5⟩,
          (hn₃.keeps kp₄).at' fun o e => kb₅ _ o (ni1 (by show @Ne Nat (h2.objs.size + 1) h2.objs.size; omega)) e, (kb.trans kbA).trans ((KB.of kp₄).trans kbB)⟩
      by_cases h0 : i = 0
      · rw [if_pos h0] at hacc'
        exact add_new (up4 _ hacc') fun h₅ k₅ ep kb₅ e5 => next h₅ k₅ ep kb₅ e5
      · rw [if_neg h0] at hacc'
        obtain ⟨ep, hacc'⟩ := hacc'
        exact add_old (up4 _ hacc') fun k₅ => next h₄ k₅ ep (KB.refl _) (up4 _ hacc')
    · have hin : i = n := by omega
      subst hin
      refine W.done _ _ _ hst' fun h₂ tk₂ hk₂ => ?_
      have kb₂ : KB [I] H h₂ := hk₂
      have kbA : KB [I, h2.objs.size, h2.objs.size + 1] H h₂ := kb₂.mono (by intro p hp; simp at hp; simp [hp])
      rw [if_neg (by walk_at "x2")] at hacc'
      obtain ⟨ep, hacc'⟩ := hacc'
      exact fin h₂ tk₂ ep _ (kb.trans kbA) (hn'.at' fun o e => kb₂ _ o (ni1 n1) e) (kb₂ _ _ (ni1 n2) hacc')
  exact start_set loop (W.self 0 _ _ _ hst₁ loop)
end
section
variable {A : Around} {E : Value → Shared → Prop} {s : Shared} {hh : Heap} {tk : Nat} {env : Env}
variable {w : World} {mg mb : Str → Option Value} {m : Str → Option Value} {h₀ : Heap} {L : Nat}
theorem set_as {elt iter : Expr} {x y : Str} {px py pt : Pos} {k1 : Nat} {scope : Scope} {cl : List (Str × Addr)} {pos spos : Pos} {h2 : Heap} {k2 : Nat} {I : Nat} {fp : List Addr} {n : Nat} {P : Nat → Value → Prop} {St : Nat → Heap → Prop} {Q : Flow → Shared → Prop}
    (hA : A.handled = none) (hclos : closureFor scope (kE L) = pure cl) (hcell : ∀ z ∈ scope.names, z.2 ≠ .cell) (hkind : scope.kind = .function)
    (hnames : ∀ z ∈ scope.names, z.2 = .local → scope.names.lookup z.1 = some .local) (hx : scope.names.lookup x = some .local) (hy : (kE L).kindOf y = some .local) (hs : ∀ x, foldedSetIterable iter (kE L) x = pure x)
    (hit : wpAny (model pw w) A (eval iter (kE L)) (fun xv s₁ => wpAny (model pw w) A (pyIter xv) (fun it s₂ => it = .ref I ∧ s₂ = up s h2 k2) E s₁) E (up s hh tk))
    (Φ : Fm w mg mb h₀ L m h2) (hI : @LE.le Nat _ h₀.objs.size I) (hIL : @Ne Nat I L)
    (W : Walks pw w A I fp [I] n P St) (hn : 0 < n) (hst : St 0 h2) (hfp : ∀ b ∈ fp, b < h2.objs.size)
    (turn : ∀ i v h k mC E', i < n → P i v → KB [I, h2.objs.size, h2.objs.size + 1] h2 h → h.Ns (h2.objs.size + 1) mC → mC x = some v →
      wpAny (model pw w) A (eval elt (compEnvC scope cl (h2.objs.size + 1) (kE L))) (fun y s' => y = .bool true ∧ ∃ h' k', s' = up s h' k' ∧ Keeps h h') E' (up s h k))
    (fin : ∀ h' k, Fm w mg mb h₀ L (upd m y (.bool true)) h' → KB [L, I] h2 h' → Q .next (up s h' k)) :
    wpAny (model pw w) A (exec (.Assign [.Tuple [.Name y py] k1 pt] (.SetComp elt [⟨.Name x px, iter, [], 0⟩] scope pos) spos) (kE L)) Q E (up s hh tk) := by
  have oL : @LT.lt Nat _ L h2.objs.size := Φ.lt
  have oI : @LT.lt Nat _ I h2.objs.size := hfp I (W.sub I (List.mem_singleton.mpr rfl))
  have ob : @LE.le Nat _ h₀.objs.size h2.objs.size := Φ.le
  refine wpAny_Assign_stores ?_ (by rfl) (by rfl)
  rw [arm_eval_SetComp]
  refine wpAny_comprehension_free (use := none) rfl hs hclos hkind hnames (wpAny_mono hit (fun xv s₁ h₁ => wpAny_mono h₁ (fun it s₂ h₂ => ?_) fun _ _ e => e) fun _ _ e => e)
  obtain ⟨rfl, rfl⟩ := h₂
  refine set_block (RR := fun acc C => compPost (model pw w) A E none _ acc C) W hn hcell hkind hx hst hfp turn ?_
  intro h' k ep mC kb hnC hD
  refine ⟨mC, hnC, fun h₃ hs₃ => ?_⟩
  have kb₃ : KB [h2.objs.size + 1] h' h₃ := fun b o nb e => hs₃.extBut b o (fun q => nb (by rw [q]; exact .head _)) e
  have kbE : KB [I, h2.objs.size, h2.objs.size + 1] h2 h₃ := kb.trans (kb₃.mono (by intro p hp; simp at hp; simp [hp]))
  have Φ₃ : Fm w mg mb h₀ L m h₃ := Φ.kb kbE (by simp only [List.mem_cons, List.not_mem_nil, or_false, not_or]; exact ⟨Ne.symm hIL, Nat.ne_of_lt oL, Nat.ne_of_lt (Nat.lt_succ_of_lt oL)⟩)
    (by intro b hb; simp only [List.mem_cons, List.not_mem_nil, or_false] at hb; rcases hb with rfl | rfl | rfl <;> (show @LE.le Nat _ _ _; omega))
  have hD₃ := kb₃ _ _ (ni1 (by show @Ne Nat _ _; omega)) hD
  show wpAny _ A (assign (.Tuple [.Name y py] k1 pt) (kE L) (.ref h2.objs.size)) _ _ _
  rw [arm_assign_Tuple]
  refine wpAny_bind (wpAny_standAt ?_)
  unfold unpack
  refine wpAny_bind (wpAny_holding (unpack_set (s := s) (tk := k) hA hD₃ fun h₄ kp₄ => ?_))
  show wpAny _ A (holding [] (assign (.Name y py) (kE L) (.bool true)) >>= fun _ => pure ()) _ _ _
  refine wpAny_bind (wpAny_holding ?_)
  refine wpAny_assign_Name (x_setB (Φ₃.keeps kp₄) (fun h₅ Φ₅ kb₅ => ?_) (by rfl) hy)
  refine wpAny_pure (fin h₅ _ Φ₅ ?_)
  have kbF : KB [I, h2.objs.size, h2.objs.size + 1, L] h2 h₅ := (kbE.mono (by intro p hp; simp at hp; rcases hp with rfl | rfl | rfl <;> simp)).trans ((KB.of kp₄).trans (kb₅.mono (by intro p hp; simp at hp; simp [hp])))
  refine kbF.drop fun b hb => ?_
  simp only [List.mem_cons, List.not_mem_nil, or_false] at hb
  rcases hb with rfl | rfl | rfl | rfl
  · exact .inl (.tail _ (.head _))
  · exact .inr (Nat.le_refl _)
  · exact .inr (Nat.le_succ _)
  · exact .inl (.head _)
end
noncomputable def glue (c : Nat) : List T → T
  | [] => []
  | [p] => p
  | p :: q :: r => p ++ c :: glue c (q :: r)
theorem glue_eq (c : Nat) : ∀ P : List T, ([c] : T).intercalate P = glue c P
  | [] => rfl
  | [s] => by simp [glue, List.intercalate]
  | s :: b :: t => by
    rw [glue, ← glue_eq c (b :: t)]
    simp [List.intercalate, List.intersperse]
theorem cut_inj {c : Nat} : ∀ {p q X Y : T}, c ∉ p → c ∉ q → p ++ c :: X = q ++ c :: Y → p = q ∧ X = Y
  | [], [], _, _, _, _, e => ⟨rfl, (List.cons.inj e).2⟩
  | [], b :: q, _, _, _, h, e => absurd ((List.cons.inj e).1 ▸ .head _) h
  | a :: p, [], _, _, h, _, e => absurd ((List.cons.inj e).1 ▸ .head _) h
  | a :: p, b :: q, _, _, h1, h2, e => by
    obtain ⟨ea, e2⟩ := List.cons.inj e
    obtain ⟨ep, e3⟩ := cut_inj (fun m => h1 (.tail _ m)) (fun m => h2 (.tail _ m)) e2
    exact ⟨by rw [ea, ep], e3⟩
theorem glue_inj {c : Nat} : ∀ {ps qs : List T}, ps ≠ [] → qs ≠ [] → (∀ p ∈ ps, c ∉ p) → (∀ q ∈ qs, c ∉ q) → glue c ps = glue c qs → ps = qs
  | [], _, h, _, _, _, _ => absurd rfl h
  | _, [], _, h, _, _, _ => absurd rfl h
  | [p], [q], _, _, _, _, e => by rw [glue, glue] at e; rw [e]
  | [p], q :: b :: t, _, _, h, _, e => by rw [glue, glue] at e; exact absurd (e ▸ List.mem_append_right _ (.head _)) (h p (.head _))
  | p :: a :: t, [q], _, _, _, h, e => by rw [glue, glue] at e; exact absurd (e ▸ List.mem_append_right _ (.head _)) (h q (.head _))
  | p :: a :: t, q :: b :: u, _, _, h1, h2, e => by
    rw [glue, glue] at e
    obtain ⟨ep, e2⟩ := cut_inj (h1 p (.head _)) (h2 q (.head _)) e
    rw [ep, glue_inj (by simp) (by simp) (fun x m => h1 x (.tail _ m)) (fun x m => h2 x (.tail _ m)) e2]
noncomputable def digS (d : Nat) : T := [48 + d]
theorem glue_digs : ∀ (d : Nat) (l : List Nat), glue 47 (digS d :: l.map digS) = (48 + d) :: wayS l
  | d, [] => rfl
  | d, e :: l => by
    rw [List.map_cons, glue, glue_digs e l, wayS_cons]; rfl
theorem glue_way : ∀ l : List Nat, glue 47 ([] :: l.map digS) = wayS l
  | [] => rfl
  | d :: l => by rw [List.map_cons, glue, glue_digs, wayS_cons]; rfl
theorem S_back (p : Str) : S p.cps.toList = p := by cases p; simp
theorem split_way (l : List Nat) (hl : l ≠ []) (h9 : ∀ d ∈ l, d < 10) : Txt.split (S (wayS l)) (S [47]) = (([] :: l.map digS : List T)).map S := by
  have hj := StrLaws.join_split (S (wayS l)) (S [47])
  have hf := StrLaws.split_free (S (wayS l)) 47
  change ∀ p ∈ Txt.split (S (wayS l)) (S [47]), 47 ∉ p.cps.toList at hf
  generalize Txt.split (S (wayS l)) (S [47]) = ps at hj hf
  have e1 : ps = (ps.map fun p => p.cps.toList).map S := by
    rw [List.map_map]
    exact (List.map_id' ps).symm.trans (List.map_congr_left fun p _ => (S_back p).symm)
  rw [e1] at hj
  rw [joinS, glue_eq] at hj
  have e2 : glue 47 (ps.map fun p => p.cps.toList) = wayS l := by
    have := congrArg (fun s : Str => s.cps.toList) hj
    simpa using this
  have hne : ps ≠ [] := by
    rintro rfl
    cases l with
    | nil => exact hl rfl
    | cons d l => cases e2
  rw [e1]
  congr 1
  refine glue_inj (c := 47) (by simpa using hne) (by simp) (fun p m => ?_) (fun q m => ?_) (e2.trans (glue_way l).symm)
  · obtain ⟨x, hx, rfl⟩ := List.mem_map.mp m
    exact hf x hx
  · rcases List.mem_cons.mp m with rfl | m
    · simp
    · obtain ⟨d, hd, rfl⟩ := List.mem_map.mp m
      simp [digS]; omega
noncomputable def sc1 : Scope := { kind := .function, names := [(Str.ofString ".0", .local), (Str.ofString "path", .local), (Str.ofString "sep", .free)], isGenerator := false, isCoroutine := false, more := [] }
noncomputable def sc2 : Scope := { kind := .function, names := [(Str.ofString ".0", .local), (Str.ofString "p", .local), (Str.ofString "sep", .free)], isGenerator := false, isCoroutine := false, more := [] }
section
variable {A : Around} {E : Value → Shared → Prop} {s : Shared} {hh : Heap} {tk : Nat} {env : Env}
variable {w : World} {mg mb : Str → Option Value} {m : Str → Option Value} {h₀ : Heap} {L : Nat}
theorem v_loc {x : Str} {pos : Pos} {v : Value} {scope : Scope} {cl : List (Str × Addr)} {C : Addr} {mC : Str → Option Value} {Q : Value → Shared → Prop} (hn : s.heap.Ns C mC) (hv : mC x = some v) (h : Q v s)
    (hk : scope.kind = .function) (hl : (compEnvC scope cl C env).kindOf x = some .local) (hd : (x == ("__debug__" : Str)) = false) : wpAny (model pw w) A (eval (.Name x pos) (compEnvC scope cl C env)) Q E s :=
  wpAny_Name (wpAny_loadName_local hk hl hn hv h) hd
theorem v_cell {x : Str} {pos : Pos} {v : Value} {scope : Scope} {cl : List (Str × Addr)} {C c : Addr} {Q : Value → Shared → Prop} (hc : cl.lookup x = some c) (hv : s.heap.IsCell c (some v)) (h : Q v s)
    (hk : scope.kind = .function) (hl : (compEnvC scope cl C env).kindOf x = some .cell) (hd : (x == ("__debug__" : Str)) = false) : wpAny (model pw w) A (eval (.Name x pos) (compEnvC scope cl C env)) Q E s :=
  wpAny_Name (wpAny_loadName_cell hk hl hc hv h) hd
theorem r_split {x : T} {t u : Tok} {ts : List T} {Q : Value → Shared → Prop} (hx : x.length ≤ 1000) (hts : ts.length ≤ 1000) (he : Txt.split (S x) (S [47]) = ts.map S) (h : ∀ h' k items, Keeps hh h' → Li h' hh.objs.size items → Strs items ts → Q (.ref hh.objs.size) (up s h' k)) :
    wpAny (model pw w) A (call (.builtin "str.split") [.str (S x) t, .str (S [47]) u]) Q E (up s hh tk) := by
  have hsz : (S x).length ≤ sizeLine := by rw [S_len, sizeLine_eq]; omega
  have self : ts.map S = [S x] → listOfItself (S x) t A (wants Q E) (up s hh tk) := fun e => by
    refine h _ _ _ (fun b o q => Heap.get?_push_of_some _ q) ⟨_, Heap.get?_push_size _ rfl⟩ ⟨[(S x, t)], rfl, ?_⟩
    exact e.symm
  cases h1 : (decide ((S x).length < (S [47]).length) || decide (Builtin.Str.strKind (S x) < Builtin.Str.strKind (S [47])))
  · cases hf : (Builtin.Str.occurrences (S x) (S [47]) 0 (S x).length ((S x).length + 1)).isEmpty
    · have e2 : Txt.split (S x) (S [47]) = Builtin.Str.partsBetween (S x) (Builtin.Str.occurrences (S x) (S [47]) 0 (S x).length ((S x).length + 1)) (S [47]).length := by
        unfold Txt.split
        rw [if_neg (by rw [h1]; decide), if_neg (by rw [hf]; decide)]
      have hn : (Builtin.Str.partsBetween (S x) (Builtin.Str.occurrences (S x) (S [47]) 0 (S x).length ((S x).length + 1)) (S [47]).length).length ≤ sizeLine := by
        rw [← e2, he, List.length_map, sizeLine_eq]; omega
      refine call_meets F.slot_str_split (typeIs_str _ _ _) F.entry_str_split (F.args_str_split_2 _ _) (meets_str_split_sep _ _ t u h1 (by rfl) hf hsz hn) ?_
      rw [strsFrom_eq, ← e2, he]
      exact h _ _ _ (fun b o q => Heap.get?_push_of_some _ q) ⟨_, Heap.get?_push_size _ rfl⟩ ⟨numbered _ (ts.map S), rfl, numbered_texts _ _⟩
    · have e2 : Txt.split (S x) (S [47]) = [S x] := by
        unfold Txt.split
        rw [if_neg (by rw [h1]; decide), if_pos hf]
      exact call_meets F.slot_str_split (typeIs_str _ _ _) F.entry_str_split (F.args_str_split_2 _ _) (meets_str_split_not_found _ _ t u h1 (by rfl) hf) (self (he.symm.trans e2))
  · have e2 : Txt.split (S x) (S [47]) = [S x] := by
      unfold Txt.split
      rw [if_pos h1]
    exact call_meets F.slot_str_split (typeIs_str _ _ _) F.entry_str_split (F.args_str_split_2 _ _) (meets_str_split_cannot_occur _ _ t u h1) (self (he.symm.trans e2))
theorem elt1 {C : Addr} {mC : Str → Option Value} {x : T} {t u : Tok} {ts : List T} {Q : Value → Shared → Prop} (hn : hh.Ns C mC) (hv : mC "path" = some (.str (S x) t)) (hc : hh.IsCell (L + 1) (some (.str (S [47]) u)))
    (hx : x.length ≤ 1000) (hts : ts.length ≤ 1000) (he : Txt.split (S x) (S [47]) = ts.map S) (h : ∀ h' k items, Keeps hh h' → Li h' hh.objs.size items → Strs items ts → Q (.ref hh.objs.size) (up s h' k)) :
    wpAny (model pw w) A (eval (.Call (.Attribute (.Name "path" ⟨841, 23, 841, 27⟩) "split" ⟨841, 23, 841, 33⟩) [.Name "sep" ⟨841, 34, 841, 37⟩] [] ⟨841, 23, 841, 38⟩) (compEnvC sc1 [("sep", L + 1)] C (kE L))) Q E (up s hh tk) := by
  (with_reducible refine q_meth (pl := ?pl) (he := ?he) ?h); (case he => rfl)
  refine v_loc (s := up s hh tk) hn hv ?_ (by rfl) (by rfl) (by decide)
  refine GM.split ?_
  walk_at "hp q_cm;he q_acons"
  refine v_cell (s := up s hh tk) (by rfl) hc ?_ (by rfl) (by rfl) (by decide)
  walk_at "r args_nil"
  exact r_split hx hts he h
theorem elt2 {C : Addr} {mC : Str → Option Value} {x : T} {t u : Tok} {Q : Value → Shared → Prop} (hn : hh.Ns C mC) (hv : mC "p" = some (.str (S (47 :: x)) t)) (hc : hh.IsCell (L + 1) (some (.str (S [47]) u)))
    (h : ∀ k, Q (.bool true) (up s hh k)) :
    wpAny (model pw w) A (eval (.Call (.Attribute (.Name "p" ⟨843, 22, 843, 23⟩) "startswith" ⟨843, 22, 843, 34⟩) [.Name "sep" ⟨843, 35, 843, 38⟩] [] ⟨843, 22, 843, 39⟩) (compEnvC sc2 [("sep", L + 1)] C (kE L))) Q E (up s hh tk) := by
  (with_reducible refine q_meth (pl := ?pl) (he := ?he) ?h); (case he => rfl)
  refine v_loc (s := up s hh tk) hn hv ?_ (by rfl) (by rfl) (by decide)
  refine GM.startswith ?_
  walk_at "hp q_cm;he q_acons"
  refine v_cell (s := up s hh tk) (by rfl) hc ?_ (by rfl) (by rfl) (by decide)
  walk_at "r args_nil"
  exact r_starts (h _)
end
noncomputable def sc3 : Scope := { kind := .function, names := [(Str.ofString ".0", .local), (Str.ofString "s", .local), (Str.ofString "curdir", .free)], isGenerator := false, isCoroutine := false, more := [] }
noncomputable def sc4 : Scope := { kind := .function, names := [(Str.ofString ".0", .local), (Str.ofString "c", .local), (Str.ofString "curdir", .free)], isGenerator := false, isCoroutine := false, more := [] }
noncomputable def keepT (t : T) : Bool := !t.isEmpty && !decide (t = [46])
noncomputable def keepV : Value → Bool
  | .str x _ => keepT x.cps.toList
  | _ => false
theorem paired_eq {a b : List Value} (h : Paired (fun v y => y = v) a b) : b = a := by
  induction h with
  | nil => rfl
  | cons e _ ih => rw [e, ih]
theorem strs_filter : ∀ {l : List (Str × Tok)} {ts : List T}, l.map (·.1) = ts.map S → ∃ l', (strValues l).filter keepV = strValues l' ∧ l'.map (·.1) = (ts.filter keepT).map S
  | [], [], _ => ⟨[], rfl, rfl⟩
  | (x, u) :: l, t :: ts, e => by
    obtain ⟨l', e1, e2⟩ := strs_filter (List.cons.inj e).2
    have ex : x = S t := (List.cons.inj e).1
    subst ex
    show ∃ l', (Value.str (S t) u :: strValues l).filter keepV = _ ∧ _
    rw [List.filter_cons, List.filter_cons]
    have ek : keepV (.str (S t) u) = keepT t := by show keepT (S t).cps.toList = _; simp
    rw [ek]
    by_cases hk : keepT t = true
    · rw [if_pos hk, if_pos hk, e1]
      exact ⟨(S t, u) :: l', rfl, by rw [List.map_cons, List.map_cons, e2]⟩
    · rw [if_neg hk, if_neg hk]
      exact ⟨l', e1, e2⟩
  | [], _ :: _, e => nomatch e
  | _ :: _, [], e => nomatch e
section
variable {A : Around} {E : Value → Shared → Prop} {s : Shared} {hh : Heap} {tk : Nat} {env : Env}
variable {w : World} {mg mb : Str → Option Value} {m : Str → Option Value} {h₀ : Heap} {L : Nat}
theorem elt3 {C : Addr} {mC : Str → Option Value} {a : Nat} {u : Tok} {items : Array Value} {ts : List T} {Q : Value → Shared → Prop} (hA : A.handled = none) (hn : hh.Ns C mC) (hv : mC "s" = some (.ref a)) (hc : hh.IsCell (L + 2) (some (.str (S [46]) u)))
    (ha : Li hh a items) (st : Strs items ts) (hsz : ts.length ≤ 1000) (hl : ∀ t ∈ ts, t.length ≤ 1000) (h : ∀ h' k D its, Keeps hh h' → Li h' D its → Strs its (ts.filter keepT) → hh.get? D = none → Q (.ref D) (up s h' k)) :
    wpAny (model pw w) A (eval (.ListComp (.Name "c" ⟨846, 24, 846, 25⟩) [⟨.Name "c" ⟨846, 30, 846, 31⟩, .Name "s" ⟨846, 35, 846, 36⟩, [.BoolOp .And [.Name "c" ⟨846, 40, 846, 41⟩, .Compare (.Name "c" ⟨846, 46, 846, 47⟩) [.NotEq] [.Name "curdir" ⟨846, 51, 846, 57⟩] ⟨846, 46, 846, 57⟩] ⟨846, 40, 846, 57⟩], 0⟩] sc4 ⟨846, 23, 846, 58⟩)
      (compEnvC sc3 [("curdir", L + 2)] C (kE L))) Q E (up s hh tk) := by
  have oa : @LT.lt Nat _ a hh.objs.size := ha.lt
  have oc : @LT.lt Nat _ (L + 2) hh.objs.size := let ⟨_, e, _⟩ := hc; Heap.lt_size e
  refine wpAny_ListComp_free (s := up s hh tk) (cl := [("curdir", L + 2)]) keepV (fun v y => y = v) (by rfl) (by decide) (by rfl) (by decide) (by rfl) ?_
  refine v_loc (s := up s hh tk) hn hv ?_ (by rfl) (by rfl) (by decide)
  refine wpAny_pyIter_list (s := up s hh tk) ha.is ?_
  refine ⟨hh.objs.size, _, _, _, _, _, rfl, Walks.list (A := A) hA hh.objs.size a (by show @Ne Nat _ _; omega) items, by rw [st.size, sizeLine_eq]; omega, ⟨⟨_, Heap.get?_push_size _ rfl, rfl, rfl⟩, ha.is.push _⟩, ?_, ?_, ?_⟩
  · intro b hb
    have e : ((hh.push { cls := .type "list_iterator", data := .fields #[.ref a, .int 0 0] }).objs.size : Nat) = hh.objs.size + 1 := Heap.size_push ..
    show @LT.lt Nat _ b (hh.push _).objs.size
    rw [e]
    simp only [List.mem_cons, List.not_mem_nil, or_false] at hb
    rcases hb with rfl | rfl
    · exact Nat.lt_succ_self _
    · exact Nat.lt_succ_of_lt oa
  · have cell : ∀ s₃ : Shared, (∀ b o, b ∉ [hh.objs.size] → (hh.push { cls := .type "list_iterator", data := .fields #[.ref a, .int 0 0] }).get? b = some o → s₃.heap.get? b = some o) → s₃.heap.IsCell (L + 2) (some (.str (S [46]) u)) := fun s₃ k => by
      obtain ⟨o, e, d⟩ := hc
      exact ⟨o, k _ _ (ni1 (by walk_at "x2")) (Heap.get?_push_of_some _ e), d⟩
    have item : ∀ i v, items[i]? = some v → ∃ (t : T) (u : Tok), t ∈ ts ∧ v = Value.str (S t) u := fun i v e => by
      have hi : i < ts.length := by rw [← st.size]; exact (Array.getElem?_eq_some_iff.mp e).1
      obtain ⟨t, ht⟩ : ∃ t, ts[i]? = some t := ⟨_, List.getElem?_eq_getElem hi⟩
      obtain ⟨u, hu⟩ := st.at i t ht
      exact ⟨t, u, List.mem_of_getElem? ht, Option.some.inj (e.symm.trans hu)⟩
    refine ⟨?_, ?_⟩
    · intro C' i v s₃ m₃ E' hC hP hn3 hm3 hk ht
      obtain ⟨t, u', htm, rfl⟩ := item i v hP
      have hlt := hl t htm
      refine wpAny_tests_one ?_
      have ek : keepV (.str (S t) u') = keepT t := by show keepT (S t).cps.toList = _; simp
      rw [ek]
      (with_reducible refine q_and ?_)
      (with_reducible refine q_tn ?_)
      refine v_loc hn3 hm3 ?_ (by rfl) (by rfl) (by decide)
      refine r_truthy (s := s₃) (hh := s₃.heap) (tk := s₃.toks) (by walk_at "x2") ?_
      by_cases h0 : t.isEmpty = true
      · rw [h0]
        refine if_ff ⟨by unfold keepT; rw [h0]; rfl, s₃.heap, _, rfl, fun _ _ e => e⟩
      · have h0' : t.isEmpty = false := by simpa using h0
        rw [h0']
        refine if_tt ?_
        (with_reducible refine q_and ?_)
        (with_reducible refine q_ctest (hm := ?hm) ?h1)
        case hm => with_unfolding_all rfl
        refine v_loc (s := up s₃ s₃.heap _) hn3 hm3 ?_ (by rfl) (by rfl) (by decide)
        refine v_cell (s := up s₃ s₃.heap _) (by rfl) (cell s₃ hk) ?_ (by rfl) (by rfl) (by decide)
        refine r_neS ?_
        refine wpAny_truthy_bool ?_
        by_cases h46 : t = [46]
        · refine if_ndt h46 ⟨by unfold keepT; rw [h0', decide_eq_true h46]; rfl, s₃.heap, _, rfl, fun _ _ e => e⟩
        · refine if_ndn h46 ?_
          (with_reducible refine isTrue_and_nil ?_)
          exact ⟨by unfold keepT; rw [h0', decide_eq_false h46]; rfl, s₃.heap, _, rfl, fun _ _ e => e⟩
    · intro C' i v s₃ m₃ E' hC hP hpv hn3 hm3 hk ht
      refine v_loc hn3 hm3 ⟨rfl, s₃.heap, s₃.toks, rfl, fun _ _ e => e⟩ (by rfl) (by rfl) (by decide)
  · intro D h' tk' ys vs hD hl' hpl hlen hP hF hk
    have ev : vs = items.toList := by
      refine List.ext_getElem? fun i => ?_
      cases q : vs[i]? with
      | some v => rw [Array.getElem?_toList]; exact (hP i v q).symm
      | none =>
        have : items.size ≤ i := by rw [← hlen]; exact List.getElem?_eq_none_iff.mp q
        rw [Array.getElem?_toList]; exact (Array.getElem?_eq_none this).symm
    subst ev
    obtain ⟨l, rfl, el⟩ := st
    obtain ⟨l', e1, e2⟩ := strs_filter el
    have ey : ys.toList = strValues l' := (paired_eq hF).trans (by rw [← e1])
    have kp : Keeps hh h' := fun b o e => hk b o (ni1 (Nat.ne_of_lt (Heap.lt_size e))) (Heap.get?_push_of_some _ e)
    refine h h' tk' D ys kp hpl ⟨l', by rw [← ey], e2⟩ ?_
    cases hg : hh.get? D with
    | some o => rw [show (up s (hh.push _) tk).heap.get? D = _ from Heap.get?_push_of_some _ hg] at hD; cases hD
    | none => rfl
end
noncomputable def tB : List Stmt := match (dB (st 44)).drop 3 with | .Try b _ _ _ _ :: _ => b | _ => []
section
variable {A : Around} {E : Value → Shared → Prop} {s : Shared} {hh : Heap} {tk : Nat} {env : Env}
variable {w : World} {mg mb : Str → Option Value} {m : Str → Option Value} {h₀ : Heap} {L : Nat}
structure CW (h : Heap) (L PT : Nat) (u1 u2 t1 t2 : Tok) (a b : T) : Prop where
  tup : h.get? PT = some (tpO #[.str (S a) t1, .str (S b) t2])
  sep : h.IsCell (L + 1) (some (.str (S [47]) u1))
  cur : h.IsCell (L + 2) (some (.str (S [46]) u2))
  oPT : @LT.lt Nat _ (L + 2) PT
theorem CW.kb {h h' : Heap} {PT : Nat} {u1 u2 t1 t2 : Tok} {a b : T} {X : List Addr} (c : CW h L PT u1 u2 t1 t2 a b) (k : KB X h h') (n1 : L + 1 ∉ X) (n2 : L + 2 ∉ X) (n3 : PT ∉ X) : CW h' L PT u1 u2 t1 t2 a b :=
  ⟨k _ _ n3 c.tup, cellKb c.sep k n1, cellKb c.cur k n2, c.oPT⟩
theorem CW.lt {h : Heap} {PT : Nat} {u1 u2 t1 t2 : Tok} {a b : T} (c : CW h L PT u1 u2 t1 t2 a b) : @LT.lt Nat _ PT h.objs.size := Heap.lt_size c.tup
noncomputable def Ls (L : Nat) (h : Heap) (v : Value) (ts : List T) : Prop := ∃ D its, v = .ref D ∧ Li h D its ∧ Strs its ts ∧ @Ne Nat D L
theorem Ls.kb {h h' : Heap} {v : Value} {ts : List T} {X : List Addr} (c : Ls L h v ts) (k : KB X h h') (n : ∀ x ∈ X, @Eq Nat x L ∨ h.get? x = none) : Ls L h' v ts := by
  obtain ⟨D, its, e, a, b, d⟩ := c
  refine ⟨D, its, e, a.kb k fun q => ?_, b, d⟩
  rcases n _ q with q | q
  · exact d q
  · obtain ⟨_, z⟩ := a
    rw [q] at z; cases z
theorem cm1 {PT : Nat} {u1 u2 t1 t2 : Tok} {a b : T} {as' bs : List T} {Q : Flow → Shared → Prop} (hA : A.handled = none) (Φ : Fm w mg mb h₀ L m hh) (mp : m "paths" = some (.ref PT)) (c : CW hh L PT u1 u2 t1 t2 a b) (ob : @LE.le Nat _ h₀.objs.size L)
    (ea : Txt.split (S a) (S [47]) = as'.map S) (eb : Txt.split (S b) (S [47]) = bs.map S) (la : a.length ≤ 1000) (lb : b.length ≤ 1000) (las : as'.length ≤ 1000) (lbs : bs.length ≤ 1000)
    (h : ∀ h' k D va vb, Fm w mg mb h₀ L (upd m "split_paths" (.ref D)) h' → CW h' L PT u1 u2 t1 t2 a b → Li h' D #[va, vb] → @Ne Nat D L → Ls L h' va as' → Ls L h' vb bs →
      wpAny (model pw w) A (execs (tB.drop 1) (kE L)) Q (fun _ _ => False) (up s h' k)) :
    wpAny (model pw w) A (execs tB (kE L)) Q (fun _ _ => False) (up s hh tk) := by
  have oPT := c.lt
  have oL := c.oPT
  obtain ⟨h2, eh2⟩ : ∃ h2, h2 = hh.push { cls := .type "tuple_iterator", data := .fields #[.ref PT, .int 0 0] } := ⟨_, rfl⟩
  have kp2 : Keeps hh h2 := fun b o e => by rw [eh2]; exact Heap.get?_push_of_some _ e
  have e2 : (h2.objs.size : Nat) = hh.objs.size + 1 := by rw [eh2]; exact Heap.size_push ..
  have hIt : h2.IsTupleIter hh.objs.size PT 0 := by rw [eh2]; exact ⟨_, Heap.get?_push_size _ rfl, rfl, rfl⟩
  have hTp : h2.IsTuple PT #[.str (S a) t1, .str (S b) t2] := ⟨_, kp2 _ _ c.tup, rfl, _, rfl⟩
  have Φ2 := Φ.keeps kp2
  have c2 := c.kb (KB.of (X := []) kp2) (by simp) (by simp) (by simp)
  refine q_cons ?_
  refine comp_as (s := s) (k2 := tk) (h2 := h2) (I := hh.objs.size) (cl := [("sep", L + 1)]) (by rfl) (by rfl) (by decide) (by rfl) (by decide) (by rfl) (by rfl) (by intro _; rfl) ?_ Φ2 (by show @LE.le Nat _ _ _; omega) (by omega)
    (Walks.tuple (A := A) hA hh.objs.size PT (by show @Ne Nat _ _; omega) #[.str (S a) t1, .str (S b) t2]) (by show 2 ≤ 1000; decide) ⟨hIt, hTp⟩ ?_
    (fun i ys h => CW h L PT u1 u2 t1 t2 a b ∧ ys.length = i ∧ ∀ (j : Nat) (v : Value), ys[j]? = some v → ∃ D its, v = Value.ref D ∧ Li h D its ∧ Strs its (if j = 0 then as' else bs) ∧ @LT.lt Nat _ (h2.objs.size + 1) D) ?_ ?_ ?_ ?_
  · (walk_at "l x_loc")
    refine wpAny_pyIter_tuple (s := up s hh tk) ⟨_, c.tup, rfl, _, rfl⟩ ?_
    exact ⟨rfl, by rw [eh2]⟩
  · intro x hx
    show @LT.lt Nat _ _ _
    simp only [List.mem_cons, List.not_mem_nil, or_false] at hx
    rcases hx with rfl | rfl <;> omega
  · intro h' kp
    exact ⟨c2.kb (KB.of (X := []) kp) (by simp) (by simp) (by simp), rfl, fun j v e => by simp at e⟩
  · rintro i ys h h' kb ⟨x, y, z⟩
    have n1 : ∀ p : Nat, p < hh.objs.size → p ≠ L → p ∉ [L, hh.objs.size, h2.objs.size, h2.objs.size + 1] := fun p h1 h2 => by
      simp only [List.mem_cons, List.not_mem_nil, or_false]
      omega
    refine ⟨x.kb kb (n1 _ (by omega) (by omega)) (n1 _ (by omega) (by omega)) (n1 _ (by omega) (by omega)), y, fun j v e => ?_⟩
    obtain ⟨D, its, e1, e3, e4, e5⟩ := z j v e
    exact ⟨D, its, e1, e3.kb kb (by simp only [List.mem_cons, List.not_mem_nil, or_false]; have : @LT.lt Nat _ hh.objs.size D := by omega
                                    show ¬ (@Eq Nat D L ∨ @Eq Nat D _ ∨ @Eq Nat D _ ∨ @Eq Nat D _); omega), e4, e5⟩
  · rintro i v ys h k mC E' hi hP hy kb oC hacc hst ⟨x, y, z⟩ hn hv
    have sub : ∀ (X : T) (t : Tok) (ts : List T), v = .str (S X) t → Txt.split (S X) (S [47]) = ts.map S → X.length ≤ 1000 → ts.length ≤ 1000 → (ts = if i = 0 then as' else bs) →
        wpAny (model pw w) A (eval (.Call (.Attribute (.Name "path" ⟨841, 23, 841, 27⟩) "split" ⟨841, 23, 841, 33⟩) [.Name "sep" ⟨841, 34, 841, 37⟩] [] ⟨841, 23, 841, 38⟩) (compEnvC sc1 [("sep", L + 1)] (h2.objs.size + 1) (kE L))) (fun y s' => ∃ h' k', s' = up s h' k' ∧ Keeps h h' ∧ (CW h' L PT u1 u2 t1 t2 a b ∧ (ys ++ [y]).length = i + 1 ∧ ∀ (j : Nat) (v : Value), (ys ++ [y])[j]? = some v → ∃ D its, v = Value.ref D ∧ Li h' D its ∧ Strs its (if j = 0 then as' else bs) ∧ @LT.lt Nat _ (h2.objs.size + 1) D)) E' (up s h k) := by
      intro X t ts ev es l1 l2 ei
      subst ev
      refine elt1 hn hv x.sep l1 l2 es fun h' k' items kp hL sT => ?_
      refine ⟨h', k', rfl, kp, x.kb (KB.of (X := []) kp) (by simp) (by simp) (by simp), by rw [List.length_append, y]; rfl, fun j v e => ?_⟩
      by_cases hj : j < ys.length
      · rw [List.getElem?_append_left hj] at e
        obtain ⟨D, its, e1, e3, e4, e5⟩ := z j v e
        exact ⟨D, its, e1, e3.keeps kp, e4, e5⟩
      · have hj2 : j = ys.length := by
          have := (List.getElem?_eq_some_iff.mp e).1
          rw [List.length_append, List.length_singleton] at this
          omega
        subst hj2
        rw [List.getElem?_append_right (Nat.le_refl _), Nat.sub_self] at e
        obtain rfl := Option.some.inj e
        rw [y]
        exact ⟨_, items, rfl, hL, ei ▸ sT, oC⟩
    have hi2 : i < 2 := hi
    match i, hi2, hP with
    | 0, _, hP =>
      obtain rfl := Option.some.inj hP
      exact sub a t1 as' rfl ea la las rfl
    | 1, _, hP =>
      obtain rfl := Option.some.inj hP
      exact sub b t2 bs rfl eb lb lbs rfl
  · rintro h' k ys Φ' kb hD ⟨x, y, z⟩
    match ys, y with
    | [va, vb], _ =>
      obtain ⟨Da, ia, ra, la, sa, oa⟩ := z 0 va rfl
      obtain ⟨Db, ib, rb, lb', sb, ob'⟩ := z 1 vb rfl
      exact h h' k _ va vb Φ' x hD (by omega) ⟨Da, ia, ra, la, sa, by omega⟩ ⟨Db, ib, rb, lb', sb, by omega⟩
end
section
variable {A : Around} {E : Value → Shared → Prop} {s : Shared} {hh : Heap} {tk : Nat} {env : Env}
variable {w : World} {mg mb : Str → Option Value} {m : Str → Option Value} {h₀ : Heap} {L : Nat}
theorem cm2 {PT : Nat} {u1 u2 t1 t2 : Tok} {a b : T} {Q : Flow → Shared → Prop} (hA : A.handled = none) (Φ : Fm w mg mb h₀ L m hh) (mp : m "paths" = some (.ref PT)) (c : CW hh L PT u1 u2 t1 t2 (47 :: a) (47 :: b)) (ob : @LE.le Nat _ h₀.objs.size L)
    (h : ∀ h' k, Fm w mg mb h₀ L (upd m "isabs" (.bool true)) h' → KB [L] hh h' → wpAny (model pw w) A (execs (tB.drop 2) (kE L)) Q (fun _ _ => False) (up s h' k)) :
    wpAny (model pw w) A (execs (tB.drop 1) (kE L)) Q (fun _ _ => False) (up s hh tk) := by
  have oPT := c.lt
  have oL := c.oPT
  obtain ⟨h2, eh2⟩ : ∃ h2, h2 = hh.push { cls := .type "tuple_iterator", data := .fields #[.ref PT, .int 0 0] } := ⟨_, rfl⟩
  have kp2 : Keeps hh h2 := fun b o e => by rw [eh2]; exact Heap.get?_push_of_some _ e
  have e2 : (h2.objs.size : Nat) = hh.objs.size + 1 := by rw [eh2]; exact Heap.size_push ..
  have hIt : h2.IsTupleIter hh.objs.size PT 0 := by rw [eh2]; exact ⟨_, Heap.get?_push_size _ rfl, rfl, rfl⟩
  have hTp : h2.IsTuple PT #[.str (S (47 :: a)) t1, .str (S (47 :: b)) t2] := ⟨_, kp2 _ _ c.tup, rfl, _, rfl⟩
  have Φ2 := Φ.keeps kp2
  have c2 := c.kb (KB.of (X := []) kp2) (by simp) (by simp) (by simp)
  refine q_cons ?_
  refine try_calm ?_
  refine q_cons ?_
  refine set_as (s := s) (k2 := tk) (h2 := h2) (I := hh.objs.size) (cl := [("sep", L + 1)]) hA (by rfl) (by decide) (by rfl) (by decide) (by rfl) (by rfl) (by intro _; rfl) ?_ Φ2 (by show @LE.le Nat _ _ _; omega) (by omega)
    (Walks.tuple (A := A) hA hh.objs.size PT (by show @Ne Nat _ _; omega) #[.str (S (47 :: a)) t1, .str (S (47 :: b)) t2]) (by show 0 < 2; decide) ⟨hIt, hTp⟩ ?_ ?_ ?_
  · (walk_at "l x_loc")
    refine wpAny_pyIter_tuple (s := up s hh tk) ⟨_, c.tup, rfl, _, rfl⟩ ?_
    exact ⟨rfl, by rw [eh2]⟩
  · intro x hx
    show @LT.lt Nat _ _ _
    simp only [List.mem_cons, List.not_mem_nil, or_false] at hx
    rcases hx with rfl | rfl <;> omega
  · rintro i v h k mC E' hi hP kb hn hv
    have n1 : ∀ p : Nat, p < hh.objs.size → p ∉ [hh.objs.size, h2.objs.size, h2.objs.size + 1] := fun p h1 => by
      simp only [List.mem_cons, List.not_mem_nil, or_false]
      omega
    have cc := c2.kb kb (n1 _ (by omega)) (n1 _ (by omega)) (n1 _ (by omega))
    have sub : ∀ (X : T) (t : Tok), v = .str (S (47 :: X)) t →
        wpAny (model pw w) A (eval (.Call (.Attribute (.Name "p" ⟨843, 22, 843, 23⟩) "startswith" ⟨843, 22, 843, 34⟩) [.Name "sep" ⟨843, 35, 843, 38⟩] [] ⟨843, 22, 843, 39⟩) (compEnvC sc2 [("sep", L + 1)] (h2.objs.size + 1) (kE L))) (fun y s' => y = .bool true ∧ ∃ h' k', s' = up s h' k' ∧ Keeps h h') E' (up s h k) := by
      intro X t ev
      subst ev
      exact elt2 hn hv cc.sep fun k' => ⟨rfl, h, k', rfl, fun _ _ e => e⟩
    have hi2 : i < 2 := hi
    match i, hi2, hP with
    | 0, _, hP =>
      obtain rfl := Option.some.inj hP
      exact sub a t1 rfl
    | 1, _, hP =>
      obtain rfl := Option.some.inj hP
      exact sub b t2 rfl
  · intro h' k Φ' kb
    refine q_nil ?_
    refine q_nil ?_
    refine h h' k Φ' (((KB.of kp2).trans kb).drop fun b hb => ?_)
    simp only [List.mem_cons, List.not_mem_nil, or_false] at hb
    rcases hb with rfl | rfl
    · exact .inl (.head _)
    · exact .inr (Nat.le_refl _)
theorem cm3 {PT SD : Nat} {u1 u2 t1 t2 : Tok} {a b : T} {va vb : Value} {as' bs : List T} {Q : Flow → Shared → Prop} (hA : A.handled = none) (Φ : Fm w mg mb h₀ L m hh) (mp : m "split_paths" = some (.ref SD)) (c : CW hh L PT u1 u2 t1 t2 a b) (ob : @LE.le Nat _ h₀.objs.size L)
    (hS : Li hh SD #[va, vb]) (nS : @Ne Nat SD L) (ha : Ls L hh va as') (hb : Ls L hh vb bs) (las : as'.length ≤ 1000) (lbs : bs.length ≤ 1000) (la : ∀ t ∈ as', t.length ≤ 1000) (lb : ∀ t ∈ bs, t.length ≤ 1000)
    (h : ∀ h' k D va' vb', Fm w mg mb h₀ L (upd m "split_paths" (.ref D)) h' → CW h' L PT u1 u2 t1 t2 a b → Li h' D #[va', vb'] → @Ne Nat D L → Ls L h' va' (as'.filter keepT) → Ls L h' vb' (bs.filter keepT) →
      wpAny (model pw w) A (execs (tB.drop 3) (kE L)) Q (fun _ _ => False) (up s h' k)) :
    wpAny (model pw w) A (execs (tB.drop 2) (kE L)) Q (fun _ _ => False) (up s hh tk) := by
  have oPT := c.lt
  have oL := c.oPT
  have oS : @LT.lt Nat _ SD hh.objs.size := hS.lt
  obtain ⟨h2, eh2⟩ : ∃ h2, h2 = hh.push { cls := .type "list_iterator", data := .fields #[.ref SD, .int 0 0] } := ⟨_, rfl⟩
  have kp2 : Keeps hh h2 := fun b o e => by rw [eh2]; exact Heap.get?_push_of_some _ e
  have e2 : (h2.objs.size : Nat) = hh.objs.size + 1 := by rw [eh2]; exact Heap.size_push ..
  have hIt : h2.IsListIter hh.objs.size SD 0 := by rw [eh2]; exact ⟨_, Heap.get?_push_size _ rfl, rfl, rfl⟩
  have Φ2 := Φ.keeps kp2
  have c2 := c.kb (KB.of (X := []) kp2) (by simp) (by simp) (by simp)
  have new2 : ∀ b, @LE.le Nat _ h2.objs.size b → h2.get? b = none := fun b hb => by
    cases q : h2.get? b with
    | none => rfl
    | some o => exact absurd (Heap.lt_size q) (Nat.not_lt.mpr hb)
  have newI : hh.get? hh.objs.size = none := by
    cases q : hh.get? hh.objs.size with
    | none => rfl
    | some o => exact absurd (Heap.lt_size q) (Nat.lt_irrefl _)
  have old : ∀ {v ts}, Ls L hh v ts → ∀ h', KB [hh.objs.size, h2.objs.size, h2.objs.size + 1] h2 h' → Ls L h' v ts := fun {v ts} x h' kb => by
    refine x.kb (X := [hh.objs.size, h2.objs.size, h2.objs.size + 1]) ((KB.of kp2).trans kb) fun y hy => .inr ?_
    cases q : hh.get? y with
    | none => rfl
    | some o =>
      have : @LT.lt Nat _ y hh.objs.size := Heap.lt_size q
      simp only [List.mem_cons, List.not_mem_nil, or_false] at hy
      rcases hy with rfl | rfl | rfl <;> omega
  refine q_cons ?_
  refine comp_as (s := s) (k2 := tk) (h2 := h2) (I := hh.objs.size) (cl := [("curdir", L + 2)]) (by rfl) (by rfl) (by decide) (by rfl) (by decide) (by rfl) (by rfl) (by intro _; rfl) ?_ Φ2 (by show @LE.le Nat _ _ _; omega) (by omega)
    (Walks.list (A := A) hA hh.objs.size SD (by show @Ne Nat _ _; omega) #[va, vb]) (by show 2 ≤ 1000; decide) ⟨hIt, (hS.keeps kp2).is⟩ ?_
    (fun i ys h => CW h L PT u1 u2 t1 t2 a b ∧ ys.length = i ∧ ∀ (j : Nat) (v : Value), ys[j]? = some v → ∃ D its, v = Value.ref D ∧ Li h D its ∧ Strs its ((if j = 0 then as' else bs).filter keepT) ∧ @Ne Nat D L ∧ @Ne Nat D hh.objs.size ∧ @Ne Nat D h2.objs.size ∧ @Ne Nat D (h2.objs.size + 1)) ?_ ?_ ?_ ?_
  · (walk_at "l x_loc")
    refine wpAny_pyIter_list (s := up s hh tk) hS.is ?_
    exact ⟨rfl, by rw [eh2]⟩
  · intro x hx
    show @LT.lt Nat _ _ _
    simp only [List.mem_cons, List.not_mem_nil, or_false] at hx
    rcases hx with rfl | rfl <;> omega
  · intro h' kp
    exact ⟨c2.kb (KB.of (X := []) kp) (by simp) (by simp) (by simp), rfl, fun j v e => by simp at e⟩
  · rintro i ys h h' kb ⟨x, y, z⟩
    have n1 : ∀ p : Nat, p < hh.objs.size → p ≠ L → p ∉ [L, hh.objs.size, h2.objs.size, h2.objs.size + 1] := fun p h1 h2 => by
      simp only [List.mem_cons, List.not_mem_nil, or_false]
      omega
    refine ⟨x.kb kb (n1 _ (by omega) (by omega)) (n1 _ (by omega) (by omega)) (n1 _ (by omega) (by omega)), y, fun j v e => ?_⟩
    obtain ⟨D, its, e1, e3, e4, e5, e6, e7, e8⟩ := z j v e
    exact ⟨D, its, e1, e3.kb kb (by simp only [List.mem_cons, List.not_mem_nil, or_false, not_or]; exact ⟨e5, e6, e7, e8⟩), e4, e5, e6, e7, e8⟩
  · rintro i v ys h k mC E' hi hP hy kb oC hacc hst ⟨x, y, z⟩ hn hv
    have hL : ∃ o, h.get? L = some o := by
      obtain ⟨o, _, _, e, _⟩ := Φ2.F.ns
      have l2 : @LT.lt Nat _ L hh.objs.size := by omega
      exact ⟨o, kb _ _ (by simp only [List.mem_cons, List.not_mem_nil, or_false]; show ¬ (@Eq Nat L _ ∨ @Eq Nat L _ ∨ @Eq Nat L _); omega) e⟩
    have hI : ∃ o, h.get? hh.objs.size = some o := let ⟨o, e, _⟩ := hst.1; ⟨o, e⟩
    have hC : ∃ o, h.get? (h2.objs.size + 1) = some o := let ⟨o, _, _, e, _⟩ := hn; ⟨o, e⟩
    have hD : ∃ o, h.get? h2.objs.size = some o := let ⟨_, e⟩ := hacc; ⟨_, e⟩
    have apart : ∀ {D y : Nat}, h.get? D = none → (∃ o, h.get? y = some o) → @Ne Nat D y := fun q ⟨o, e⟩ r => by rw [r, e] at q; cases q
    have sub : ∀ (ts : List T), Ls L hh v ts → ts.length ≤ 1000 → (∀ t ∈ ts, t.length ≤ 1000) → (ts = if i = 0 then as' else bs) →
        wpAny (model pw w) A (eval (.ListComp (.Name "c" ⟨846, 24, 846, 25⟩) [⟨.Name "c" ⟨846, 30, 846, 31⟩, .Name "s" ⟨846, 35, 846, 36⟩, [.BoolOp .And [.Name "c" ⟨846, 40, 846, 41⟩, .Compare (.Name "c" ⟨846, 46, 846, 47⟩) [.NotEq] [.Name "curdir" ⟨846, 51, 846, 57⟩] ⟨846, 46, 846, 57⟩] ⟨846, 40, 846, 57⟩], 0⟩] sc4 ⟨846, 23, 846, 58⟩)
          (compEnvC sc3 [("curdir", L + 2)] (h2.objs.size + 1) (kE L))) (fun y s' => ∃ h' k', s' = up s h' k' ∧ Keeps h h' ∧ (CW h' L PT u1 u2 t1 t2 a b ∧ (ys ++ [y]).length = i + 1 ∧ ∀ (j : Nat) (v : Value), (ys ++ [y])[j]? = some v → ∃ D its, v = Value.ref D ∧ Li h' D its ∧ Strs its ((if j = 0 then as' else bs).filter keepT) ∧ @Ne Nat D L ∧ @Ne Nat D hh.objs.size ∧ @Ne Nat D h2.objs.size ∧ @Ne Nat D (h2.objs.size + 1))) E' (up s h k) := by
      intro ts hv0 l1 l2 ei
      obtain ⟨Dv, iv, rfl, lv, sv, ov⟩ := old hv0 h kb
      refine elt3 hA hn hv x.cur lv sv l1 l2 fun h' k' D items kp hLi sT hfr => ?_
      refine ⟨h', k', rfl, kp, x.kb (KB.of (X := []) kp) (by simp) (by simp) (by simp), by rw [List.length_append, y]; rfl, fun j v e => ?_⟩
      by_cases hj : j < ys.length
      · rw [List.getElem?_append_left hj] at e
        obtain ⟨D, its, e1, e3, e4, e5⟩ := z j v e
        exact ⟨D, its, e1, e3.keeps kp, e4, e5⟩
      · have hj2 : j = ys.length := by
          have := (List.getElem?_eq_some_iff.mp e).1
          rw [List.length_append, List.length_singleton] at this
          omega
        subst hj2
        rw [List.getElem?_append_right (Nat.le_refl _), Nat.sub_self] at e
        obtain rfl := Option.some.inj e
        rw [y, ← ei]
        exact ⟨D, items, rfl, hLi, sT, apart hfr hL, apart hfr hI, apart hfr hD, apart hfr hC⟩
    have hi2 : i < 2 := hi
    match i, hi2, hP with
    | 0, _, hP =>
      obtain rfl := Option.some.inj hP
      exact sub as' ha las la rfl
    | 1, _, hP =>
      obtain rfl := Option.some.inj hP
      exact sub bs hb lbs lb rfl
  · rintro h' k ys Φ' kb hD ⟨x, y, z⟩
    match ys, y with
    | [va, vb], _ =>
      obtain ⟨Da, ia, ra, la, sa, oa, _⟩ := z 0 va rfl
      obtain ⟨Db, ib, rb, lb', sb, ob', _⟩ := z 1 vb rfl
      exact h h' k _ va vb Φ' x hD (by omega) ⟨Da, ia, ra, la, sa, oa⟩ ⟨Db, ib, rb, lb', sb, ob'⟩
end
section
variable {A : Around} {E : Value → Shared → Prop} {s : Shared} {hh : Heap} {tk : Nat} {env : Env}
variable {w : World}
theorem Lt_step {a b : Addr} {xs ys : Array Value} {x : T} {u v : Tok} {i : Nat} {R : Result → Shared → Prop} (ha : Li hh a xs) (hb : Li hh b ys) (ex : xs[i]? = some (.str (S x) u)) (ey : ys[i]? = some (.str (S x) v))
    (h : codeAny (model pw w) A (.builtin "list.__eq__.loop" ⟨[.ref a, .ref b, rawInt ((i + 1 : Nat) : Int), rawInt 0], []⟩) R (up s hh tk)) :
    codeAny (model pw w) A (.builtin "list.__eq__.loop" ⟨[.ref a, .ref b, rawInt i, rawInt 0], []⟩) R (up s hh tk) := by
  obtain ⟨n1, ha⟩ := ha
  obtain ⟨n2, hb⟩ := hb
  refine codeAny_builtin MeetsSeq3.entry_eq_loop ?_
  rw [Around.under_plainId MeetsSeq3.plain_eq_loop _]
  unfold Builtin.«list.__eq__.loop»
  repeat lk
  simp only [Int.toNat_natCast]
  rw [ex, ey]
  refine wpAny_bind (SeqAt.EqAt.str_str _ _ _ _ _ _ _ _ ?_)
  rw [beq_self_eq_true, if_pos rfl]
  exact wpAny_pure ⟨plainId_quiet MeetsSeq3.plain_eq_loop _, h⟩
theorem Lt_diff {a b : Addr} {xs ys : Array Value} {x y : T} {u v : Tok} {i : Nat} {R : Result → Shared → Prop} (ha : Li hh a xs) (hb : Li hh b ys) (ex : xs[i]? = some (.str (S x) u)) (ey : ys[i]? = some (.str (S y) v)) (n : x ≠ y)
    (h : R (.ok (.ret (.bool (decide (x < y))))) (up s hh tk)) :
    codeAny (model pw w) A (.builtin "list.__eq__.loop" ⟨[.ref a, .ref b, rawInt i, rawInt 0], []⟩) R (up s hh tk) := by
  obtain ⟨n1, ha⟩ := ha
  obtain ⟨n2, hb⟩ := hb
  refine codeAny_builtin MeetsSeq3.entry_eq_loop ?_
  rw [Around.under_plainId MeetsSeq3.plain_eq_loop _]
  unfold Builtin.«list.__eq__.loop»
  repeat lk
  simp only [Int.toNat_natCast]
  rw [ex, ey]
  refine wpAny_bind (SeqAt.EqAt.str_str _ _ _ _ _ _ _ _ ?_)
  have e : (S x == S y) = false := beq_eq_false_iff_ne.mpr fun e => n (by have := congrArg (fun s : Str => s.cps.toList) e; simpa using this)
  rw [e, if_neg (by decide)]
  repeat lk
  rw [ex, ey]
  refine wpAny_bind ?_
  refine P.lt_str (s := up s hh tk) ?_
  refine wpAny_pure ?_
  exact h
theorem Lt_end {a b : Addr} {xs ys : Array Value} {i : Nat} {R : Result → Shared → Prop} (ha : Li hh a xs) (hb : Li hh b ys) (ex : xs[i]? = none ∨ ys[i]? = none)
    (h : R (.ok (.ret (.bool (decide (xs.size < ys.size))))) (up s hh tk)) :
    codeAny (model pw w) A (.builtin "list.__eq__.loop" ⟨[.ref a, .ref b, rawInt i, rawInt 0], []⟩) R (up s hh tk) := by
  obtain ⟨n1, ha⟩ := ha
  obtain ⟨n2, hb⟩ := hb
  refine codeAny_builtin MeetsSeq3.entry_eq_loop ?_
  rw [Around.under_plainId MeetsSeq3.plain_eq_loop _]
  unfold Builtin.«list.__eq__.loop»
  repeat lk
  simp only [Int.toNat_natCast]
  rcases ex with ex | ex
  · rw [ex]
    cases ys[i]? with
    | none =>
      repeat lk
      exact h
    | some _ =>
      repeat lk
      exact h
  · rw [ex]
    cases xs[i]? with
    | none =>
      repeat lk
      exact h
    | some _ =>
      repeat lk
      exact h
theorem Lt_walk {a b : Addr} {xs ys : Array Value} {ts us : List T} {R : Result → Shared → Prop} (ha : Li hh a xs) (hb : Li hh b ys) (sa : Strs xs ts) (sb : Strs ys us) (k : Nat) (hk : ∀ j, j < k → ∃ t, ts[j]? = some t ∧ us[j]? = some t)
    (h : codeAny (model pw w) A (.builtin "list.__eq__.loop" ⟨[.ref a, .ref b, rawInt k, rawInt 0], []⟩) R (up s hh tk)) : ∀ d i : Nat, i + d = k →
    codeAny (model pw w) A (.builtin "list.__eq__.loop" ⟨[.ref a, .ref b, rawInt i, rawInt 0], []⟩) R (up s hh tk)
  | 0, i, e => by
    obtain rfl : i = k := by omega
    exact h
  | d + 1, i, e => by
    obtain ⟨t, e1, e2⟩ := hk i (by omega)
    obtain ⟨u, hu⟩ := sa.at i t e1
    obtain ⟨v, hv⟩ := sb.at i t e2
    exact Lt_step ha hb hu hv (Lt_walk ha hb sa sb k hk h d (i + 1) (by omega))
theorem Lt_call {a b : Addr} {xs ys : Array Value} {r : Bool} {Q : Value → Shared → Prop} (hu : A.units < PySem.cLine) (ha : Li hh a xs) (hb : Li hh b ys)
    (hw : ∀ (A' : Around) (R : Result → Shared → Prop), R (.ok (.ret (.bool r))) (up s hh tk) → codeAny (model pw w) A' (.builtin "list.__eq__.loop" ⟨[.ref a, .ref b, rawInt (0 : Nat), rawInt 0], []⟩) R (up s hh tk))
    (h : Q (.bool r) (up s hh tk)) : wpAny (model pw w) A (richCompare .Lt (.ref a) (.ref b)) Q E (up s hh tk) := by
  have ta : (up s hh tk).TypeIs (.ref a) "list" := Heap.IsList.typeIs (s := up s hh tk) ha.is
  have tb : (up s hh tk).TypeIs (.ref b) "list" := Heap.IsList.typeIs (s := up s hh tk) hb.is
  obtain ⟨n1, ha⟩ := ha
  obtain ⟨n2, hb⟩ := hb
  refine wpAny_richCompare_same_room (op := .Lt) ta tb F.slot_list_lt ?_ hu
  refine wpAny_call (codeAny_call_builtin F.slot_list_lt.plain F.entry_list_lt (F.slot_list_lt.check _ _ _ _ _ _ _ _ ta (F.args_list_lt_2 _ _) ?_))
  show wpAny _ _ (slotArgs "__lt__" 1 ⟨[.ref a, .ref b], []⟩ >>= _) _ _ _
  unfold slotArgs
  repeat first | (with_reducible refine wpAny_isInstance (T := "list") (b := true) tb (by rw [isSubtype_type]; kernel_rfl) ?_) | lk
  exact ⟨plainId_quiet MeetsSeq3.plain_eq_loop _, hw _ _ ⟨(fun x => nomatch x), h⟩⟩
theorem Gt_step {a b : Addr} {xs ys : Array Value} {x : T} {u v : Tok} {i : Nat} {R : Result → Shared → Prop} (ha : Li hh a xs) (hb : Li hh b ys) (ex : xs[i]? = some (.str (S x) u)) (ey : ys[i]? = some (.str (S x) v))
    (h : codeAny (model pw w) A (.builtin "list.__eq__.loop" ⟨[.ref a, .ref b, rawInt ((i + 1 : Nat) : Int), rawInt 4], []⟩) R (up s hh tk)) :
    codeAny (model pw w) A (.builtin "list.__eq__.loop" ⟨[.ref a, .ref b, rawInt i, rawInt 4], []⟩) R (up s hh tk) := by
  obtain ⟨n1, ha⟩ := ha
  obtain ⟨n2, hb⟩ := hb
  refine codeAny_builtin MeetsSeq3.entry_eq_loop ?_
  rw [Around.under_plainId MeetsSeq3.plain_eq_loop _]
  unfold Builtin.«list.__eq__.loop»
  repeat lk
  simp only [Int.toNat_natCast]
  rw [ex, ey]
  refine wpAny_bind (SeqAt.EqAt.str_str _ _ _ _ _ _ _ _ ?_)
  rw [beq_self_eq_true, if_pos rfl]
  exact wpAny_pure ⟨plainId_quiet MeetsSeq3.plain_eq_loop _, h⟩
theorem Gt_diff {a b : Addr} {xs ys : Array Value} {x y : T} {u v : Tok} {i : Nat} {R : Result → Shared → Prop} (ha : Li hh a xs) (hb : Li hh b ys) (ex : xs[i]? = some (.str (S x) u)) (ey : ys[i]? = some (.str (S y) v)) (n : x ≠ y)
    (h : R (.ok (.ret (.bool (decide (y < x))))) (up s hh tk)) :
    codeAny (model pw w) A (.builtin "list.__eq__.loop" ⟨[.ref a, .ref b, rawInt i, rawInt 4], []⟩) R (up s hh tk) := by
  obtain ⟨n1, ha⟩ := ha
  obtain ⟨n2, hb⟩ := hb
  refine codeAny_builtin MeetsSeq3.entry_eq_loop ?_
  rw [Around.under_plainId MeetsSeq3.plain_eq_loop _]
  unfold Builtin.«list.__eq__.loop»
  repeat lk
  simp only [Int.toNat_natCast]
  rw [ex, ey]
  refine wpAny_bind (SeqAt.EqAt.str_str _ _ _ _ _ _ _ _ ?_)
  have e : (S x == S y) = false := beq_eq_false_iff_ne.mpr fun e => n (by have := congrArg (fun s : Str => s.cps.toList) e; simpa using this)
  rw [e, if_neg (by decide)]
  repeat lk
  rw [ex, ey]
  refine wpAny_bind ?_
  refine P.gt_str (s := up s hh tk) ?_
  refine wpAny_pure ?_
  exact h
theorem Gt_end {a b : Addr} {xs ys : Array Value} {i : Nat} {R : Result → Shared → Prop} (ha : Li hh a xs) (hb : Li hh b ys) (ex : xs[i]? = none ∨ ys[i]? = none)
    (h : R (.ok (.ret (.bool (decide (xs.size > ys.size))))) (up s hh tk)) :
    codeAny (model pw w) A (.builtin "list.__eq__.loop" ⟨[.ref a, .ref b, rawInt i, rawInt 4], []⟩) R (up s hh tk) := by
  obtain ⟨n1, ha⟩ := ha
  obtain ⟨n2, hb⟩ := hb
  refine codeAny_builtin MeetsSeq3.entry_eq_loop ?_
  rw [Around.under_plainId MeetsSeq3.plain_eq_loop _]
  unfold Builtin.«list.__eq__.loop»
  repeat lk
  simp only [Int.toNat_natCast]
  rcases ex with ex | ex
  · rw [ex]
    cases ys[i]? with
    | none =>
      repeat lk
      exact h
    | some _ =>
      repeat lk
      exact h
  · rw [ex]
    cases xs[i]? with
    | none =>
      repeat lk
      exact h
    | some _ =>
      repeat lk
      exact h
theorem Gt_walk {a b : Addr} {xs ys : Array Value} {ts us : List T} {R : Result → Shared → Prop} (ha : Li hh a xs) (hb : Li hh b ys) (sa : Strs xs ts) (sb : Strs ys us) (k : Nat) (hk : ∀ j, j < k → ∃ t, ts[j]? = some t ∧ us[j]? = some t)
    (h : codeAny (model pw w) A (.builtin "list.__eq__.loop" ⟨[.ref a, .ref b, rawInt k, rawInt 4], []⟩) R (up s hh tk)) : ∀ d i : Nat, i + d = k →
    codeAny (model pw w) A (.builtin "list.__eq__.loop" ⟨[.ref a, .ref b, rawInt i, rawInt 4], []⟩) R (up s hh tk)
  | 0, i, e => by
    obtain rfl : i = k := by omega
    exact h
  | d + 1, i, e => by
    obtain ⟨t, e1, e2⟩ := hk i (by omega)
    obtain ⟨u, hu⟩ := sa.at i t e1
    obtain ⟨v, hv⟩ := sb.at i t e2
    exact Gt_step ha hb hu hv (Gt_walk ha hb sa sb k hk h d (i + 1) (by omega))
theorem Gt_call {a b : Addr} {xs ys : Array Value} {r : Bool} {Q : Value → Shared → Prop} (hu : A.units < PySem.cLine) (ha : Li hh a xs) (hb : Li hh b ys)
    (hw : ∀ (A' : Around) (R : Result → Shared → Prop), R (.ok (.ret (.bool r))) (up s hh tk) → codeAny (model pw w) A' (.builtin "list.__eq__.loop" ⟨[.ref a, .ref b, rawInt (0 : Nat), rawInt 4], []⟩) R (up s hh tk))
    (h : Q (.bool r) (up s hh tk)) : wpAny (model pw w) A (richCompare .Gt (.ref a) (.ref b)) Q E (up s hh tk) := by
  have ta : (up s hh tk).TypeIs (.ref a) "list" := Heap.IsList.typeIs (s := up s hh tk) ha.is
  have tb : (up s hh tk).TypeIs (.ref b) "list" := Heap.IsList.typeIs (s := up s hh tk) hb.is
  obtain ⟨n1, ha⟩ := ha
  obtain ⟨n2, hb⟩ := hb
  refine wpAny_richCompare_same_room (op := .Gt) ta tb F.slot_list_gt ?_ hu
  refine wpAny_call (codeAny_call_builtin F.slot_list_gt.plain F.entry_list_gt (F.slot_list_gt.check _ _ _ _ _ _ _ _ ta (F.args_list_gt_2 _ _) ?_))
  show wpAny _ _ (slotArgs "__gt__" 1 ⟨[.ref a, .ref b], []⟩ >>= _) _ _ _
  unfold slotArgs
  repeat first | (with_reducible refine wpAny_isInstance (T := "list") (b := true) tb (by rw [isSubtype_type]; kernel_rfl) ?_) | lk
  exact ⟨plainId_quiet MeetsSeq3.plain_eq_loop _, hw _ _ ⟨(fun x => nomatch x), h⟩⟩
end
section
variable {A : Around} {E : Value → Shared → Prop} {s : Shared} {hh : Heap} {tk : Nat} {env : Env}
variable {w : World}
theorem r_min2 {D : Nat} {va vb : Value} {r : Bool} {Q : Value → Shared → Prop} (hA : A.handled = none) (hD : Li hh D #[va, vb])
    (hc : ∀ (A' : Around) (h' : Heap) (Q' : Value → Shared → Prop) (E' : Value → Shared → Prop) (k : Nat), A'.units = A.in1.units → Keeps hh h' → Q' (.bool r) (up s h' k) → wpAny (model pw w) A' (richCompare .Lt vb va) Q' E' (up s h' k))
    (h : ∀ h' k, Keeps hh h' → Q (if r = true then vb else va) (up s h' k)) : wpAny (model pw w) A (call (.builtin "min") [.ref D]) Q E (up s hh tk) := by
  have hname : (toString "min" ++ toString ".loop" : String) = "min.loop" := by decide
  have oD : @LT.lt Nat _ D hh.objs.size := hD.lt
  refine call_function_tree F.kind_min F.plain_min F.entry_min (F.args_min1 _) ?_
  show wpAny _ A.in1 (Builtin.Builtins.bindParams "min" ["key", "default"] 0 ⟨[], []⟩ >>= _) _ _ _
  refine wpAny_bind (wpAny_of_eq (show Builtin.Builtins.bindParams "min" ["key", "default"] 0 ⟨[], []⟩ = pure [none, none] from rfl) ?_)
  refine wpAny_bind (wpAny_pure ?_)
  refine wpAny_bind (wpAny_pyIter_list (s := up s hh tk) hD.is ?_)
  have e1 : ((hh.push { cls := .type "list_iterator", data := .fields #[.ref D, .int 0 0] }).objs.size : Nat) = hh.objs.size + 1 := Heap.size_push ..
  refine wpAny_bind (wpAny_newObj_type ?_)
  rw [hname]
  obtain ⟨h1, eh1⟩ : ∃ h1, h1 = (hh.push { cls := .type "list_iterator", data := .fields #[.ref D, .int 0 0] }).push { cls := .type "list", data := .seq ([] : List Value).toArray } := ⟨_, rfl⟩
  have i1 : h1.IsListIter hh.objs.size D 0 := by rw [eh1]; exact ⟨_, Heap.get?_push_of_some _ (Heap.get?_push_size _ rfl), rfl, rfl⟩
  have kp1 : Keeps hh h1 := fun b o e => by rw [eh1]; exact Heap.get?_push_of_some _ (Heap.get?_push_of_some _ e)
  have s1 : h1.get? (hh.objs.size + 1) = some { cls := .type "list", dict := none, data := .seq #[] 0, slots := #[] } := by rw [eh1, ← e1]; exact Heap.get?_push_size _ rfl
  refine wpAny_pure ?_
  show ((Code.builtin "min.loop" ⟨[.ref hh.objs.size, .none, .ref (hh.push { cls := .type "list_iterator", data := .fields #[.ref D, .int 0 0] }).objs.size], []⟩).quiet = true ∧ codeAny (model pw w) A (Code.builtin "min.loop" ⟨[.ref hh.objs.size, .none, .ref (hh.push { cls := .type "list_iterator", data := .fields #[.ref D, .int 0 0] }).objs.size], []⟩) _ _)
  rw [e1, ← eh1]
  refine ⟨plainId_quiet F.plain_min_loop _, ?_⟩
  have nI : @Ne Nat hh.objs.size (hh.objs.size + 1) := by omega
  have nD : @Ne Nat D (hh.objs.size + 1) := by omega
  have nDI : @Ne Nat D hh.objs.size := by omega
  refine codeAny_builtin F.entry_min_loop ?_
  rw [Around.under_plainId F.plain_min_loop _]
  show wpAny _ A.in1 (seqItems? (.ref (hh.objs.size + 1)) >>= _) _ _ _
  refine wpAny_bind (wpAny_seqItems s1 rfl ?_)
  show wpAny _ A.in1 (tryCatch (pyNext (.ref hh.objs.size)) _ >>= _) _ _ _
  refine wpAny_bind (wpAny_tryCatch (wpAny_pyNext_list_item (s := up s h1 tk) i1 (hD.keeps kp1).is (x := va) rfl fun h2 i2 sb2 => ?_))
  have kb2 : KB [hh.objs.size] h1 h2 := fun b o nb e => sb2.extBut b o (fun q => nb (by rw [q]; exact .head _)) e
  have s2 := kb2 _ _ (ni1 (Ne.symm nI)) s1
  show wpAny _ A.in1 (updateSeq (hh.objs.size + 1) (fun _ => #[va, va]) >>= _) _ _ _
  refine wpAny_bind (wpAny_updateSeq s2 rfl ?_)
  have s3 := Heap.get?_update_self (Obj.mapSeq fun _ => #[va, va]) s2 rfl
  have kb3 : KB [hh.objs.size + 1] h2 (h2.update (hh.objs.size + 1) (Obj.mapSeq fun _ => #[va, va])) := fun b o nb e => (Heap.get?_update_other _ _ (fun q => nb (by rw [q]; exact .head _))).trans e
  generalize h2.update (hh.objs.size + 1) (Obj.mapSeq fun _ => #[va, va]) = h3 at s3 kb3
  rw [hname]
  refine wpAny_pure ⟨plainId_quiet F.plain_min_loop _, ?_⟩
  have i3 : h3.IsListIter hh.objs.size D 1 := i2.at fun o e => kb3 _ o (ni1 nI) e
  have D1 := (hD.keeps kp1).kb kb2 (ni1 nDI)
  have D3 := D1.kb kb3 (ni1 nD)
  refine codeAny_builtin F.entry_min_loop ?_
  rw [Around.under_plainId F.plain_min_loop _]
  show wpAny _ A.in1 (seqItems? (.ref (hh.objs.size + 1)) >>= _) _ _ _
  refine wpAny_bind (wpAny_seqItems s3 rfl ?_)
  show wpAny _ A.in1 (tryCatch (pyNext (.ref hh.objs.size)) _ >>= _) _ _ _
  refine wpAny_bind (wpAny_tryCatch (wpAny_pyNext_list_item (s := up s h3 tk) i3 D3.is (x := vb) rfl fun h4 i4 sb4 => ?_))
  have kb4 : KB [hh.objs.size] h3 h4 := fun b o nb e => sb4.extBut b o (fun q => nb (by rw [q]; exact .head _)) e
  have s4 := kb4 _ _ (ni1 (Ne.symm nI)) s3
  have D4 := D3.kb kb4 (ni1 nDI)
  have kpA : Keeps hh h4 := fun b o e => by
    have l : @LT.lt Nat _ b hh.objs.size := Heap.lt_size e
    exact kb4 b o (ni1 (by show @Ne Nat _ _; omega)) (kb3 b o (ni1 (by show @Ne Nat _ _; omega)) (kb2 b o (ni1 (by show @Ne Nat _ _; omega)) (kp1 b o e)))
  show wpAny _ A.in1 (tryCatch (holding [vb, vb] (richCompare .Lt vb va >>= _)) _ >>= _) _ _ _
  refine wpAny_bind (wpAny_tryCatch (wpAny_holding (wpAny_bind (hc _ h4 _ _ _ (by rfl) kpA ?_))))
  refine wpAny_bind (wpAny_holding (wpAny_truthy_bool ?_))
  refine wpAny_bind (wpAny_letGo (wpAny_pure ?_))
  have last : ∀ (h5 : Heap) (v : Value) (o : Nat), Keeps hh h5 → h5.IsListIter hh.objs.size D 2 → Li h5 D #[va, vb] → h5.get? (hh.objs.size + 1) = some { cls := .type "list", dict := none, data := .seq #[v, v] o, slots := #[] } → v = (if r = true then vb else va) →
      codeAny (model pw w) A (Code.builtin "min.loop" ⟨[.ref hh.objs.size, .none, .ref (hh.objs.size + 1)], []⟩) (wants Q E) (up s h5 tk) := by
    intro h5 v o kp5 i5 D5 s5 ev
    refine codeAny_builtin F.entry_min_loop ?_
    rw [Around.under_plainId F.plain_min_loop _]
    show wpAny _ A.in1 (seqItems? (.ref (hh.objs.size + 1)) >>= _) _ _ _
    refine wpAny_bind (wpAny_seqItems s5 rfl ?_)
    show wpAny _ A.in1 (tryCatch (pyNext (.ref hh.objs.size)) _ >>= _) _ _ _
    refine wpAny_bind (wpAny_tryCatch (wpAny_pyNext_list_end (s := up s h5 tk) hA i5 D5.is (by rfl) fun h6 eb6 => ?_))
    have s6 := eb6 _ _ (Ne.symm nI) s5
    show wpAny _ A.in1 (updateSeq (hh.objs.size + 1) (fun _ => #[]) >>= _) _ _ _
    refine wpAny_bind (wpAny_updateSeq s6 rfl (wpAny_bind (wpAny_letGo (wpAny_pure ?_))))
    rw [ev]
    refine h _ tk fun b o e => ?_
    have l : @LT.lt Nat _ b hh.objs.size := Heap.lt_size e
    exact (Heap.get?_update_other _ _ (by show @Ne Nat _ _; omega)).trans (eb6 b o (by show @Ne Nat _ _; omega) (kp5 b o e))
  cases hr : r with
  | true =>
    show wpAny _ A.in1 (updateSeq (hh.objs.size + 1) (fun _ => #[vb, vb]) >>= _) _ _ _
    refine wpAny_bind (wpAny_updateSeq s4 rfl ?_)
    have s5 := Heap.get?_update_self (Obj.mapSeq fun _ => #[vb, vb]) s4 rfl
    have kb5 : KB [hh.objs.size + 1] h4 (h4.update (hh.objs.size + 1) (Obj.mapSeq fun _ => #[vb, vb])) := fun b o nb e => (Heap.get?_update_other _ _ (fun q => nb (by rw [q]; exact .head _))).trans e
    refine wpAny_bind (wpAny_letGo ?_)
    rw [hname]
    refine wpAny_pure ⟨plainId_quiet F.plain_min_loop _, last _ vb _ (fun b o e => ?_) (i4.at fun o e => kb5 _ o (ni1 nI) e) (D4.kb kb5 (ni1 nD)) s5 (by rw [hr]; rfl)⟩
    have l : @LT.lt Nat _ b hh.objs.size := Heap.lt_size e
    exact kb5 b o (ni1 (by show @Ne Nat _ _; omega)) (kpA b o e)
  | false =>
    rw [if_neg (by decide)]
    refine wpAny_bind (wpAny_letGo ?_)
    rw [hname]
    exact wpAny_pure ⟨plainId_quiet F.plain_min_loop _, last _ va _ kpA i4 D4 s4 (by rw [hr]; rfl)⟩
theorem r_max2 {D : Nat} {va vb : Value} {r : Bool} {Q : Value → Shared → Prop} (hA : A.handled = none) (hD : Li hh D #[va, vb])
    (hc : ∀ (A' : Around) (h' : Heap) (Q' : Value → Shared → Prop) (E' : Value → Shared → Prop) (k : Nat), A'.units = A.in1.units → Keeps hh h' → Q' (.bool r) (up s h' k) → wpAny (model pw w) A' (richCompare .Gt vb va) Q' E' (up s h' k))
    (h : ∀ h' k, Keeps hh h' → Q (if r = true then vb else va) (up s h' k)) : wpAny (model pw w) A (call (.builtin "max") [.ref D]) Q E (up s hh tk) := by
  have hname : (toString "max" ++ toString ".loop" : String) = "max.loop" := by decide
  have oD : @LT.lt Nat _ D hh.objs.size := hD.lt
  refine call_function_tree F.kind_max F.plain_max F.entry_max (F.args_max1 _) ?_
  show wpAny _ A.in1 (Builtin.Builtins.bindParams "max" ["key", "default"] 0 ⟨[], []⟩ >>= _) _ _ _
  refine wpAny_bind (wpAny_of_eq (show Builtin.Builtins.bindParams "max" ["key", "default"] 0 ⟨[], []⟩ = pure [none, none] from rfl) ?_)
  refine wpAny_bind (wpAny_pure ?_)
  refine wpAny_bind (wpAny_pyIter_list (s := up s hh tk) hD.is ?_)
  have e1 : ((hh.push { cls := .type "list_iterator", data := .fields #[.ref D, .int 0 0] }).objs.size : Nat) = hh.objs.size + 1 := Heap.size_push ..
  refine wpAny_bind (wpAny_newObj_type ?_)
  rw [hname]
  obtain ⟨h1, eh1⟩ : ∃ h1, h1 = (hh.push { cls := .type "list_iterator", data := .fields #[.ref D, .int 0 0] }).push { cls := .type "list", data := .seq ([] : List Value).toArray } := ⟨_, rfl⟩
  have i1 : h1.IsListIter hh.objs.size D 0 := by rw [eh1]; exact ⟨_, Heap.get?_push_of_some _ (Heap.get?_push_size _ rfl), rfl, rfl⟩
  have kp1 : Keeps hh h1 := fun b o e => by rw [eh1]; exact Heap.get?_push_of_some _ (Heap.get?_push_of_some _ e)
  have s1 : h1.get? (hh.objs.size + 1) = some { cls := .type "list", dict := none, data := .seq #[] 0, slots := #[] } := by rw [eh1, ← e1]; exact Heap.get?_push_size _ rfl
  refine wpAny_pure ?_
  show ((Code.builtin "max.loop" ⟨[.ref hh.objs.size, .none, .ref (hh.push { cls := .type "list_iterator", data := .fields #[.ref D, .int 0 0] }).objs.size], []⟩).quiet = true ∧ codeAny (model pw w) A (Code.builtin "max.loop" ⟨[.ref hh.objs.size, .none, .ref (hh.push { cls := .type "list_iterator", data := .fields #[.ref D, .int 0 0] }).objs.size], []⟩) _ _)
  rw [e1, ← eh1]
  refine ⟨plainId_quiet F.plain_max_loop _, ?_⟩
  have nI : @Ne Nat hh.objs.size (hh.objs.size + 1) := by omega
  have nD : @Ne Nat D (hh.objs.size + 1) := by omega
  have nDI : @Ne Nat D hh.objs.size := by omega
  refine codeAny_builtin F.entry_max_loop ?_
  rw [Around.under_plainId F.plain_max_loop _]
  show wpAny _ A.in1 (seqItems? (.ref (hh.objs.size + 1)) >>= _) _ _ _
  refine wpAny_bind (wpAny_seqItems s1 rfl ?_)
  show wpAny _ A.in1 (tryCatch (pyNext (.ref hh.objs.size)) _ >>= _) _ _ _
  refine wpAny_bind (wpAny_tryCatch (wpAny_pyNext_list_item (s := up s h1 tk) i1 (hD.keeps kp1).is (x := va) rfl fun h2 i2 sb2 => ?_))
  have kb2 : KB [hh.objs.size] h1 h2 := fun b o nb e => sb2.extBut b o (fun q => nb (by rw [q]; exact .head _)) e
  have s2 := kb2 _ _ (ni1 (Ne.symm nI)) s1
  show wpAny _ A.in1 (updateSeq (hh.objs.size + 1) (fun _ => #[va, va]) >>= _) _ _ _
  refine wpAny_bind (wpAny_updateSeq s2 rfl ?_)
  have s3 := Heap.get?_update_self (Obj.mapSeq fun _ => #[va, va]) s2 rfl
  have kb3 : KB [hh.objs.size + 1] h2 (h2.update (hh.objs.size + 1) (Obj.mapSeq fun _ => #[va, va])) := fun b o nb e => (Heap.get?_update_other _ _ (fun q => nb (by rw [q]; exact .head _))).trans e
  generalize h2.update (hh.objs.size + 1) (Obj.mapSeq fun _ => #[va, va]) = h3 at s3 kb3
  rw [hname]
  refine wpAny_pure ⟨plainId_quiet F.plain_max_loop _, ?_⟩
  have i3 : h3.IsListIter hh.objs.size D 1 := i2.at fun o e => kb3 _ o (ni1 nI) e
  have D1 := (hD.keeps kp1).kb kb2 (ni1 nDI)
  have D3 := D1.kb kb3 (ni1 nD)
  refine codeAny_builtin F.entry_max_loop ?_
  rw [Around.under_plainId F.plain_max_loop _]
  show wpAny _ A.in1 (seqItems? (.ref (hh.objs.size + 1)) >>= _) _ _ _
  refine wpAny_bind (wpAny_seqItems s3 rfl ?_)
  show wpAny _ A.in1 (tryCatch (pyNext (.ref hh.objs.size)) _ >>= _) _ _ _
  refine wpAny_bind (wpAny_tryCatch (wpAny_pyNext_list_item (s := up s h3 tk) i3 D3.is (x := vb) rfl fun h4 i4 sb4 => ?_))
  have kb4 : KB [hh.objs.size] h3 h4 := fun b o nb e => sb4.extBut b o (fun q => nb (by rw [q]; exact .head _)) e
  have s4 := kb4 _ _ (ni1 (Ne.symm nI)) s3
  have D4 := D3.kb kb4 (ni1 nDI)
  have kpA : Keeps hh h4 := fun b o e => by
    have l : @LT.lt Nat _ b hh.objs.size := Heap.lt_size e
    exact kb4 b o (ni1 (by show @Ne Nat _ _; omega)) (kb3 b o (ni1 (by show @Ne Nat _ _; omega)) (kb2 b o (ni1 (by show @Ne Nat _ _; omega)) (kp1 b o e)))
  show wpAny _ A.in1 (tryCatch (holding [vb, vb] (richCompare .Gt vb va >>= _)) _ >>= _) _ _ _
  refine wpAny_bind (wpAny_tryCatch (wpAny_holding (wpAny_bind (hc _ h4 _ _ _ (by rfl) kpA ?_))))
  refine wpAny_bind (wpAny_holding (wpAny_truthy_bool ?_))
  refine wpAny_bind (wpAny_letGo (wpAny_pure ?_))
  have last : ∀ (h5 : Heap) (v : Value) (o : Nat), Keeps hh h5 → h5.IsListIter hh.objs.size D 2 → Li h5 D #[va, vb] → h5.get? (hh.objs.size + 1) = some { cls := .type "list", dict := none, data := .seq #[v, v] o, slots := #[] } → v = (if r = true then vb else va) →
      codeAny (model pw w) A (Code.builtin "max.loop" ⟨[.ref hh.objs.size, .none, .ref (hh.objs.size + 1)], []⟩) (wants Q E) (up s h5 tk) := by
    intro h5 v o kp5 i5 D5 s5 ev
    refine codeAny_builtin F.entry_max_loop ?_
    rw [Around.under_plainId F.plain_max_loop _]
    show wpAny _ A.in1 (seqItems? (.ref (hh.objs.size + 1)) >>= _) _ _ _
    refine wpAny_bind (wpAny_seqItems s5 rfl ?_)
    show wpAny _ A.in1 (tryCatch (pyNext (.ref hh.objs.size)) _ >>= _) _ _ _
    refine wpAny_bind (wpAny_tryCatch (wpAny_pyNext_list_end (s := up s h5 tk) hA i5 D5.is (by rfl) fun h6 eb6 => ?_))
    have s6 := eb6 _ _ (Ne.symm nI) s5
    show wpAny _ A.in1 (updateSeq (hh.objs.size + 1) (fun _ => #[]) >>= _) _ _ _
    refine wpAny_bind (wpAny_updateSeq s6 rfl (wpAny_bind (wpAny_letGo (wpAny_pure ?_))))
    rw [ev]
    refine h _ tk fun b o e => ?_
    have l : @LT.lt Nat _ b hh.objs.size := Heap.lt_size e
    exact (Heap.get?_update_other _ _ (by show @Ne Nat _ _; omega)).trans (eb6 b o (by show @Ne Nat _ _; omega) (kp5 b o e))
  cases hr : r with
  | true =>
    show wpAny _ A.in1 (updateSeq (hh.objs.size + 1) (fun _ => #[vb, vb]) >>= _) _ _ _
    refine wpAny_bind (wpAny_updateSeq s4 rfl ?_)
    have s5 := Heap.get?_update_self (Obj.mapSeq fun _ => #[vb, vb]) s4 rfl
    have kb5 : KB [hh.objs.size + 1] h4 (h4.update (hh.objs.size + 1) (Obj.mapSeq fun _ => #[vb, vb])) := fun b o nb e => (Heap.get?_update_other _ _ (fun q => nb (by rw [q]; exact .head _))).trans e
    refine wpAny_bind (wpAny_letGo ?_)
    rw [hname]
    refine wpAny_pure ⟨plainId_quiet F.plain_max_loop _, last _ vb _ (fun b o e => ?_) (i4.at fun o e => kb5 _ o (ni1 nI) e) (D4.kb kb5 (ni1 nD)) s5 (by rw [hr]; rfl)⟩
    have l : @LT.lt Nat _ b hh.objs.size := Heap.lt_size e
    exact kb5 b o (ni1 (by show @Ne Nat _ _; omega)) (kpA b o e)
  | false =>
    rw [if_neg (by decide)]
    refine wpAny_bind (wpAny_letGo ?_)
    rw [hname]
    exact wpAny_pure ⟨plainId_quiet F.plain_max_loop _, last _ va _ kpA i4 D4 s4 (by rw [hr]; rfl)⟩
end
noncomputable def fB : List Stmt := match tB.drop 6 with | .For _ _ b _ _ :: _ => b | _ => []
section
variable {A : Around} {E : Value → Shared → Prop} {s : Shared} {hh : Heap} {tk : Nat} {env : Env}
variable {w : World} {mg mb : Str → Option Value} {m : Str → Option Value} {h₀ : Heap} {L : Nat}
theorem strs_take {items : Array Value} {ts : List T} (st : Strs items ts) (k : Nat) : Strs (items.toList.take k).toArray (ts.take k) := by
  obtain ⟨l, rfl, e⟩ := st
  refine ⟨l.take k, ?_, by rw [List.map_take, e, List.map_take]⟩
  unfold strValues
  rw [List.map_take]
theorem enum_body {X Y : Nat} {xs ys : Array Value} {ts us : List T} {x y : T} {i : Nat} {u1 u2 : Tok} {Q : Flow → Shared → Prop} (Φ : Fm w mg mb h₀ L m hh) (mi : m "i" = some (.int (i : Nat) u1)) (mc : m "c" = some (.str (S x) u2)) (m1 : m "s1" = some (.ref X)) (m2 : m "s2" = some (.ref Y))
    (hX : Li hh X xs) (hY : Li hh Y ys) (sX : Strs xs ts) (sY : Strs ys us) (ey : us[i]? = some y) (hi : i ≤ ts.length) (hts : ts.length ≤ 1000)
    (h1 : x = y → ∀ k, Q .next (up s hh k)) (h2 : x ≠ y → ∀ h' k D its, Fm w mg mb h₀ L (upd m "common" (.ref D)) h' → KB [L] hh h' → Li h' D its → Strs its (ts.take i) → @Ne Nat D L → Q .brk (up s h' k)) :
    wpAny (model pw w) A (execs fB (kE L)) Q E (up s hh tk) := by
  obtain ⟨v, hv⟩ := sY.at i y ey
  have hus : i < us.length := (List.getElem?_eq_some_iff.mp ey).1
  have oL : @LT.lt Nat _ L hh.objs.size := Φ.lt
  refine q_cons ?_
  walk_at "r q_If;hm q_ctest;l x_loc;ht q_sname;l x_loc;l x_loc"
  refine i_list hY hv (by omega) ?_
  refine r_neS ?_
  refine wpAny_truthy_bool ?_
  by_cases e : x = y
  · refine if_ndt e ?_
    walk_at "r q_nil;r q_nil"
    exact h1 e _
  · refine if_ndn e ?_
    walk_at "r q_cons;hs q_asn"
    (with_reducible refine s_lupto ?ht ?_); (case ht => intro _ _; rfl)
    walk_at "l x_loc;l x_loc"
    refine ⟨X, xs, _, hh, _, i, rfl, rfl, hX.is, by rw [sX.size]; exact hi, by rw [sX.size]; omega, rfl, fun h3 D kp hD oD => ?_⟩
    have Φ3 := Φ.keeps kp
    have oD' : @LE.le Nat _ hh.objs.size D := oD
    (refine x_setB (by assumption) ?_ (by kernel_rfl) (by rfl)); (intro _ _ _); walk_at "r q_cons;r wpAny_Break"
    rename_i h4 Φ4 kb4
    exact h2 e h4 _ D _ Φ4 ((KB.of kp).trans kb4) (hD.kb kb4 (ni1 (by omega))) (strs_take sX i) (by omega)
theorem enum_loop {X Y e it : Nat} {xs ys : Array Value} {ts us : List T} {k : Nat} {R : Result → Shared → Prop} {pi pc pt : Pos} {x1 : Nat} (hA : A.handled = none) (Φ : Fm w mg mb h₀ L m hh) (m1 : m "s1" = some (.ref X)) (m2 : m "s2" = some (.ref Y)) (m3 : m "common" = some (.ref X))
    (hX : Li hh X xs) (hY : Li hh Y ys) (sX : Strs xs ts) (sY : Strs ys us) (hts : ts.length ≤ 1000) (he : IsEnum hh e it 0 .none) (hit : hh.IsListIter it X 0) (nei : @Ne Nat e it) (neL : @Ne Nat e L) (niL : @Ne Nat it L) (nXe : @Ne Nat X e) (nXi : @Ne Nat X it) (nYe : @Ne Nat Y e) (nYi : @Ne Nat Y it) (nXL : @Ne Nat X L) (nYL : @Ne Nat Y L)
    (obe : @LE.le Nat _ h₀.objs.size e) (obi : @LE.le Nat _ h₀.objs.size it) (hk : ∀ j, j < k → ∃ t, ts[j]? = some t ∧ us[j]? = some t) (hend : ts.length = k ∨ ∃ x y, ts[k]? = some x ∧ us[k]? = some y ∧ x ≠ y)
    (fin : ∀ h' m' k' D its, Fm w mg mb h₀ L m' h' → m' "isabs" = m "isabs" → KB [L, e, it] hh h' → m' "common" = some (.ref D) → Li h' D its → Strs its (ts.take k) → R (.ok .next) (up s h' k')) :
    codeAny (model pw w) A (.forLoop (.Tuple [.Name "i" pi, .Name "c" pc] x1 pt) (.ref e) fB [] (kE L)) R (up s hh tk) := by
  have hkl : k ≤ ts.length := by
    rcases hend with q | ⟨x, y, q, _⟩
    · omega
    · exact Nat.le_of_lt (List.getElem?_eq_some_iff.mp q).1
  refine codeAny_forLoop_any (fun n s' => ∃ h' tk m' i old, s' = up s h' tk ∧ IsEnum h' e it ((i : Nat) : Int) old ∧ h'.IsListIter it X i ∧ Li h' X xs ∧ Li h' Y ys ∧ Fm w mg mb h₀ L m' h' ∧ m' "s1" = some (.ref X) ∧ m' "s2" = some (.ref Y) ∧ m' "common" = some (.ref X) ∧ m' "isabs" = m "isabs" ∧ i ≤ k ∧ n = k + 1 - i ∧ KB [L, e, it] hh h') ?_ (k + 1)
    ⟨hh, tk, m, 0, .none, rfl, he, hit, hX, hY, Φ, m1, m2, m3, rfl, Nat.zero_le _, rfl, KB.refl _⟩
  rintro n s' ⟨H, tk, m', i, old, rfl, he', hit', hX', hY', Φ', q1, q2, q3, q4, hi, rfl, kb⟩
  have oL : @LT.lt Nat _ L H.objs.size := Φ'.lt
  have oe : @LT.lt Nat _ e H.objs.size := Heap.lt_size he'
  have oi : @LT.lt Nat _ it H.objs.size := let ⟨_, q, _⟩ := hit'; Heap.lt_size q
  have oX : @LT.lt Nat _ X H.objs.size := hX'.lt
  have oY : @LT.lt Nat _ Y H.objs.size := hY'.lt
  have ob : @LE.le Nat _ h₀.objs.size H.objs.size := Φ'.le
  cases hv : xs[i]? with
  | none =>
    have hsz : xs.size ≤ i := Array.getElem?_eq_none_iff.mp hv
    rw [sX.size] at hsz
    have ek : ts.length = k := by omega
    refine wpAny_pyNext_enum_end (s := up s H tk) hA he' hit' hX'.is hv fun h₁ he₁ => q_nil ?_
    have kb1 : KB [it] H h₁ := fun b o nb q => he₁ b o (fun r => nb (by rw [r]; exact .head _)) q
    exact fin h₁ m' tk X xs (Φ'.kb kb1 (ni1 (Ne.symm niL)) (by intro b hb; obtain rfl := List.mem_singleton.mp hb; exact obi)) q4 (kb.trans (kb1.mono (by intro p hp; simp at hp; simp [hp]))) q3 (hX'.kb kb1 (ni1 nXi)) (by rw [← ek, List.take_length]; exact sX)
  | some v =>
    have hlt : i < ts.length := by rw [← sX.size]; exact (Array.getElem?_eq_some_iff.mp hv).1
    obtain ⟨x, hx⟩ : ∃ x, ts[i]? = some x := ⟨_, List.getElem?_eq_getElem hlt⟩
    obtain ⟨ux, hux⟩ := sX.at i x hx
    obtain rfl : v = .str (S x) ux := Option.some.inj (hv.symm.trans hux)
    obtain ⟨y, hy, hxy⟩ : ∃ y, us[i]? = some y ∧ (i < k → x = y) ∧ (i = k → x ≠ y) := by
      by_cases hik : i < k
      · obtain ⟨t, e1, e2⟩ := hk i hik
        exact ⟨t, e2, fun _ => Option.some.inj (hx.symm.trans e1), fun q => absurd q (Nat.ne_of_lt hik)⟩
      · have eik : i = k := by omega
        rcases hend with q | ⟨x', y', e1, e2, ne⟩
        · omega
        · rw [← eik] at e1 e2
          obtain rfl : x = x' := Option.some.inj (hx.symm.trans e1)
          exact ⟨y', e2, fun q => absurd q hik, fun _ => ne⟩
    refine wpAny_pyNext_enum_item (s := up s H tk) he' hit' hX'.is hv nei fun h₁ heo hit₁ ht₁ hz₁ hk₁ => ?_
    have kb1 : KB [e, it] H h₁ := fun b o nb q => hk₁ b o (fun r => nb (by rw [r]; exact .head _)) (fun r => nb (by rw [r]; exact .tail _ (.head _))) q
    refine wpAny_letOwnedTupleGo_enum heo fun h₂ he₂ hs₂ => ?_
    have kb2 : KB [e] h₁ h₂ := fun b o nb q => hs₂.extBut b o (fun r => nb (by rw [r]; exact .head _)) q
    have hz₁' : (h₁.objs.size : Nat) = H.objs.size + 1 := hz₁
    have hz₂ : (h₂.objs.size : Nat) = H.objs.size + 1 := hs₂.1.trans hz₁
    have ht₂ : h₂.IsTuple H.objs.size #[.int i tk, .str (S x) ux] := ⟨_, kb2 _ _ (ni1 (by show @Ne Nat _ _; omega)) ht₁, rfl, _, rfl⟩
    refine wpAny_assign_Tuple hA ht₂ rfl rfl fun h₃ hx₃ => ?_
    have kb3 : KB [h₂.objs.size] h₂ h₃ := fun b o nb q => hx₃ b o (fun r => nb (by rw [r]; exact .head _)) q
    have Φ3 : Fm w mg mb h₀ L m' h₃ := ((Φ'.kb kb1 (ni2 (Ne.symm neL) (Ne.symm niL)) (by intro b hb; simp only [List.mem_cons, List.not_mem_nil, or_false] at hb; rcases hb with rfl | rfl <;> assumption)).kb kb2 (ni1 (Ne.symm neL)) (by intro b hb; obtain rfl := List.mem_singleton.mp hb; exact obe)).kb kb3 (ni1 (by omega)) (by intro b hb; obtain rfl := List.mem_singleton.mp hb; show @LE.le Nat _ _ _; omega)
    show wpAny _ A (do holding [.str (S x) ux] (assign (.Name "i" pi) (kE L) (.int i tk)); do holding [] (assign (.Name "c" pc) (kE L) (.str (S x) ux)); pure ()) _ _ _
    refine wpAny_bind (wpAny_holding (wpAny_assign_Name (x_setB (s := s) (tk := tk + 1) Φ3 (fun h₄ Φ4 kb4 => ?_) (by rfl) (by rfl))))
    refine wpAny_bind (wpAny_holding (wpAny_assign_Name (x_setB (s := s) (tk := tk + 1 + 1) Φ4 (fun h₅ Φ5 kb5 => wpAny_pure ?_) (by rfl) (by rfl))))
    have kbA : KB [L, e, it] H h₅ := by
      have k1 : KB [e, it, e, h₂.objs.size, L, L] H h₅ := (kb1.mono (by intro p hp; simp at hp; rcases hp with hp | hp <;> simp [hp])).trans ((kb2.mono (by intro p hp; simp at hp; simp [hp])).trans ((kb3.mono (by intro p hp; simp at hp; simp [hp])).trans ((kb4.mono (by intro p hp; simp at hp; simp [hp])).trans (kb5.mono (by intro p hp; simp at hp; simp [hp])))))
      refine k1.drop fun b hb => ?_
      simp only [List.mem_cons, List.not_mem_nil, or_false] at hb ⊢
      rcases hb with rfl | rfl | rfl | rfl | rfl | rfl
      · exact .inl (.inr (.inl rfl))
      · exact .inl (.inr (.inr rfl))
      · exact .inl (.inr (.inl rfl))
      · exact .inr (by show @LE.le Nat _ _ _; omega)
      · exact .inl (.inl rfl)
      · exact .inl (.inl rfl)
    have X5 := hX'.kb kbA (ni3 nXL nXe nXi)
    have Y5 := hY'.kb kbA (ni3 nYL nYe nYi)
    have up2 : ∀ b : Nat, b ≠ L → b < H.objs.size → ∀ o, h₂.get? b = some o → h₅.get? b = some o := fun b n1 n2 o q => kb5 _ _ (ni1 n1) (kb4 _ _ (ni1 n1) (kb3 _ _ (ni1 (by show @Ne Nat _ _; omega)) q))
    refine enum_body (x := x) (y := y) (i := i) Φ5 rfl rfl q1 q2 X5 Y5 sX sY hy (Nat.le_of_lt hlt) hts (fun exy k5 => ?_) fun nxy h₆ k6 D its Φ6 kb6 hD sD nD => ?_
    · have hik : i < k := by
        rcases Nat.lt_or_eq_of_le hi with q | q
        · exact q
        · exact absurd exy (hxy.2 q)
      refine ⟨k + 1 - (i + 1), by omega, h₅, k5, _, i + 1, .str (S x) ux, rfl, ?_, ?_, X5, Y5, Φ5, q1, q2, q3, q4, hik, rfl, kb.trans kbA⟩
      · have : ((i + 1 : Nat) : Int) = (i : Int) + 1 := by push_cast; rfl
        rw [this]
        exact up2 e neL oe _ he₂
      · have hit₂ : h₂.IsListIter it X (i + 1) := hit₁.at fun o q => kb2 _ o (ni1 (Ne.symm nei)) q
        exact hit₂.at fun o q => up2 it niL oi o q
    · have hik : i = k := by
        rcases Nat.lt_or_eq_of_le hi with q | q
        · exact absurd (hxy.1 q) nxy
        · exact q
      exact fin h₆ _ k6 D its Φ6 q4 ((kb.trans kbA).trans (kb6.mono (by intro p hp; simp at hp; simp [hp]))) rfl hD (hik ▸ sD)
end
theorem glue_len (c B : Nat) : ∀ P : List T, (∀ x ∈ P, x.length ≤ B) → (glue c P).length ≤ (B + 1) * P.length
  | [], _ => by simp [glue]
  | [p], h => by have := h p (.head _); rw [glue, List.length_singleton]; omega
  | p :: q :: r, h => by
    have h1 := h p (.head _)
    have h2 := glue_len c B (q :: r) fun x hx => h x (.tail _ hx)
    rw [glue, List.length_append, List.length_cons, List.length_cons, Nat.mul_succ]
    omega
section
variable {A : Around} {E : Value → Shared → Prop} {s : Shared} {hh : Heap} {tk : Nat} {env : Env}
variable {w : World} {mg mb : Str → Option Value} {m : Str → Option Value} {h₀ : Heap} {L : Nat}
theorem cm5 {X Y PT : Nat} {u1 u2 t1 t2 : Tok} {a b : T} {xs ys : Array Value} {ts us : List T} {k : Nat} {Q : Flow → Shared → Prop} (hA : A.handled = none) (Φ : Fm w mg mb h₀ L m hh) (m1 : m "s1" = some (.ref X)) (m2 : m "s2" = some (.ref Y)) (mis : m "isabs" = some (.bool true)) (c : CW hh L PT u1 u2 t1 t2 a b) (ob : @LE.le Nat _ h₀.objs.size L)
    (hX : Li hh X xs) (hY : Li hh Y ys) (sX : Strs xs ts) (sY : Strs ys us) (hts : ts.length ≤ 1000) (hl : ∀ t ∈ ts, t.length ≤ 1000) (nXL : @Ne Nat X L) (nYL : @Ne Nat Y L)
    (hk : ∀ j, j < k → ∃ t, ts[j]? = some t ∧ us[j]? = some t) (hend : ts.length = k ∨ ∃ x y, ts[k]? = some x ∧ us[k]? = some y ∧ x ≠ y)
    (h : ∀ h' m' k' t', Fm w mg mb h₀ L m' h' → Q (.ret (.str (S (47 :: glue 47 (ts.take k))) t')) (up s h' k')) :
    wpAny (model pw w) A (execs (tB.drop 5) (kE L)) Q (fun _ _ => False) (up s hh tk) := by
  refine q_cons ?_
  walk_at "hs q_asn;l x_loc"; (refine x_setB (by assumption) ?_ (by kernel_rfl) (by rfl)); (intro _ _ _); walk_at "r q_cons"
  rename_i h2 Φ2 kb2
  have oX : @LT.lt Nat _ X hh.objs.size := hX.lt
  have oY : @LT.lt Nat _ Y hh.objs.size := hY.lt
  have oPT := c.lt
  have oL := c.oPT
  have X2 := hX.kb kb2 (ni1 nXL)
  have Y2 := hY.kb kb2 (ni1 nYL)
  have c2 := c.kb kb2 (ni1 (by omega)) (ni1 (by omega)) (ni1 (by omega))
  have oX2 : @LT.lt Nat _ X h2.objs.size := X2.lt
  have oY2 : @LT.lt Nat _ Y h2.objs.size := Y2.lt
  have oPT2 := c2.lt
  have oL2 : @LT.lt Nat _ L h2.objs.size := Φ2.lt
  have ob2 : @LE.le Nat _ h₀.objs.size h2.objs.size := Φ2.le
  refine q_for ?_
  walk_at "he q_call;b x_blt Boot.enumerate;hp q_ct;he q_acons;l x_loc;r args_nil"
  refine call_enumerate_list (s := up s h2 _) X2.is fun h3 he hit hz kp3 => ?_
  refine wpAny_pyIter_enum (s := up s h3 _) he ?_
  have kp3' : Keeps h2 h3 := kp3
  refine enum_loop (s := s) (hh := h3) hA (Φ2.keeps kp3') m1 m2 rfl (X2.keeps kp3') (Y2.keeps kp3') sX sY hts he hit (by show @Ne Nat _ _; omega) (by show @Ne Nat (h2.objs.size + 1) L; omega) (by show @Ne Nat h2.objs.size L; omega) (by show @Ne Nat X (h2.objs.size + 1); omega) (by show @Ne Nat X h2.objs.size; omega) (by show @Ne Nat Y (h2.objs.size + 1); omega) (by show @Ne Nat Y h2.objs.size; omega) nXL nYL
    (by show @LE.le Nat _ h₀.objs.size (h2.objs.size + 1); omega) (by show @LE.le Nat _ h₀.objs.size h2.objs.size; omega) hk hend fun h4 m4 k4 D its Φ4 q4 kb4 q5 hD sD => ?_
  have mis4 : m4 "isabs" = some (.bool true) := q4.trans mis
  have kbA : KB [L] h2 h4 := ((KB.of kp3').trans kb4).drop fun b hb => by
    simp only [List.mem_cons, List.not_mem_nil, or_false] at hb
    rcases hb with rfl | rfl | rfl
    · exact .inl (.head _)
    · exact .inr (Nat.le_succ _)
    · exact .inr (Nat.le_refl _)
  have c4 := c2.kb kbA (ni1 (by omega)) (ni1 (by omega)) (ni1 (by omega))
  walk_at "r q_cons;hs q_asn;r q_ife;r q_tn;l x_loc;r wpAny_truthy_bool"
  refine x_cell (s := up s h4 _) (by rfl) c4.sep ?_ (by rfl) (by decide)
  (refine x_setB (by assumption) ?_ (by kernel_rfl) (by rfl)); (intro _ _ _); walk_at "r q_cons;r q_ret;r q_bin;l x_loc;M"
  rename_i h5 Φ5 kb5
  have nD := hD.neL Φ4
  have c5 := c4.kb kb5 (ni1 (by omega)) (ni1 (by omega)) (ni1 (by omega))
  have D5 := hD.kb kb5 (ni1 nD)
  refine x_cell (s := up s h5 _) (by rfl) c5.sep ?_ (by rfl) (by decide)
  walk_at "r GM.join;hp q_cm;he q_acons;l x_loc;r args_nil"
  obtain ⟨l, rfl, el⟩ := sD
  have hlk : ∀ t ∈ ts.take k, t.length ≤ 1000 := fun t ht => hl t (List.mem_of_mem_take ht)
  have hnk : (ts.take k).length ≤ 1000 := Nat.le_trans (by rw [List.length_take]; exact Nat.min_le_right _ _) hts
  refine r_join D5.is el 1000 hlk (by
    have h1 : (ts.take k).length * 1000 ≤ 1000 * 1000 := Nat.mul_le_mul_right _ hnk
    simp only [List.length_cons, List.length_nil]; omega) fun t6 k6 => ?_
  rw [glue_eq]
  refine r_add (by
    have h1 := glue_len 47 1000 _ hlk
    have h2 : 1001 * (ts.take k).length ≤ 1001 * 1000 := Nat.mul_le_mul_left _ hnk
    simp only [List.length_cons, List.length_nil]
    exact Nat.le_trans (Nat.add_le_add_left (Nat.le_trans h1 h2) _) (by decide)) fun t7 k7 hk7 => ?_
  exact h h5 _ k7 t7 Φ5
theorem cm4 {SD PT : Nat} {u1 u2 t1 t2 : Tok} {a b : T} {va vb : Value} {as' bs : List T} {k : Nat} {Q : Flow → Shared → Prop} (hA : A.handled = none) (hu : A.units + 2 < PySem.cLine) (Φ : Fm w mg mb h₀ L m hh) (mp : m "split_paths" = some (.ref SD)) (mis : m "isabs" = some (.bool true)) (c : CW hh L PT u1 u2 t1 t2 a b) (ob : @LE.le Nat _ h₀.objs.size L)
    (hS : Li hh SD #[va, vb]) (nS : @Ne Nat SD L) (ha : Ls L hh va as') (hb : Ls L hh vb bs) (las : as'.length ≤ 1000) (lbs : bs.length ≤ 1000) (la : ∀ t ∈ as', t.length ≤ 1000) (lb : ∀ t ∈ bs, t.length ≤ 1000)
    (hk : ∀ j, j < k → ∃ t, as'[j]? = some t ∧ bs[j]? = some t) (hend : (as'.length = k ∧ k < bs.length) ∨ ∃ x y, as'[k]? = some x ∧ bs[k]? = some y ∧ x ≠ y ∧ decide (y < x) = !decide (x < y))
    (h : ∀ h' m' k' t', Fm w mg mb h₀ L m' h' → Q (.ret (.str (S (47 :: glue 47 (as'.take k))) t')) (up s h' k')) :
    wpAny (model pw w) A (execs (tB.drop 3) (kE L)) Q (fun _ _ => False) (up s hh tk) := by
  have oPT := c.lt
  have oL := c.oPT
  obtain ⟨Da, ia, rfl, la', sa, na⟩ := ha
  obtain ⟨Db, ib, rfl, lb', sb, nb⟩ := hb
  have hk' : ∀ j, j < k → ∃ t, bs[j]? = some t ∧ as'[j]? = some t := fun j hj => let ⟨t, e1, e2⟩ := hk j hj; ⟨t, e2, e1⟩
  obtain ⟨q, hmin, hmax, hq⟩ : ∃ q : Bool, (∀ (A' : Around) (R : Result → Shared → Prop) (h' : Heap) (k' : Nat), Li h' Da ia → Li h' Db ib → R (.ok (.ret (.bool (!q)))) (up s h' k') → codeAny (model pw w) A' (.builtin "list.__eq__.loop" ⟨[.ref Db, .ref Da, rawInt (0 : Nat), rawInt 0], []⟩) R (up s h' k')) ∧
      (∀ (A' : Around) (R : Result → Shared → Prop) (h' : Heap) (k' : Nat), Li h' Da ia → Li h' Db ib → R (.ok (.ret (.bool q))) (up s h' k') → codeAny (model pw w) A' (.builtin "list.__eq__.loop" ⟨[.ref Db, .ref Da, rawInt (0 : Nat), rawInt 4], []⟩) R (up s h' k')) ∧
      (q = true ∨ ∃ x y, as'[k]? = some x ∧ bs[k]? = some y ∧ x ≠ y) := by
    rcases hend with ⟨e1, e2⟩ | ⟨x, y, e1, e2, ne, ed⟩
    · refine ⟨true, fun A' R h' k' pa pb hR => Lt_walk pb pa sb sa k hk' (Lt_end pb pa (.inr (by rw [Array.getElem?_eq_none_iff, sa.size]; omega)) ?_) k 0 (Nat.zero_add _),
        fun A' R h' k' pa pb hR => Gt_walk pb pa sb sa k hk' (Gt_end pb pa (.inr (by rw [Array.getElem?_eq_none_iff, sa.size]; omega)) ?_) k 0 (Nat.zero_add _), .inl rfl⟩
      · rw [sa.size, sb.size, decide_eq_false (by omega)]; exact hR
      · rw [sa.size, sb.size, decide_eq_true (by show _ < _; omega)]; exact hR
    · obtain ⟨ux, hux⟩ := sa.at k x e1
      obtain ⟨uy, huy⟩ := sb.at k y e2
      refine ⟨decide (x < y), fun A' R h' k' pa pb hR => Lt_walk pb pa sb sa k hk' (Lt_diff pb pa huy hux (Ne.symm ne) (by rw [ed]; exact hR)) k 0 (Nat.zero_add _),
        fun A' R h' k' pa pb hR => Gt_walk pb pa sb sa k hk' (Gt_diff pb pa huy hux (Ne.symm ne) hR) k 0 (Nat.zero_add _), .inr ⟨x, y, e1, e2, ne⟩⟩
  refine q_cons ?_
  walk_at "hs q_asn;he q_call;b x_blt Boot.min;hp q_cm;he q_acons;l x_loc;r args_nil"
  refine r_min2 (r := !q) hA hS (fun A' h' Q' E' k' hu' kp hQ => Lt_call (by rw [hu', units_in1]; omega) (lb'.keeps kp) (la'.keeps kp) (fun A'' R hR => hmin A'' R h' k' (la'.keeps kp) (lb'.keeps kp) hR) hQ) fun h2 k2 kp2 => ?_
  have Φ2 := Φ.keeps kp2
  (refine x_setB (by assumption) ?_ (by kernel_rfl) (by rfl)); (intro _ _ _); walk_at "r q_cons;hs q_asn;he q_call;b x_blt Boot.max;hp q_cm;he q_acons;l x_loc;r args_nil"
  rename_i h3 Φ3 kb3
  have kb23 : KB [L] hh h3 := (KB.of kp2).trans kb3
  have hS3 := (hS.keeps kp2).kb kb3 (ni1 nS)
  have a3 := (la'.keeps kp2).kb kb3 (ni1 na)
  have b3 := (lb'.keeps kp2).kb kb3 (ni1 nb)
  refine r_max2 (r := q) hA hS3 (fun A' h' Q' E' k' hu' kp hQ => Gt_call (by rw [hu', units_in1]; omega) (b3.keeps kp) (a3.keeps kp) (fun A'' R hR => hmax A'' R h' k' (a3.keeps kp) (b3.keeps kp) hR) hQ) fun h4 k4 kp4 => ?_
  have Φ4 := Φ3.keeps kp4
  (refine x_setB (by assumption) ?_ (by kernel_rfl) (by rfl)); (intro _ _ _)
  rename_i h5 Φ5 kb5
  have kb35 : KB [L] h3 h5 := (KB.of kp4).trans kb5
  have a5 := a3.kb kb35 (ni1 na)
  have b5 := b3.kb kb35 (ni1 nb)
  have c5 := c.kb (kb23.trans kb35) (ni1 (by omega)) (ni1 (by omega)) (ni1 (by omega))
  show wpAny _ A (execs (tB.drop 5) (kE L)) _ _ _
  have ek : bs.take k = as'.take k := by
    refine List.ext_getElem? fun j => ?_
    rw [List.getElem?_take, List.getElem?_take]
    by_cases hj : j < k
    · rw [if_pos hj, if_pos hj]
      obtain ⟨t, e1, e2⟩ := hk j hj
      rw [e1, e2]
    · rw [if_neg hj, if_neg hj]
  cases q with
  | true =>
    refine cm5 (s := s) (hh := h5) (X := Da) (Y := Db) (xs := ia) (ys := ib) (ts := as') (us := bs) (k := k) hA Φ5 rfl rfl mis c5 ob a5 b5 sa sb las la na nb hk ?_ h
    rcases hend with ⟨e1, e2⟩ | ⟨x, y, e1, e2, ne, ed⟩
    · exact .inl e1
    · exact .inr ⟨x, y, e1, e2, ne⟩
  | false =>
    obtain ⟨x, y, e1, e2, ne⟩ := hq.resolve_left (by decide)
    refine cm5 (s := s) (hh := h5) (X := Db) (Y := Da) (xs := ib) (ys := ia) (ts := bs) (us := as') (k := k) hA Φ5 rfl rfl mis c5 ob b5 a5 sb sa lbs lb nb na hk' (.inr ⟨y, x, e2, e1, Ne.symm ne⟩) ?_
    rw [ek]
    exact h
end
theorem age_ones : ∀ (f : List Nat) (j : Nat), j < ageOf f → f[j]? = some 1
  | [], j, h => absurd h (Nat.not_lt_zero _)
  | [_], j, h => absurd h (Nat.not_lt_zero _)
  | d :: e :: f, j, h => by
    rw [ageOf] at h
    · by_cases hd : d = 1
      · rw [if_pos hd] at h
        cases j with
        | zero => rw [hd]; rfl
        | succ j => rw [List.getElem?_cons_succ]; exact age_ones (e :: f) j (by omega)
      · rw [if_neg hd] at h; exact absurd h (Nat.not_lt_zero _)
    · simp
theorem age_stop : ∀ (f : List Nat), ageOf f + 1 < f.length → ∃ d, f[ageOf f]? = some d ∧ d ≠ 1
  | [], h => absurd h (by simp [ageOf])
  | [_], h => absurd h (by simp [ageOf])
  | d :: e :: f, h => by
    rw [ageOf] at h ⊢
    · by_cases hd : d = 1
      · rw [if_pos hd] at h ⊢
        rw [List.getElem?_cons_succ]
        exact age_stop (e :: f) (by rw [List.length_cons] at h; omega)
      · rw [if_neg hd]
        exact ⟨d, rfl, hd⟩
    · simp
    · simp
theorem keep_digs (l : List Nat) : (([] :: l.map digS : List T)).filter keepT = l.map digS := by
  rw [List.filter_cons, if_neg (by decide)]
  refine List.filter_eq_self.mpr fun t ht => ?_
  obtain ⟨d, _, rfl⟩ := List.mem_map.mp ht
  unfold keepT digS
  simp
  omega
theorem cp_glue (r k : Nat) (h : k ≤ r) : 47 :: glue 47 (((List.replicate r 1).map digS).take k) = cp k := by
  rw [← List.map_take, List.take_replicate, Nat.min_eq_left h]
  cases k with
  | zero => rfl
  | succ k =>
    rw [cp, ← glue_way, List.replicate_succ, List.map_cons, glue]
    · rfl
theorem dig_lt (d : Nat) (h : d ≠ 1) : decide ((digS d) < (digS 1)) = !decide ((digS 1) < (digS d)) := by
  have e : ∀ x y : Nat, ([x] : List Nat) < [y] ↔ x < y := fun x y => by rw [List.cons_lt_cons_iff]; exact ⟨fun h => h.elim id fun q => absurd q.2 (List.not_lt_nil _), .inl⟩
  unfold digS
  rw [Bool.eq_iff_iff]
  simp only [decide_eq_true_eq, Bool.not_eq_true', decide_eq_false_iff_not]
  rw [e, e]
  omega
theorem figs_small {r p : Nat} (hp : p < 9 * 3 ^ r) : ∀ d ∈ figs r p, d < 10 := by
  obtain ⟨l, e, _, h3⟩ := figs_last r p
  intro d hd
  rw [e] at hd
  rcases List.mem_append.mp hd with hd | hd
  · have := h3 d hd; omega
  · obtain rfl := List.mem_singleton.mp hd
    have := Nat.div_lt_of_lt_mul (show p < 3 ^ r * 9 by rw [Nat.mul_comm]; exact hp)
    omega
section
variable {A : Around} {E : Value → Shared → Prop} {s : Shared} {hh : Heap} {tk : Nat} {env : Env}
variable {w : World} {mg mb : Str → Option Value} {m : Str → Option Value} {h₀ : Heap} {L : Nat}
theorem common_try {PT : Nat} {u1 u2 t1 t2 : Tok} {a b : T} {as' bs : List T} {k : Nat} {Q : Flow → Shared → Prop} (hA : A.handled = none) (hu : A.units + 2 < PySem.cLine) (Φ : Fm w mg mb h₀ L m hh) (mp : m "paths" = some (.ref PT)) (c : CW hh L PT u1 u2 t1 t2 (47 :: a) (47 :: b)) (ob : @LE.le Nat _ h₀.objs.size L)
    (ea : Txt.split (S (47 :: a)) (S [47]) = as'.map S) (eb : Txt.split (S (47 :: b)) (S [47]) = bs.map S) (la : (47 :: a).length ≤ 1000) (lb : (47 :: b).length ≤ 1000) (las : as'.length ≤ 1000) (lbs : bs.length ≤ 1000) (lat : ∀ t ∈ as', t.length ≤ 1000) (lbt : ∀ t ∈ bs, t.length ≤ 1000)
    (hk : ∀ j, j < k → ∃ t, (as'.filter keepT)[j]? = some t ∧ (bs.filter keepT)[j]? = some t) (hend : ((as'.filter keepT).length = k ∧ k < (bs.filter keepT).length) ∨ ∃ x y, (as'.filter keepT)[k]? = some x ∧ (bs.filter keepT)[k]? = some y ∧ x ≠ y ∧ decide (y < x) = !decide (x < y))
    (h : ∀ h' m' k' t', Fm w mg mb h₀ L m' h' → Q (.ret (.str (S (47 :: glue 47 ((as'.filter keepT).take k))) t')) (up s h' k')) :
    wpAny (model pw w) A (execs tB (kE L)) Q (fun _ _ => False) (up s hh tk) := by
  have fl : ∀ ts : List T, ts.length ≤ 1000 → (ts.filter keepT).length ≤ 1000 := fun ts h => Nat.le_trans (List.length_filter_le _ _) h
  have ft : ∀ ts : List T, (∀ t ∈ ts, t.length ≤ 1000) → ∀ t ∈ ts.filter keepT, t.length ≤ 1000 := fun ts h t ht => h t (List.mem_filter.mp ht).1
  refine cm1 hA Φ mp c ob ea eb la lb las lbs fun h1 k1 D va vb Φ1 c1 hD nD hva hvb => ?_
  refine cm2 hA Φ1 mp c1 ob fun h2 k2 Φ2 kb2 => ?_
  have c2 := c1.kb kb2 (ni1 (by omega)) (ni1 (by omega)) (ni1 (by have := c1.oPT; omega))
  have k2' : ∀ x ∈ [L], @Eq Nat x L ∨ h1.get? x = none := fun x hx => .inl (List.mem_singleton.mp hx)
  refine cm3 hA Φ2 rfl c2 ob (hD.kb kb2 (ni1 nD)) nD (hva.kb kb2 k2') (hvb.kb kb2 k2') las lbs lat lbt fun h3 k3 D' va' vb' Φ3 c3 hD' nD' hva' hvb' => ?_
  exact cm4 hA hu Φ3 rfl rfl c3 ob hD' nD' hva' hvb' (fl _ las) (fl _ lbs) (ft _ lat) (ft _ lbt) hk hend h
theorem c_commonS {a b : T} {as' bs : List T} {k : Nat} {Pd : Addr} {t1 t2 : Tok} {Q : Value → Shared → Prop} (g : G w mg mb hh) (hroom : A.depth + 3 < recursionLimit) (hA : A.handled = none) (hu : A.units + 8 < PySem.cLine)
    (hP : Li hh Pd #[.str (S (47 :: a)) t1, .str (S (47 :: b)) t2])
    (ea : Txt.split (S (47 :: a)) (S [47]) = as'.map S) (eb : Txt.split (S (47 :: b)) (S [47]) = bs.map S) (la : (47 :: a).length ≤ 1000) (lb : (47 :: b).length ≤ 1000) (las : as'.length ≤ 1000) (lbs : bs.length ≤ 1000) (lat : ∀ t ∈ as', t.length ≤ 1000) (lbt : ∀ t ∈ bs, t.length ≤ 1000)
    (hk : ∀ j, j < k → ∃ t, (as'.filter keepT)[j]? = some t ∧ (bs.filter keepT)[j]? = some t) (hend : ((as'.filter keepT).length = k ∧ k < (bs.filter keepT).length) ∨ ∃ x y, (as'.filter keepT)[k]? = some x ∧ (bs.filter keepT)[k]? = some y ∧ x ≠ y ∧ decide (y < x) = !decide (x < y))
    (h : ∀ h' k' t', Keeps hh h' → Q (.str (S (47 :: glue 47 ((as'.filter keepT).take k))) t') (up s h' k')) :
    wpAny (model pw w) A (call (.ref 858) [.ref Pd]) Q E (up s hh tk) := by
  refine call_cell g (by omega) fun h₁ m k mp Φ kp c1 c2 => ?_
  refine q_cons ?_
  walk_at "hs q_asn;he q_call;b x_blt Boot.tuple;hp q_ct;he q_acons;he q_call;b x_blt Boot.map;hp q_ct;he q_acons;g x_glob g825;he q_acons;l x_loc;r args_nil"
  have oL : @LT.lt Nat _ hh.objs.size h₁.objs.size := Φ.lt
  have oP : @LT.lt Nat _ Pd hh.objs.size := hP.lt
  have C1 : @LT.lt Nat _ (hh.objs.size + 1) h₁.objs.size := let ⟨_, e, _⟩ := c1; Heap.lt_size e
  have C2 : @LT.lt Nat _ (hh.objs.size + 2) h₁.objs.size := let ⟨_, e, _⟩ := c2; Heap.lt_size e
  refine r_map (hP.keeps kp) fun h2 I TT M kp2 hM hT hI o1 o2 o3 => ?_
  have Φ2 := Φ.keeps kp2
  walk_at "r args_nil"
  refine r_tupleMap (A := A.deeper (kE hh.objs.size)) (b₀ := h₁) hA (by show A.depth + 1 < recursionLimit; omega) (Nat.ne_of_gt (Nat.lt_trans o2 o3)) o2 (by show @Ne Nat _ _; omega) kp2 Φ.gg o1 (ts := [47 :: a, 47 :: b])
    ⟨[(S _, t1), (S _, t2)], rfl, rfl⟩ (by show 2 ≤ 1000; decide) hM hT hI ((hP.keeps kp).keeps kp2) fun h3 k3 PT kb3 hPT oPT => ?_
  have Φ3 := Φ2.kb kb3 (ni1 (by omega)) (by intro b hb; obtain rfl := List.mem_singleton.mp hb; show @LE.le Nat _ _ _; omega)
  (refine x_setB (by assumption) ?_ (by kernel_rfl) (by rfl)); (intro _ _ _); walk_at "r q_cons;r q_If;r q_not;r q_tn;l x_loc"
  rename_i h4 Φ4 kb4
  have oPT : @LT.lt Nat _ TT PT := oPT
  have hPT4 := kb4 PT _ (ni1 (by omega)) hPT
  have tPT : IsTup h4 PT #[.str (S (47 :: a)) t1, .str (S (47 :: b)) t2] := ⟨_, hPT4, rfl, _, rfl⟩
  refine truthy_tuple (s := up s h4 _) tPT (by show (2 : Int) < 2 ^ 63; decide) ?_
  refine if_tt ?_
  walk_at "r q_nil;r q_cons;r q_If;r q_tc;he q_call;b x_blt Boot.isinstance;hp q_cm;he q_acons;ht Subscript_Constant;l x_loc;r k_int"
  refine ⟨"tuple", _, slot_tuple_getitem.lookup, IsTup.typeIs (s := up s h4 _) tPT, getItem_tuple (s := up s h4 _) (k := 0) (j := 0) tPT (by decide) (by decide) (by rfl) (by rfl) ?_⟩
  walk_at "he q_acons;b x_blt Boot.bytes;r args_nil"
  refine r_isbytes ?_
  walk_at "r wpAny_truthy_bool;r q_cons;hs q_asn"; (with_reducible refine k_str [47] (by decide +kernel) ?_)
  have n1 : @Ne Nat (hh.objs.size + 1) hh.objs.size := by omega
  have n2 : @Ne Nat (hh.objs.size + 2) hh.objs.size := by omega
  have c1' := cellKb (cellKb (c1.keeps kp2) kb3 (ni1 (by omega))) kb4 (ni1 n1)
  have c2' := cellKb (cellKb (c2.keeps kp2) kb3 (ni1 (by omega))) kb4 (ni1 n2)
  refine x_setC Φ4 c1' n1 (by omega) ?_ (by kernel_rfl) (by kernel_rfl)
  intro h5 Φ5 kb5 c15
  walk_at "r q_cons;hs q_asn"; (with_reducible refine k_str [46] (by decide +kernel) ?_)
  refine x_setC Φ5 (cellKb c2' kb5 (ni1 (by omega))) n2 (by omega) ?_ (by kernel_rfl) (by kernel_rfl)
  intro h6 Φ6 kb6 c26
  walk_at "r q_nil;r q_cons"
  refine try_calm ?_
  have kb46 : KB [hh.objs.size + 1, hh.objs.size + 2] h4 h6 := (kb5.mono (by intro p hp; simp at hp; simp [hp])).trans (kb6.mono (by intro p hp; simp at hp; simp [hp]))
  have hPT6 := kb46 _ _ (ni2 (by omega) (by omega)) hPT4
  show wpAny _ _ (execs tB (kE hh.objs.size)) _ _ _
  refine common_try (A := A.deeper (kE hh.objs.size)) hA (by rw [units_deeper]; omega) Φ6 rfl ⟨hPT6, cellKb c15 kb6 (ni1 (by omega)), c26, by omega⟩ (Nat.le_refl _) ea eb la lb las lbs lat lbt hk hend fun h7 m7 k7 t7 Φ7 => ?_
  exact h h7 k7 t7 Φ7.kept
theorem c_common {p r : Nat} {Pd : Addr} {t1 t2 : Tok} {Q : Value → Shared → Prop} (g : G w mg mb hh) (hroom : A.depth + 3 < recursionLimit) (hA : A.handled = none) (hu : A.units + 8 < PySem.cLine) (hr1 : 1 ≤ r) (hr3 : r ≤ 3) (hp : p < 9 * 3 ^ r)
    (hP : Li hh Pd #[.str (S (wayS (List.replicate r 1))) t1, .str (S (wayS (figs r p))) t2]) (h : ∀ h' k t', Keeps hh h' → Q (.str (S (cp (ageOf (figs r p)))) t') (up s h' k)) :
    wpAny (model pw w) A (call (.ref 858) [.ref Pd]) Q E (up s hh tk) := by
  have hlen := figs_len r p
  have hage := age_le r p
  have cut : ∀ l : List Nat, l ≠ [] → ∃ x, wayS l = 47 :: x := fun l hl => by
    cases l with
    | nil => exact absurd rfl hl
    | cons d l => exact ⟨_, wayS_cons d l⟩
  have n1 : List.replicate r 1 ≠ [] := by intro q; have := congrArg List.length q; simp at this; omega
  have n2 : figs r p ≠ [] := by intro q; rw [q] at hlen; cases hlen
  obtain ⟨a, ea⟩ := cut _ n1
  obtain ⟨b, eb⟩ := cut _ n2
  have la := wayS_len (List.replicate r 1)
  have lb := wayS_len (figs r p)
  have sa := split_way _ n1 (fun d hd => by rw [(List.mem_replicate.mp hd).2]; decide)
  have sb := split_way _ n2 (figs_small hp)
  rw [ea] at la sa hP
  rw [eb] at lb sb hP
  rw [List.length_replicate] at la
  rw [hlen] at lb
  have dl : ∀ l : List Nat, ∀ t ∈ ([] :: l.map digS : List T), t.length ≤ 1000 := fun l t ht => by
    rcases List.mem_cons.mp ht with rfl | ht
    · simp
    · obtain ⟨d, _, rfl⟩ := List.mem_map.mp ht
      simp [digS]
  refine c_commonS (k := ageOf (figs r p)) g hroom hA hu hP sa sb (by omega) (by omega) (by rw [List.length_cons, List.length_map, List.length_replicate]; omega) (by rw [List.length_cons, List.length_map, hlen]; omega) (dl _) (dl _) ?_ ?_ fun h' k' t' kp => ?_
  · intro j hj
    rw [keep_digs, keep_digs, List.getElem?_map, List.getElem?_map, age_ones _ j hj, List.getElem?_replicate, if_pos (by omega)]
    exact ⟨_, rfl, rfl⟩
  · rw [keep_digs, keep_digs]
    rcases Nat.lt_or_eq_of_le hage with q | q
    · right
      obtain ⟨d, hd, nd⟩ := age_stop (figs r p) (by omega)
      refine ⟨digS 1, digS d, ?_, ?_, ?_, dig_lt d nd⟩
      · rw [List.getElem?_map, List.getElem?_replicate, if_pos q]; rfl
      · rw [List.getElem?_map, hd]; rfl
      · intro e
        have := (List.cons.inj e).1
        omega
    · left
      rw [List.length_map, List.length_map, List.length_replicate, hlen, q]
      exact ⟨rfl, Nat.lt_succ_self _⟩
  · have e := h h' k' t' kp
    rw [keep_digs, cp_glue r _ hage]
    exact e
end
section
variable {A : Around} {E : Value → Shared → Prop} {s : Shared} {hh : Heap} {tk : Nat} {env : Env}
variable {w : World} {mg mb : Str → Option Value} {m : Str → Option Value} {h₀ : Heap} {L : Addr}
structure LH (m : Str → Option Value) (ns : List Int) (Pd Hd Gd : Addr) : Prop where
  g : LG m ns Pd Hd
  text : ∃ t, m "text" = some (.str (S (rounds (HN ns) (sep (PP ns)))) t)
  middle : ∃ t, m "middle" = some (.str (S (wayS (List.replicate (HN ns).length 1))) t)
  gaps : m "gaps" = some (.ref Gd)
theorem r_eqN (a b : Nat) {t u : Tok} {Q : Value → Shared → Prop} (h : Q (.bool (decide (a = b))) (up s hh tk)) : wpAny (model pw w) A (compareOp .Eq (.int (a : Nat) t) (.int (b : Nat) u)) Q E (up s hh tk) := by
  refine P.eq_int (s := up s hh tk) ?_
  have e : (((a : Nat) : Int) == ((b : Nat) : Int)) = decide (a = b) := by
    by_cases h : a = b
    · subst h; simp
    · rw [decide_eq_false h, beq_eq_false_iff_ne]; omega
  rw [e]; exact h
theorem no47 (d : Nat) : 47 ∉ ([48 + d] : T) := by rw [List.mem_singleton]; omega
theorem cp_len (k : Nat) : (cp k).length ≤ 2 * k + 1 := by
  cases k with
  | zero => decide
  | succ k => rw [cp, wayS_len, List.length_replicate]; omega
theorem lawC {ns : List Int} {Pd Hd : Addr} {ps hs : Array Value} {R : Result → Shared → Prop} (hA : A.handled = none) (hroom : A.depth + 4 < recursionLimit) (hu : A.units + 8 < PySem.cLine) (Φ : Fm w mg mb h₀ L m hh) (lf : LG m ns Pd Hd)
    (hP : Li hh Pd ps) (sP : Strs ps (PP ns)) (hH : Li hh Hd hs) (iH : Ints hs (HN ns)) (mt : ∃ t, m "text" = some (.str (S (rounds (HN ns) (sep (PP ns)))) t))
    (oP : @LE.le Nat _ h₀.objs.size Pd) (oH : @LE.le Nat _ h₀.objs.size Hd) 
    (h : ∀ h' m' k Gd gs, Fm w mg mb h₀ L m' h' → LH m' ns Pd Hd Gd → Li h' Gd gs → Strs gs ((List.range ((PP ns).length * 3 ^ (HN ns).length)).map (lawGap (PP ns) (HN ns))) → h₀.objs.size ≤ Gd →
      wpAny (model pw w) A (execs ((dB (st 54)).drop 14) (lE L)) (fun r s' => R (.ok r) s') (fun e s' => R (.error e) s') (up s h' k)) :
    wpAny (model pw w) A (execs ((dB (st 54)).drop 11) (lE L)) (fun r s' => R (.ok r) s') (fun e s' => R (.error e) s') (up s hh tk) := by
  obtain ⟨⟨t1, l1⟩, ⟨t2, l2⟩, l3, l4⟩ := lf
  obtain ⟨t3, l5⟩ := mt
  have nP := hP.neL Φ
  have nH := hH.neL Φ
  have r3 : (HN ns).length ≤ 3 := by have : fm ns.sum 3 < 3 := fm_lt _ (by decide); rw [HN_len]; omega
  have r1 : 1 ≤ (HN ns).length := by rw [HN_len]; omega
  have c9 : (PP ns).length ≤ 9 := Nat.le_trans (PP_le ns) (kN_le _)
  have c1 : 1 ≤ (PP ns).length := by rw [PP_len]; omega
  refine nameR fun Qn1 En1 hQ1 hE1 => ?_
  refine q_cons ?_
  walk_at "hs q_asn;r q_bin"; (with_reducible refine k_str [47, 49] (by decide +kernel) ?_); walk_at "l n_loc"
  refine r_mulS 1 _ (by walk_at "x2") fun t4 k4 => ?_
  walk_at "sB;r q_cons;hs q_asn;r q_list;r args_nil"
  rename_i h2 Φ2 kb2
  refine k_newList Φ2 (by simp) fun h3 kp3 Φ3 hG => ?_
  walk_at "sB;r q_cons"
  rename_i h4 Φ4 kb4
  refine q_for ?_
  walk_at "he q_call;b n_blt Boot.range;hp q_ct;he q_acons;r q_bin;l n_loc;r q_bin;r k_int;l n_loc"
  refine r_pow3 _ r3 ?_
  refine r_mulN _ _ (by walk_at "x2") (Nat.lt_of_le_of_lt (Nat.pow_le_pow_right (by decide) r3) (by decide)) ?_
  walk_at "r args_nil"
  have hN : (PP ns).length * 3 ^ (HN ns).length ≤ 243 := Nat.le_trans (Nat.mul_le_mul c9 (Nat.pow_le_pow_right (by decide) r3)) (by decide)
  with_reducible refine r_range Φ4 ?rg
  intro h5 t6 u6 kp5 Φ5 hr5
  with_reducible refine p_range Φ5 hr5 ?bd ?pr
  case bd => omega
  intro h6 kp6 Φ6 hi6
  have nG := hG.neL Φ3
  have oG : @LT.lt Nat _ h2.objs.size h3.objs.size := hG.lt
  have G4 := hG.kb kb4 (ni1 nG)
  have H2 := hH.kb kb2 (ni1 nH)
  have P2 := hP.kb kb2 (ni1 nP)
  have oH2 : @LT.lt Nat _ Hd h2.objs.size := H2.lt
  have oP2 : @LT.lt Nat _ Pd h2.objs.size := P2.lt
  have oG5 : @LT.lt Nat _ h2.objs.size h5.objs.size := (G4.keeps kp5).lt
  have oL5 : @LT.lt Nat _ L h5.objs.size := Φ5.lt
  have oH5 : @LT.lt Nat _ Hd h5.objs.size := (((H2.keeps kp3).kb kb4 (ni1 nH)).keeps kp5).lt
  have oP5 : @LT.lt Nat _ Pd h5.objs.size := (((P2.keeps kp3).kb kb4 (ni1 nP)).keeps kp5).lt
  have ob5 : @LE.le Nat _ h₀.objs.size h5.objs.size := Φ5.le
  have ob2 : @LE.le Nat _ h₀.objs.size h2.objs.size := Φ2.le
  have nH' : @Ne Nat Hd L := nH
  have nP' : @Ne Nat Pd L := nP
  have nG' : @Ne Nat h2.objs.size L := nG
  have H6 := (((H2.keeps kp3).kb kb4 (ni1 nH)).keeps kp5).keeps kp6
  have P6 := (((P2.keeps kp3).kb kb4 (ni1 nP)).keeps kp5).keeps kp6
  refine loop_W (Walks.range (A := A) hA h5.objs.size 0 1 ((PP ns).length * 3 ^ (HN ns).length)) [h2.objs.size] ?_ ?_
    (fun i m' h' => LH m' ns Pd Hd h2.objs.size ∧ ∃ q, Li h' h2.objs.size q ∧ Strs q ((List.range i).map (lawGap (PP ns) (HN ns)))) ?_ Φ6 hi6 ⟨⟨⟨⟨t1, l1⟩, ⟨t2, l2⟩, l3, l4⟩, ⟨t3, l5⟩, ⟨t4, rfl⟩, rfl⟩, #[], (G4.keeps kp5).keeps kp6, Strs.nil⟩ (by kernel_rfl) (by kernel_rfl) ?_ ?_
  · intro b hb
    obtain rfl := List.mem_singleton.mp hb
    try subst hQ1 hE1
    exact ⟨ni1 (by walk_at "x2"), show @Ne Nat _ _ by walk_at "x2"⟩
  · intro b hb
    obtain rfl := List.mem_singleton.mp hb
    show @LE.le Nat _ _ _
    omega
  · rintro i m' h' h'' ⟨a, q, b, c⟩ kb
    try subst hQ1 hE1
    exact ⟨a, q, b.kb kb (by walk_at "x3"), c⟩
  · rintro i v m' h7 k7 hi2 ⟨tv, rfl⟩ kb7 ⟨⟨⟨⟨x1, y1⟩, ⟨x2, y2⟩, y3, y4⟩, ⟨x5, y5⟩, ⟨x6, y6⟩, y7⟩, q, hq, sq⟩ Φ7 hk7
    have ei : (0 + (i : Int) * 1) = ((i : Nat) : Int) := by omega
    rw [ei] at Φ7
    have H7 := H6.kb kb7 (by walk_at "x3")
    have P7 := P6.kb kb7 (by walk_at "x3")
    have hp9 : i < 9 * 3 ^ (HN ns).length := Nat.lt_of_lt_of_le hi2 (Nat.mul_le_mul_right _ c9)
    refine nameQ fun Qn2 hQ2 => ?_
    refine q_cons ?_
    walk_at "hs q_asn;he q_call;g n_glob g900;K;he q_acons;l n_loc;he q_acons;l n_loc;r args_nil;A"
    refine c_way (Fm.gg (by assumption)) (by walk_at "x2") hA r3 (by walk_at "x2") fun h8 k8 u8 kp8 => ?_
    have Φ8 := Φ7.keeps kp8
    rw [wayGo_wayS]
    walk_at "sB;r q_cons;hs q_asn;r q_bin;he q_call;b n_blt Boot.len;hp q_cm;he q_acons;he q_call;g n_glob g858;K;he q_acons;r q_list;he q_acons;l n_loc;he q_acons;l n_loc;r args_nil"
    rename_i h9 Φ9 kb9
    refine k_newList Φ9 (by simp) fun h10 kp10 Φ10 hL10 => ?_
    walk_at "r args_nil;A"
    refine c_common (Fm.gg (by assumption)) (by walk_at "x2") hA hu r1 r3 hp9 hL10 fun h11 k11 u11 kp11 => ?_
    have Φ11 := Φ10.keeps kp11
    walk_at "r args_nil"
    have hage := age_le (HN ns).length i
    have hcl := cp_len (ageOf (figs (HN ns).length i))
    refine r_lenS (by walk_at "x2") ?_
    walk_at "r k_int"
    refine r_fdiv (b := 2) (by decide) (by walk_at "x2") (by decide) ?_
    rw [cp_half]
    walk_at "sB;r q_cons;hs q_asn;r q_bin"; (with_reducible refine k_str [47, 49] (by decide +kernel) ?_); walk_at "l n_loc"
    refine r_mulS 1 _ (by walk_at "x2") fun t12 k12 => ?_
    walk_at "sB;r q_cons;r q_If;hm q_ctest;l n_loc;l n_loc"
    refine r_eqN _ _ ?_
    by_cases ha : ageOf (figs (HN ns).length i) = (HN ns).length
    · rw [decide_eq_true ha]
      walk_at "r wpAny_truthy_bool;r q_cons;X;M;l n_loc"
      refine m_append (hq.kb (X := [L]) (by walk_at "kb") (ni1 nG')) ?_
      walk_at "hp q_cm;he q_acons;he q_call;g n_glob g893;K;he q_acons"
      (with_reducible refine sub_any ?sa ?sb); (case sb => intro _ _; rfl)
      walk_at "l n_loc;he q_call;b n_blt Boot.int;hp q_ct;he q_acons;he q_call;g n_glob g853;K;he q_acons;l n_loc;r args_nil;A"
      obtain ⟨pre, epre⟩ := way_base (HN ns).length i
      have hd9 : i / 3 ^ (HN ns).length < 9 := Nat.div_lt_of_lt_mul (by rw [Nat.mul_comm]; exact hp9)
      have hwl := wayS_len (figs (HN ns).length i)
      rw [figs_len, epre] at hwl
      rw [epre]
      refine c_base (Fm.gg (by assumption)) (by walk_at "x2") (no47 _) (by walk_at "x2") fun h13 k13 u13 kp13 => ?_
      walk_at "r args_nil"
      refine r_int _ (by walk_at "x2") ?_
      have kbB : KB [L] h7 h13 := by walk_at "kb"
      have hdl : i / 3 ^ (HN ns).length < (PP ns).length := Nat.div_lt_of_lt_mul (by rw [Nat.mul_comm]; exact hi2)
      obtain ⟨x, hx⟩ : ∃ x, (PP ns)[i / 3 ^ (HN ns).length]? = some x := ⟨_, List.getElem?_eq_getElem hdl⟩
      obtain ⟨ux, hux⟩ := sP.at _ _ hx
      have hx3 := PP_3 ns x (List.mem_of_getElem? hx)
      refine i_list (P7.kb kbB (ni1 nP')) hux (by walk_at "x2") ?_
      have Φ13 : Fm w mg mb h₀ L _ h13 := Fm.keeps (by assumption) kp13
      walk_at "he q_acons;l n_loc;r args_nil;A"
      refine c_aged (Fm.gg (by assumption)) (by walk_at "x2") hA (by walk_at "x2") (H7.kb kbB (ni1 nH')) iH (HN_lt ns) r3 fun h14 k14 u14 kp14 => ?_
      have kbC : KB [L] h7 h14 := by walk_at "kb"
      have Φ14 := Φ13.keeps kp14
      have q14 := hq.kb kbC (ni1 nG')
      walk_at "r args_nil"
      refine r_append q14 (by rw [sq.size, List.length_map, List.length_range]; omega) fun h15 q15 kb15 => ?_
      have Φ15 := Φ14.kb kb15 (by walk_at "x3") (by intro b hb; obtain rfl := List.mem_singleton.mp hb; show @LE.le Nat _ _ _; walk_at "x2")
      walk_at "r q_nil;r q_nil"
      try subst hQ2
      refine ⟨_, h15, _, rfl, Φ15, ⟨⟨⟨⟨x1, y1⟩, ⟨x2, y2⟩, y3, y4⟩, ⟨x5, y5⟩, ⟨x6, y6⟩, y7⟩, _, q15, ?_⟩, by walk_at "kb"⟩
      have e := sq.push (aged (HN ns) x) k14
      rw [List.range_succ, List.map_append]
      have eg : lawGap (PP ns) (HN ns) i = aged (HN ns) x := by
        unfold lawGap
        rw [if_pos ha, List.getD_eq_getElem?_getD, hx]; rfl
      rw [show [i].map (lawGap (PP ns) (HN ns)) = [aged (HN ns) x] by rw [← eg]; rfl]
      first | exact e | exact sq.push _ _
    · rw [decide_eq_false ha]
      walk_at "r wpAny_truthy_bool;r q_cons;r q_If;hm q_ctest;l n_loc;r q_bin;l n_loc;r q_bin"; (with_reducible refine k_str [47, 48] (by decide +kernel) ?_); walk_at "r q_bin;r q_bin;l n_loc;l n_loc"
      refine r_subN _ _ hage ?_
      walk_at "r k_int"
      refine i_add _ 1 ?_
      refine r_mulS 0 _ (by walk_at "x2") fun t13 k13 => ?_
      refine r_add (by rw [wayS_len, wayS_len, List.length_replicate, List.length_replicate]; omega) fun t14 k14 hk14 => ?_
      rw [← wayS_append]
      refine r_eqS ?_
      by_cases hb : figs (HN ns).length i = List.replicate (ageOf (figs (HN ns).length i)) 1 ++ List.replicate ((HN ns).length - ageOf (figs (HN ns).length i) + 1) 0
      · rw [decide_eq_true ((wayS_inj _ _).mpr hb)]
        walk_at "r wpAny_truthy_bool;r q_cons;X;M;l n_loc"
        rename_i h13 Φ13 kb13
        have kbB : KB [L] h7 h13 := by walk_at "kb"
        have q13 := hq.kb kbB (ni1 nG')
        refine m_append q13 ?_
        walk_at "hp q_cm;he q_acons"; (with_reducible refine k_str [] (by decide +kernel) ?_); walk_at "r args_nil"
        refine r_append q13 (by rw [sq.size, List.length_map, List.length_range]; omega) fun h15 q15 kb15 => ?_
        have Φ15 := Φ13.kb kb15 (by walk_at "x3") (by intro b hb; obtain rfl := List.mem_singleton.mp hb; show @LE.le Nat _ _ _; walk_at "x2")
        walk_at "r q_nil;r q_nil;r q_nil"
        try subst hQ2
        refine ⟨_, h15, _, rfl, Φ15, ⟨⟨⟨⟨x1, y1⟩, ⟨x2, y2⟩, y3, y4⟩, ⟨x5, y5⟩, ⟨x6, y6⟩, y7⟩, _, q15, ?_⟩, by walk_at "kb"⟩
        rw [List.range_succ, List.map_append]
        have eg : lawGap (PP ns) (HN ns) i = [] := by
          unfold lawGap
          rw [if_neg ha, if_pos hb]
        rw [show [i].map (lawGap (PP ns) (HN ns)) = [[]] by rw [List.map_cons, eg]; rfl]
        try subst hQ2
        exact sq.push _ _
      · rw [decide_eq_false fun q => hb ((wayS_inj _ _).mp q)]
        walk_at "r wpAny_truthy_bool;r q_cons;r q_If;hm q_ctest;l n_loc;r q_bin;r q_bin;r q_bin;l n_loc;r q_bin"; (with_reducible refine k_str [47, 50] (by decide +kernel) ?_); walk_at "r q_bin;l n_loc;l n_loc"
        refine r_subN _ _ hage ?_
        refine r_mulS 2 _ (by walk_at "x2") fun t15 k15 => ?_
        refine r_add (by rw [wayS_len, wayS_len, List.length_replicate, List.length_replicate]; omega) fun t16 k16 hk16 => ?_
        rw [← wayS_append]
        (with_reducible refine k_str [47] (by decide +kernel) ?_)
        refine r_add (by rw [wayS_len, List.length_append, List.length_replicate, List.length_replicate]; simp only [List.length_cons, List.length_nil]; omega) fun t17 k17 hk17 => ?_
        walk_at "he q_call;b n_blt Boot.str;hp q_ct;he q_acons;r q_bin;l n_loc;r k_int"
        refine r_subN _ 1 c1 ?_
        walk_at "r args_nil"
        refine r_dig (by walk_at "x2") ?_
        refine r_add (by rw [List.length_append, wayS_len, List.length_append, List.length_replicate, List.length_replicate]; simp only [List.length_cons, List.length_nil]; omega) fun t18 k18 hk18 => ?_
        rw [List.append_assoc, show ([47] ++ [48 + ((PP ns).length - 1)] : T) = wayS [(PP ns).length - 1] from rfl, ← wayS_append]
        refine r_eqS ?_
        by_cases hc : figs (HN ns).length i = List.replicate (ageOf (figs (HN ns).length i)) 1 ++ List.replicate ((HN ns).length - ageOf (figs (HN ns).length i)) 2 ++ [(PP ns).length - 1]
        · rw [decide_eq_true ((wayS_inj _ _).mpr hc)]
          walk_at "r wpAny_truthy_bool;r q_cons;X;M;l n_loc"
          rename_i h13 Φ13 kb13
          have kbB : KB [L] h7 h13 := by walk_at "kb"
          have q13 := hq.kb kbB (ni1 nG')
          refine m_append q13 ?_
          walk_at "hp q_cm;he q_acons"; (with_reducible refine k_str [] (by decide +kernel) ?_); walk_at "r args_nil"
          refine r_append q13 (by rw [sq.size, List.length_map, List.length_range]; omega) fun h15 q15 kb15 => ?_
          have Φ15 := Φ13.kb kb15 (by walk_at "x3") (by intro b hb; obtain rfl := List.mem_singleton.mp hb; show @LE.le Nat _ _ _; walk_at "x2")
          walk_at "r q_nil;r q_nil;r q_nil;r q_nil"
          try subst hQ2
          refine ⟨_, h15, _, rfl, Φ15, ⟨⟨⟨⟨x1, y1⟩, ⟨x2, y2⟩, y3, y4⟩, ⟨x5, y5⟩, ⟨x6, y6⟩, y7⟩, _, q15, ?_⟩, by walk_at "kb"⟩
          rw [List.range_succ, List.map_append]
          have eg : lawGap (PP ns) (HN ns) i = [] := by
            unfold lawGap
            rw [if_neg ha, if_neg hb, if_pos hc]
          rw [show [i].map (lawGap (PP ns) (HN ns)) = [[]] by rw [List.map_cons, eg]; rfl]
          try subst hQ2
          exact sq.push _ _
        · rw [decide_eq_false fun q => hc ((wayS_inj _ _).mp q)]
          walk_at "r wpAny_truthy_bool;r q_cons;X;M;l n_loc"
          rename_i h13 Φ13 kb13
          have kbB : KB [L] h7 h13 := by walk_at "kb"
          have q13 := hq.kb kbB (ni1 nG')
          have H13 := H7.kb kbB (ni1 nH')
          refine m_append q13 ?_
          walk_at "hp q_cm;he q_acons;he q_call;g n_glob g893;K;he q_acons"; (with_reducible refine k_str [34] (by decide +kernel) ?_); walk_at "he q_acons"
          (with_reducible refine s_lfrom ?ht2 ?_); (case ht2 => intro _ _; rfl)
          walk_at "l n_loc;r q_bin;r q_bin;l n_loc;l n_loc"
          refine r_subN _ _ hage ?_
          walk_at "r k_int"
          refine r_subN _ 1 (by walk_at "x2") ?_
          try subst hQ2
          refine ⟨Hd, hs, _, h13, _, (HN ns).length - ageOf (figs (HN ns).length i) - 1, rfl, rfl, H13.is, by rw [iH.1]; omega, by rw [iH.1]; omega, rfl, fun h14 S14 kp14 L14 oS => ?_⟩
          have Φ14 := Φ13.keeps kp14
          walk_at "r args_nil;A"
          refine c_aged (Fm.gg (by assumption)) (by walk_at "x2") hA (by decide) L14 (iH.drop _) (fun a ha => HN_lt ns a (List.mem_of_mem_drop ha)) (by rw [List.length_drop]; omega) fun h15 k15 u15 kp15 => ?_
          have kbC : KB [L] h7 h15 := by walk_at "kb"
          have Φ15 := Φ14.keeps kp15
          have q15 := hq.kb kbC (ni1 nG')
          walk_at "r args_nil"
          refine r_append q15 (by rw [sq.size, List.length_map, List.length_range]; omega) fun h16 q16 kb16 => ?_
          have Φ16 := Φ15.kb kb16 (by walk_at "x3") (by intro b hb; obtain rfl := List.mem_singleton.mp hb; show @LE.le Nat _ _ _; walk_at "x2")
          walk_at "r q_nil;r q_nil;r q_nil;r q_nil"
          try subst hQ2
          refine ⟨_, h16, _, rfl, Φ16, ⟨⟨⟨⟨x1, y1⟩, ⟨x2, y2⟩, y3, y4⟩, ⟨x5, y5⟩, ⟨x6, y6⟩, y7⟩, _, q16, ?_⟩, by walk_at "kb"⟩
          rw [List.range_succ, List.map_append]
          have eg : lawGap (PP ns) (HN ns) i = aged ((HN ns).drop ((HN ns).length - ageOf (figs (HN ns).length i) - 1)) [34] := by
            unfold lawGap
            rw [if_neg ha, if_neg hb, if_neg hc]
          rw [show [i].map (lawGap (PP ns) (HN ns)) = [aged ((HN ns).drop ((HN ns).length - ageOf (figs (HN ns).length i) - 1)) [34]] by rw [← eg]; rfl]
          try subst hQ2
          exact sq.push _ _
  · intro m' h' k' kb ⟨lf, q, hq, sq⟩ Φ'
    try subst hQ1 hE1
    exact h h' m' k' _ q Φ' lf hq sq ob2
end
section
variable {A : Around} {E : Value → Shared → Prop} {s : Shared} {hh : Heap} {tk : Nat} {env : Env}
variable {w : World} {mg mb : Str → Option Value} {L : Addr}
theorem lawGap_len (ns : List Int) (p : Nat) : (lawGap (PP ns) (HN ns) p).length ≤ 300 := by
  have h3 : (HN ns).length ≤ 3 := by have : fm ns.sum 3 < 3 := fm_lt _ (by decide); rw [HN_len]; omega
  have key : ∀ (hs : List Nat) (t : T), hs.length ≤ 3 → t.length ≤ 3 → (aged hs t).length ≤ 300 := by
    intro hs t h1 h2
    have h4 : ∀ t : T, (aged hs t).length ≤ 16 * t.length := by
      intro t
      induction t with
      | nil => simp [aged]
      | cons c t ih =>
        unfold aged at ih ⊢
        rw [List.flatMap_cons, List.length_append, List.length_cons]
        have : (agedC hs c).length ≤ 1 + 5 * hs.length := shows_len 1 hs [c] (Nat.le_refl _)
        omega
    have := h4 t
    omega
  unfold lawGap
  dsimp only
  split
  · refine key _ _ h3 ?_
    rw [List.getD_eq_getElem?_getD]
    cases q : (PP ns)[p / 3 ^ (HN ns).length]? with
    | none => simp
    | some x => exact PP_3 ns x (List.mem_of_getElem? q)
  · split
    · simp
    · split
      · simp
      · exact key _ _ (by rw [List.length_drop]; omega) (by decide)
noncomputable def LR (s : Shared) (hh : Heap) (r : Result) (s' : Shared) : Prop := match r with
  | .ok f => f = .ret (.bool true) ∧ ∃ L m h' k, s' = up s h' k ∧ Fr hh L h' m
  | .error _ => False
theorem PP_bound (ns : List Int) : (rounds (HN ns) (sep (PP ns))).length ≤ 2 ^ 20 := by
  have key : ∀ r, r < 3 → Nat.repeat (fun x => 30 * x + 12) (1 + r) (4 * kN r) ≤ 2 ^ 20 := by decide
  have h1 := rounds_len (HN ns) (sep (PP ns)) (4 * kN (fm ns.sum 3)) (Nat.le_trans (sep_len _ (PP_3 ns)) (Nat.mul_le_mul_left 4 (PP_le ns)))
  rw [HN_len] at h1
  exact Nat.le_trans h1 (key _ (fm_lt _ (by decide)))
theorem PP_count (ns : List Int) : (PP ns).length * 3 ^ (HN ns).length ≤ 1000 := by
  have c9 : (PP ns).length ≤ 9 := Nat.le_trans (PP_le ns) (kN_le _)
  have r3 : (HN ns).length ≤ 3 := by have : fm ns.sum 3 < 3 := fm_lt _ (by decide); rw [HN_len]; omega
  exact Nat.le_trans (Nat.mul_le_mul c9 (Nat.pow_le_pow_right (by decide) r3)) (by decide)
theorem law_fin {ns : List Int} {h17 : Heap} {m17 : Str → Option Value} {k17 : Nat} {Pd Hd Gd : Addr} {gs : Array Value} (Φ17 : Fm w mg mb hh L m17 h17) (lh : LH m17 ns Pd Hd Gd) (hG : Li h17 Gd gs)
    (sG : Strs gs ((List.range ((PP ns).length * 3 ^ (HN ns).length)).map (lawGap (PP ns) (HN ns)))) (oG : hh.objs.size ≤ Gd) :
    wpAny (model pw w) (callerA.deeper (lE L)) (execs ((dB (st 54)).drop 14) (lE L)) (fun r s' => LR s hh (.ok r) s') (fun e s' => LR s hh (.error e) s') (up s h17 k17) := by
  obtain ⟨⟨lr, ⟨tc, lc⟩, lp, lhd⟩, ⟨tt, lt⟩, lm, lg⟩ := lh
  have nG := hG.neL Φ17
  have P_ne : PP ns ≠ [] := by unfold PP; simp
  have H_ne : HN ns ≠ [] := by intro q; have := HN_len ns; rw [q] at this; simp at this; omega
  have p0_ne : (PP ns).getD 0 [] ≠ [] := by
    obtain ⟨c, hc, _⟩ := pc0_un ns.sum
    show pc0 ns.sum ≠ []
    exact List.ne_nil_of_mem hc
  obtain ⟨pl1, pl2⟩ := plain_law (PP ns) (HN ns) H_ne P_ne (fun x hx h39 => (PP_no ns x hx 39 h39).1 rfl) p0_ne
  have hsure := rounds_sure (HN ns) (t := sep (PP ns)) H_ne fun c hc => by
    rcases sep_mem (PP ns) c hc with rfl | ⟨x, hx, hc⟩
    · decide
    · exact (PP_no ns x hx c hc).2
  have hroom : (callerA.deeper (lE L)).depth + 1 < recursionLimit := by rw [depth_deeper, depth_caller]; decide
  have hu : (callerA.deeper (lE L)).units < PySem.cLine := by rw [units_deeper, units_caller]; decide
  have hAA : (callerA.deeper (lE L)).handled = none := rfl
  have hn : ((List.range ((PP ns).length * 3 ^ (HN ns).length)).map (lawGap (PP ns) (HN ns))).length ≤ 1000 := by rw [List.length_map, List.length_range]; exact PP_count ns
  have hl : ∀ x ∈ (List.range ((PP ns).length * 3 ^ (HN ns).length)).map (lawGap (PP ns) (HN ns)), x.length ≤ 300 := fun x hx => by obtain ⟨p, _, rfl⟩ := List.mem_map.mp hx; exact lawGap_len ns p
  with_reducible refine wpAny_mono (law_try (Q := fun r s' => LR s hh (.ok r) s') Φ17 lt (PP_bound ns) hsure hG oG nG ?z1) ?z2 ?z3
  case z2 => exact fun _ _ x => x
  case z3 => exact fun _ _ x => x.elim
  intro h18 k18 v18 Φ18 hG18 hv
  with_reducible refine law_end (E := fun _ _ => False) (u := tt) (cu := tc) hAA hroom hu Φ18 ?y1 ?y2 ?y3 ?y4 hG18 sG hn hl pl1 pl2 hv ?y5
  case y1 => exact lt
  case y2 => exact lg
  case y3 => exact lc
  case y4 => rfl
  intro h19 m19 k19 Φ19
  exact ⟨rfl, L, m19, h19, k19, rfl, Φ19.F⟩
theorem lawA {D : Addr} {vs : List Value} {ns : List Int} {h₁ : Heap} {k : Nat} {m₀ : Str → Option Value} (hm : m₀ "script" = some (.ref D)) (hD : hh.IsList D vs.toArray) (hi : IntsAre vs ns) (hn : ns.length ≤ 63) (hL : L = hh.objs.size)
    (Φ : Fm w mg mb hh L m₀ h₁) :
    wpAny (model pw w) (callerA.deeper (lE L)) (execs (dB (st 54)) (lE L)) (fun r s' => LR s hh (.ok r) s') (fun e s' => LR s hh (.error e) s') (up s h₁ k) := by
  refine q_cons ?_
  walk_at "hs q_asn;r q_list;he q_acons"; (with_reducible refine k_str [97] (by decide +kernel) ?_); walk_at "he q_acons"; (with_reducible refine k_str [32] (by decide +kernel) ?_); walk_at "he q_acons"; (with_reducible refine k_str [38] (by decide +kernel) ?_); walk_at "he q_acons"; (with_reducible refine k_str [60] (by decide +kernel) ?_); walk_at "he q_acons"; (with_reducible refine k_str [62] (by decide +kernel) ?_); walk_at "he q_acons"; (with_reducible refine k_str [34] (by decide +kernel) ?_); walk_at "he q_acons"; (with_reducible refine k_str [13] (by decide +kernel) ?_); walk_at "he q_acons"; (with_reducible refine k_str [9] (by decide +kernel) ?_); walk_at "he q_acons"; (with_reducible refine k_str [10] (by decide +kernel) ?_); walk_at "he q_acons"; (with_reducible refine k_str [] (by decide +kernel) ?_); walk_at "r args_nil"
  refine k_newList Φ (by simp) fun h2 kp2 Φ2 hIt0 => ?_
  obtain ⟨its, hIt, sIt⟩ : ∃ its, Li h2 h₁.objs.size its ∧ Strs its itemL := ⟨_, hIt0, ⟨[(S [97], _), (S [32], _), (S [38], _), (S [60], _), (S [62], _), (S [34], _), (S [13], _), (S [9], _), (S [10], _), (S [], _)], rfl, rfl⟩⟩
  have hL' : @Eq Nat L hh.objs.size := hL
  have oL : hh.objs.size < h₁.objs.size := hL ▸ Φ.lt
  walk_at "sB;r q_cons;hs q_asn;r q_list;he q_acons;g n_glob g872;he q_acons;g n_glob g879;he q_acons;g n_glob g886;r args_nil"
  rename_i h3 Φ3 kb3
  refine k_newList Φ3 (by simp) fun h4 kp4 Φ4 hWr => ?_
  walk_at "sB;r q_cons;hs q_asn;he q_call;b n_blt Boot.sum;hp q_cm;he q_acons;l n_loc;r args_nil"
  rename_i h5 Φ5 kb5
  refine r_sum rfl (hD.at fun _ e => Φ5.kept _ _ e) hi fun h6 k6 t6 kp6 => ?_
  have Φ6 := Φ5.keeps kp6
  walk_at "sB;r q_cons;hs q_asn;r q_bin;r k_int;r q_bin;l n_loc;r k_int"
  refine i_mod 3 (by decide) ?_
  refine i_add 1 (fm ns.sum 3) ?_
  walk_at "sB;r q_cons;hs q_asn;r q_bin;r k_int;r q_bin;he q_call;b n_blt Boot.len;hp q_cm;he q_acons;l n_loc;r args_nil"
  have D6 : ∀ {h7}, Keeps hh h7 → h7.IsList D vs.toArray := fun kp => hD.at fun _ e => kp _ _ e
  rename_i h7 Φ7 kb7
  refine len_l (D6 Φ7.kept) (by rw [List.size_toArray, hi.length]; omega) ?_
  (with_reducible refine sub_any ?sh36 ?ss36); (case ss36 => intro _ _; rfl); walk_at "r q_list;he q_acons;r k_int;he q_acons;r k_int;he q_acons;r k_int;r args_nil"
  refine k_newList Φ7 (by simp) fun h8 kp8 Φ8 hT => ?_
  have r3 : fm ns.sum 3 < 3 := fm_lt _ (by decide)
  obtain ⟨ukk, hkk⟩ := pick3 (a := k6 + 1 + 1 + 1 + 1 + 1 + 1 + 1 + 2) (b := k6 + 1 + 1 + 1 + 1 + 1 + 1 + 1 + 2 + 1) (c := k6 + 1 + 1 + 1 + 1 + 1 + 1 + 1 + 2 + 1 + 1) (fm ns.sum 3) r3
  walk_at "r q_bin;l n_loc;r k_int"
  refine i_sub1 (fm ns.sum 3) ?_
  refine i_list hT hkk (by walk_at "x2") ?_
  rw [show ((vs.toArray.size : Nat) : Int) = ((ns.length : Nat) : Int) by rw [List.size_toArray, hi.length]]
  refine r_mod (kN_pos _) ?_
  refine i_add 1 (ns.length % kN (fm ns.sum 3)) ?_
  walk_at "sB;r q_cons;hs q_asn;r q_bin"; (with_reducible refine sub_any ?sh37 ?ss37); (case ss37 => intro _ _; rfl); walk_at "l n_loc;r q_bin;l n_loc;r k_int"
  rename_i h9 Φ9 kb9
  have kb29 : KB [L] h2 h9 := by walk_at "kb"
  have It9 : Li h9 h₁.objs.size its := hIt.kb kb29 (ni1 (by walk_at "x2"))
  refine i_mod 10 (by decide) ?_
  obtain ⟨u1, hu1⟩ := item_at sIt (fm ns.sum 10) (fm_lt _ (by decide))
  refine i_list It9 hu1 (Nat.lt_trans (fm_lt _ (by decide)) (by decide)) ?_
  (with_reducible refine sub_any ?sh38 ?ss38); (case ss38 => intro _ _; rfl); walk_at "l n_loc;r q_bin;r q_bin;l n_loc;r k_int"
  refine i_fdiv 10 (by decide) (by decide) ?_
  walk_at "r k_int"
  refine i_mod 10 (by decide) ?_
  obtain ⟨u2, hu2⟩ := item_at sIt (fm (ns.sum.fdiv 10) 10) (fm_lt _ (by decide))
  refine i_list It9 hu2 (Nat.lt_trans (fm_lt _ (by decide)) (by decide)) ?_
  refine r_add (by have := pc_len ns.sum; unfold pc at this; rw [List.length_append] at this; omega) fun t10 k10 hk10 => ?_
  walk_at "sB;r q_cons;hs q_asn;r q_list;he q_acons;r q_ife;r q_tc;M;l n_loc"; refine GM.replace ?_; walk_at "hp q_cm;he q_acons"; (with_reducible refine k_str [97] (by decide +kernel) ?_); walk_at "he q_acons"; (with_reducible refine k_str [] (by decide +kernel) ?_); walk_at "r args_nil"
  have hpl := pc_len ns.sum
  refine (r_rep (x := pc ns.sum) (by walk_at "x2") (by walk_at "x2") (by walk_at "x2") (by decide) (by simp only [List.length_nil, Nat.mul_zero]; omega) fun t11 k11 hk11 => ?_ : wpAny _ _ (call (.builtin "str.replace") [.str (S (pc ns.sum)) t10, .str (S [97]) (k10 + 1), .str (S []) (k10 + 1 + 1)]) _ _ _)
  have hsl : (subst1 97 [] (pc ns.sum)).length ≤ 4 := Nat.le_trans (subst1_nil _ _) (by walk_at "x2")
  refine r_truthy (by walk_at "x2") ?_
  rename_i h12 Φ12 kb12
  refine if_joinV (fun v s' => ∃ t k, v = .str (S (pc0 ns.sum)) t ∧ s' = up s h12 k) (fun hb => ?_) (fun hb => ?_) ?_
  · (walk_at "l n_loc")
    exact ⟨_, _, by unfold pc0; rw [if_neg (by simpa using hb)]; rfl, rfl⟩
  · (walk_at "r q_bin"; (with_reducible refine k_str [38] (by decide +kernel) ?_); walk_at "l n_loc")
    refine r_add (by simp only [List.length_cons, List.length_nil]; show 0 + 1 + (pc ns.sum).length ≤ _; omega) fun t13 k13 hk13 => ?_
    exact ⟨_, _, by unfold pc0; rw [if_pos (by simpa using hb)]; rfl, rfl⟩
  rintro _ _ ⟨t13, k13, rfl, rfl⟩
  walk_at "r args_nil"
  refine k_newList Φ12 (by simp) fun h13 kp13 Φ13 hP13 => ?_
  obtain ⟨p0, hP13, sP13⟩ : ∃ p0, Li h13 h12.objs.size p0 ∧ Strs p0 [pc0 ns.sum] := ⟨_, hP13, ⟨[(S (pc0 ns.sum), _)], rfl, rfl⟩⟩
  walk_at "sB"
  rename_i h14 Φ14 kb14
  have oL5 : @LT.lt Nat _ L h₁.objs.size := Φ.lt
  have oI : @LT.lt Nat _ h₁.objs.size h3.objs.size := (hIt.kb kb3 (ni1 (by walk_at "x2"))).lt
  have kb39 : KB [L] h4 h9 := by clear kb29; walk_at "kb"
  have W9 : Li h9 h3.objs.size _ := hWr.kb kb39 (ni1 (by walk_at "x2"))
  have W12 := W9.kb kb12 (ni1 (by walk_at "x2"))
  have oW : @LT.lt Nat _ h3.objs.size h12.objs.size := W12.lt
  have P14 := hP13.kb kb14 (ni1 (by walk_at "x2"))
  have W14 := (W12.keeps kp13).kb kb14 (ni1 (by walk_at "x2"))
  have I14 := ((It9.kb kb12 (ni1 (by walk_at "x2"))).keeps kp13).kb kb14 (ni1 (by walk_at "x2"))
  have oD : @LT.lt Nat _ D hh.objs.size := let ⟨_, e, _⟩ := hD; Heap.lt_size e
  have D14 : h14.IsList D vs.toArray := D6 Φ14.kept
  have r3' : (HN ns).length ≤ 3 := by rw [HN_len]; omega
  have rfA : (callerA.deeper (lE L)).depth + 4 < recursionLimit := by rw [depth_deeper, depth_caller]; decide
  have hAA : (callerA.deeper (lE L)).handled = none := rfl
  have n1 : @LT.lt Nat _ D L := by omega
  have n2 : @LT.lt Nat _ h3.objs.size h12.objs.size := oW
  have n3 : @LT.lt Nat _ h₁.objs.size h12.objs.size := by omega
  have n4 : @LE.le Nat _ hh.objs.size L := by omega
  have n5 : @LT.lt Nat _ L h3.objs.size := by omega
  show wpAny _ _ (execs ((dB (st 54)).drop 7) (lE L)) _ _ _
  with_reducible refine lawB1 (R := LR s hh) (Wr := h3.objs.size) hAA Φ14 ?lf D14 hi hn I14 sIt P14 sP13 n1 oL5 n3 n4 ?z1
  case lf => exact ⟨hm, rfl, rfl, ⟨_, rfl⟩, ⟨_, rfl⟩, ⟨_, rfl⟩, rfl⟩
  intro h15 m15 k15 ps15 kb15 Φ15 lf15 hP15 sP15
  replace sP15 : Strs ps15 (PP ns) := sP15
  have W15 := W14.kb kb15 (ni2 (by walk_at "x2") (by walk_at "x2"))
  have o15 : @LT.lt Nat _ h12.objs.size h15.objs.size := hP15.lt
  with_reducible refine lawB2 (R := LR s hh) hAA ?z2 Φ15 lf15 W15 hP15 sP15 n5 n2 n4 ?z3
  case z2 => omega
  intro h16 m16 k16 Hd hs kb16 Φ16 lg16 hH16 iH oH t16
  have P16 := hP15.kb kb16 (ni1 (by walk_at "x2"))
  have oH' : @LE.le Nat _ h15.objs.size Hd := oH
  have n6 : @LE.le Nat _ hh.objs.size h12.objs.size := by omega
  have n7 : @LE.le Nat _ hh.objs.size Hd := by omega
  have huA : (callerA.deeper (lE L)).units + 8 < PySem.cLine := by rw [units_deeper, units_caller]; decide
  with_reducible refine lawC (R := LR s hh) hAA rfA huA Φ16 lg16 P16 sP15 hH16 iH t16 n6 n7 ?z4
  intro h17 m17 k17 Gd gs Φ17 lh hG sG oG
  with_reducible exact law_fin Φ17 lh hG sG oG
theorem c_law {D : Addr} {vs : List Value} {ns : List Int} (g : G w mg mb hh) (hD : hh.IsList D vs.toArray) (hi : IntsAre vs ns) (hn : ns.length ≤ 63) :
    wpAny (model pw w) callerA (call (.ref 914) [.ref D]) (fun v s' => v = .bool true ∧ ∃ L m h' k, s' = up s h' k ∧ Fr hh L h' m) (fun _ _ => False) (up s hh tk) := by
  refine call_on [("script", .ref D)] g.on (by decide) (f914 _) (by kernel_rfl) (.of_eq (by rfl)) fun h₁ L k hL k1 Φ hk => ?_
  have hA : wpAny (model pw w) (callerA.deeper (lE L)) (execs (dB (st 54)) (lE L)) (fun r s' => LR s hh (.ok r) s') (fun e s' => LR s hh (.error e) s') (up s h₁ k) := by
    with_reducible refine lawA ?hm hD hi hn hL Φ
    case hm => rfl
  unfold lE at hA
  with_reducible refine wpAny_mono hA ?hq ?he
  case hq =>
    intro r s' hr
    obtain ⟨rfl, hr⟩ := hr
    exact ⟨rfl, hr⟩
  case he =>
    intro e s' hr
    exact hr.elim
end
theorem g914 (P : Params) : nsIn (K P) mainGlobals dk.1.name = some (some (.ref 914)) := by kernel_rfl
theorem walk0 : WalkX q loose (XL q []) (X.obsZ as) (X.valZ K 915 1489) row.toRowW dk.1 dk.2 fun f vs => PySem.call f vs := by
  intro w s₀ s₁ mg mb G₀ Y fa o pm cd doc dV kV ho hd hcd hD hmg hg args vals as' LL hpre hlay hrd hwl hlo
  have YF := X.z_facts as_keys Y
  refine Ground.open G₀ ?_
  intro T B D TE TW
  have X1 : (K w.params).In s₁.heap := fun a ob e => LL.keeps a ob (YF.2.1 a ob e)
  have TR := topRead_of T
  obtain rfl : fa = 914 := by
    have h1 := mg_of X1 TR.g (g914 w.params)
    rw [hmg] at h1
    exact Value.ref.inj (Option.some.inj h1)
  wrow_args hpre hlay hrd hwl hlo
  rename IntsAre _ _ => hi
  rename Heap.IsList _ _ _ => hl
  refine wpAny_mono (c_law (s := s₁) (hh := s₁.heap) (tk := s₁.toks) ⟨X1, TR⟩ hl hi (by omega)) (fun v s' hv => ?_) fun _ _ z => z.elim
  obtain ⟨rfl, L, m, h', k, rfl, F⟩ := hv
  refine GoodW.toG (goodW_bool (b := true) F hg (fun cls => ?_) ?_ rfl)
  · rfl
  · kernel_rfl
theorem all : PySem.Challenge.rw_rt0109_01.Holds := head walk0
end Mine
theorem PySem.Challenge.cw_rt0109_01_holds : PySem.Challenge.rw_rt0109_01.Holds :=
  Mine.all
