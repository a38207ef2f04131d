import PyProof.Rows.All
import KE.KIntText
import KE.KTurnsGround
import Wide.FinOn
import OpenK.AllK
import Wide.All
import PySem.Challenge.RW_tr0051_01
set_option Elab.async false
set_option maxRecDepth 100000
set_option linter.all false
section
open PySem PySem.W PyProof.Rows
namespace Mine
noncomputable abbrev pw : Program := PySem.Challenge.pw_tr0051_01
noncomputable def stm (k : Nat) : Stmt := (pw.main.body.drop k).headD (.Pass default)
noncomputable def fnAt (k : Nat) (globals : Addr) (dV kV doc pm : Value) (an : Option Addr) (cd ct : Value) (bl : Addr) : FuncData := match stm k with
  | .FunctionDef n a b _ _ _ sc _ _ _ => { name := n, qualname := n, params := a, body := .stmts b, scope := sc, globals := globals, closure := [], defaults := dV, kwdefaults := kV, doc := doc, pyModule := pm, annotations := an, code := cd, closureTuple := ct, builtins := bl }
  | _ => default
noncomputable abbrev E (P : Params) (x : Str) (t : Tok) (v : Value) : DictEntry := ⟨PyData.keyHash P x, .str x t, v⟩
noncomputable abbrev En (k : Int) (t : Tok) (x : Str) (u : Tok) : DictEntry := ⟨k, .int k t, .str x u⟩
/-- the pairs that the text of b3_exceptions shows -/
noncomputable def pairsOf (s : Stmt) : List (Int × Str) := match s with
  | .Assign _ (.Dict ks vs _) _ => (ks.zip vs).filterMap fun kv => match kv with
    | (some (.Constant (.int k) _ _), .Constant (.str x) _ _) => some (k, x)
    | _ => none
  | _ => []
noncomputable def b3Pairs : List (Int × Str) := pairsOf (stm 14)
noncomputable def b3Ent (i : Nat) (p : Int × Str) : DictEntry := let t := if Nat.blt i 646 then 487 + 3 * i else 2425 + 2 * (i - 646); ⟨p.1, .int p.1 t, .str p.2 (t + 1)⟩
noncomputable def b3From : Nat → List (Int × Str) → List DictEntry
  | _, [] => []
  | i, p :: r => b3Ent i p :: b3From (i + 1) r
noncomputable def b3Entries : List DictEntry := b3From 0 b3Pairs
noncomputable def b3Dict (n : Nat) : Obj := ⟨.type "dict", none, .dict (b3Entries.take n).toArray n, #[]⟩
noncomputable def b3Sub (j n : Nat) : Obj := ⟨.type "dict", none, .dict ((b3Entries.drop (17 * j)).take n).toArray n, #[]⟩
noncomputable def o0s (P : Params) : Obj := ⟨(.type "dict"), none, (.dict #[E P "__name__" 1 (.str "builtins" 160), E P "__doc__" 2 (.builtin "builtins.__doc__:str#opaque"), E P "__package__" 3 (.builtin "builtins.__package__:str#opaque"), E P "__loader__" 4 (.builtin "builtins.__loader__:shared#opaque"), E P "__spec__" 5 (.builtin "builtins.__spec__#opaque"), E P "__build_class__" 6 (.builtin "__build_class__"), E P "__import__" 7 (.builtin "__import__"), E P "abs" 8 (.builtin "abs"), E P "all" 9 (.builtin "all"), E P "any" 10 (.builtin "any"), E P "ascii" 11 (.builtin "ascii"), E P "bin" 12 (.builtin "bin"), E P "breakpoint" 13 (.builtin "breakpoint"), E P "callable" 14 (.builtin "callable"), E P "chr" 15 (.builtin "chr"), E P "compile" 16 (.builtin "compile"), E P "delattr" 17 (.builtin "delattr"), E P "dir" 18 (.builtin "dir"), E P "divmod" 19 (.builtin "divmod"), E P "eval" 20 (.builtin "eval"), E P "exec" 21 (.builtin "exec"), E P "format" 22 (.builtin "format"), E P "getattr" 23 (.builtin "getattr"), E P "globals" 24 (.builtin "globals"), E P "hasattr" 25 (.builtin "hasattr"), E P "hash" 26 (.builtin "hash"), E P "hex" 27 (.builtin "hex"), E P "id" 28 (.builtin "id"), E P "input" 29 (.builtin "input"), E P "isinstance" 30 (.builtin "isinstance"), E P "issubclass" 31 (.builtin "issubclass"), E P "iter" 32 (.builtin "iter"), E P "aiter" 33 (.builtin "aiter"), E P "len" 34 (.builtin "len"), E P "locals" 35 (.builtin "locals"), E P "max" 36 (.builtin "max"), E P "min" 37 (.builtin "min"), E P "next" 38 (.builtin "next"), E P "anext" 39 (.builtin "anext"), E P "oct" 40 (.builtin "oct"), E P "ord" 41 (.builtin "ord"), E P "pow" 42 (.builtin "pow"), E P "print" 43 (.builtin "print"), E P "repr" 44 (.builtin "repr"), E P "round" 45 (.builtin "round"), E P "setattr" 46 (.builtin "setattr"), E P "sorted" 47 (.builtin "sorted"), E P "sum" 48 (.builtin "sum"), E P "vars" 49 (.builtin "vars"), E P "None" 50 .none, E P "Ellipsis" 51 .ellipsis, E P "NotImplemented" 52 .notImplemented, E P "False" 53 (.bool false), E P "True" 54 (.bool true), E P "bool" 55 (.type "bool"), E P "memoryview" 56 (.type "memoryview"), E P "bytearray" 57 (.type "bytearray"), E P "bytes" 58 (.type "bytes"), E P "classmethod" 59 (.type "classmethod"), E P "complex" 60 (.type "complex"), E P "dict" 61 (.type "dict"), E P "enumerate" 62 (.type "enumerate"), E P "filter" 63 (.type "filter"), E P "float" 64 (.type "float"), E P "frozenset" 65 (.type "frozenset"), E P "property" 66 (.type "property"), E P "int" 67 (.type "int"), E P "list" 68 (.type "list"), E P "map" 69 (.type "map"), E P "object" 70 (.type "object"), E P "range" 71 (.type "range"), E P "reversed" 72 (.type "reversed"), E P "set" 73 (.type "set"), E P "slice" 74 (.type "slice"), E P "staticmethod" 75 (.type "staticmethod"), E P "str" 76 (.type "str"), E P "super" 77 (.type "super"), E P "tuple" 78 (.type "tuple"), E P "type" 79 (.type "type"), E P "zip" 80 (.type "zip"), E P "__debug__" 81 (.bool true), E P "BaseException" 82 (.type "BaseException"), E P "BaseExceptionGroup" 83 (.type "BaseExceptionGroup"), E P "Exception" 84 (.type "Exception"), E P "GeneratorExit" 85 (.type "GeneratorExit"), E P "KeyboardInterrupt" 86 (.type "KeyboardInterrupt"), E P "SystemExit" 87 (.type "SystemExit"), E P "ArithmeticError" 88 (.type "ArithmeticError"), E P "AssertionError" 89 (.type "AssertionError"), E P "AttributeError" 90 (.type "AttributeError"), E P "BufferError" 91 (.type "BufferError"), E P "EOFError" 92 (.type "EOFError"), E P "ImportError" 93 (.type "ImportError"), E P "LookupError" 94 (.type "LookupError"), E P "MemoryError" 95 (.type "MemoryError"), E P "NameError" 96 (.type "NameError"), E P "OSError" 97 (.type "OSError"), E P "ReferenceError" 98 (.type "ReferenceError"), E P "RuntimeError" 99 (.type "RuntimeError"), E P "StopAsyncIteration" 100 (.type "StopAsyncIteration"), E P "StopIteration" 101 (.type "StopIteration"), E P "SyntaxError" 102 (.type "SyntaxError"), E P "SystemError" 103 (.type "SystemError"), E P "TypeError" 104 (.type "TypeError"), E P "ValueError" 105 (.type "ValueError"), E P "Warning" 106 (.type "Warning"), E P "FloatingPointError" 107 (.type "FloatingPointError"), E P "OverflowError" 108 (.type "OverflowError"), E P "ZeroDivisionError" 109 (.type "ZeroDivisionError"), E P "BytesWarning" 110 (.type "BytesWarning"), E P "DeprecationWarning" 111 (.type "DeprecationWarning"), E P "EncodingWarning" 112 (.type "EncodingWarning"), E P "FutureWarning" 113 (.type "FutureWarning"), E P "ImportWarning" 114 (.type "ImportWarning"), E P "PendingDeprecationWarning" 115 (.type "PendingDeprecationWarning"), E P "ResourceWarning" 116 (.type "ResourceWarning"), E P "RuntimeWarning" 117 (.type "RuntimeWarning"), E P "SyntaxWarning" 118 (.type "SyntaxWarning"), E P "UnicodeWarning" 119 (.type "UnicodeWarning"), E P "UserWarning" 120 (.type "UserWarning"), E P "BlockingIOError" 121 (.type "BlockingIOError"), E P "ChildProcessError" 122 (.type "ChildProcessError"), E P "ConnectionError" 123 (.type "ConnectionError"), E P "FileExistsError" 124 (.type "FileExistsError"), E P "FileNotFoundError" 125 (.type "FileNotFoundError"), E P "InterruptedError" 126 (.type "InterruptedError"), E P "IsADirectoryError" 127 (.type "IsADirectoryError"), E P "NotADirectoryError" 128 (.type "NotADirectoryError"), E P "PermissionError" 129 (.type "PermissionError"), E P "ProcessLookupError" 130 (.type "ProcessLookupError"), E P "TimeoutError" 131 (.type "TimeoutError"), E P "IndentationError" 132 (.type "IndentationError"), E P "_IncompleteInputError" 133 (.type "_IncompleteInputError"), E P "IndexError" 134 (.type "IndexError"), E P "KeyError" 135 (.type "KeyError"), E P "ModuleNotFoundError" 136 (.type "ModuleNotFoundError"), E P "NotImplementedError" 137 (.type "NotImplementedError"), E P "PythonFinalizationError" 138 (.type "PythonFinalizationError"), E P "RecursionError" 139 (.type "RecursionError"), E P "UnboundLocalError" 140 (.type "UnboundLocalError"), E P "UnicodeError" 141 (.type "UnicodeError"), E P "BrokenPipeError" 142 (.type "BrokenPipeError"), E P "ConnectionAbortedError" 143 (.type "ConnectionAbortedError"), E P "ConnectionRefusedError" 144 (.type "ConnectionRefusedError"), E P "ConnectionResetError" 145 (.type "ConnectionResetError"), E P "TabError" 146 (.type "TabError"), E P "UnicodeDecodeError" 147 (.type "UnicodeDecodeError"), E P "UnicodeEncodeError" 148 (.type "UnicodeEncodeError"), E P "UnicodeTranslateError" 149 (.type "UnicodeTranslateError"), E P "ExceptionGroup" 150 (.type "ExceptionGroup"), E P "EnvironmentError" 151 (.type "OSError"), E P "IOError" 152 (.type "OSError"), E P "open" 153 (.builtin "open"), E P "quit" 154 (.builtin "builtins.quit#opaque"), E P "exit" 155 (.builtin "builtins.exit#opaque"), E P "copyright" 156 (.builtin "builtins.copyright#opaque"), E P "credits" 157 (.builtin "builtins.credits#opaque"), E P "license" 158 (.builtin "builtins.license#opaque"), E P "help" 159 (.builtin "builtins.help#opaque")] 159), #[]⟩
noncomputable def o1s (P : Params) : Obj := ⟨(.type "dict"), none, (.dict #[E P "builtins" 162 (.ref 4), E P "__main__" 163 (.ref 5), E P "_sre" 244 (.ref 12)] 3), #[]⟩
noncomputable def o2s (P : Params) : Obj := ⟨.none, none, (.dict #[E P "\x69mport.loaded._sre" 183 (.bool true), E P "class._frozen_importlib.BuiltinImporter" 185 (.ref 14), E P "watched.\x69mport" 206 (.ref 18), E P "class._frozen_importlib.ModuleSpec" 216 (.ref 22), E P "sys.modules.booked-epoch" 245 (.int 3 0), E P "\x69mport.later-laid._sre" 270 (.bool true), E P "watched.library" 272 (.ref 27), E P "watched.library-objects" 0 (.str ⟨#[12]⟩ 0), E P "watched.library-deep._sre" 273 (.str ⟨#[4, 0, 0, 11, 4, 0, 0, 11, 4, 0, 0, 3, 4, 0, 0, 11, 8, 4, 100, 105, 99, 116, 2]⟩ 0)] 9), #[]⟩
noncomputable def o3s (P : Params) : Obj := ⟨(.type "dict"), none, (.dict #[E P "__name__" 165 (.str "__main__" 164), E P "__doc__" 166 .none, E P "__package__" 167 .none, E P "__loader__" 168 (.builtin "__main__.__loader__#opaque"), E P "__spec__" 169 .none, E P "__annotations__" 170 (.ref 6), E P "__builtins__" 171 (.ref 4), E P "__file__" 173 (.str "/claim/cut.py" 172), E P "__cached__" 174 .none, E P "_sre" 275 (.ref 12)] 10), #[]⟩
noncomputable def o4s (P : Params) : Obj := ⟨(.type "module"), (some 0), .plain, #[]⟩
noncomputable def o5s (P : Params) : Obj := ⟨(.type "module"), (some 3), .plain, #[]⟩
noncomputable def o6s (P : Params) : Obj := ⟨(.type "dict"), none, (.dict #[] 0), #[]⟩
noncomputable def o7s (P : Params) : Obj := ⟨(.type "tuple"), none, (.seq #[] 0), #[]⟩
noncomputable def o8s (P : Params) : Obj := ⟨.none, none, (.fields #[]), #[]⟩
noncomputable def o9s (P : Params) : Obj := ⟨(.type "code"), none, (.fields #[(.str "<module>" 176), (.str "<module>" 177), (.str "/claim/cut.py" 178), (.int 1 0), (.int 0 0), (.int 0 0), (.int 0 0), (.int 0 0), (.ref 7), (.bool false), (.int 175 0), (.ref 8), .none, .none, .none, .none, (.int 179 0), (.int 1 0), (.str "/claim/cut.py" 180)]), #[]⟩
noncomputable def o10s (P : Params) : Obj := ⟨(.type "frame"), none, .plain, #[(some (.ref 9)), (some (.ref 3)), (some (.ref 3)), none, (some (.str "__main__" 164)), none, (some (.ref 0))]⟩
noncomputable def o11s (P : Params) : Obj := ⟨(.type "dict"), none, (.dict #[E P "__name__" 247 (.str "_sre" 246), E P "__doc__" 248 .none, E P "__package__" 250 (.str "" 249), E P "__loader__" 251 (.builtin "off-the-table:_sre.__loader__:shared#opaque"), E P "__spec__" 252 (.builtin "off-the-table:_sre.__spec__:shared#opaque"), E P "compile" 253 (.builtin "_sre.compile"), E P "template" 254 (.builtin "off-the-table:_sre.template:shared#opaque"), E P "getcodesize" 255 (.builtin "off-the-table:_sre.getcodesize:shared#opaque"), E P "ascii_iscased" 256 (.builtin "off-the-table:_sre.ascii_iscased:shared#opaque"), E P "unicode_iscased" 257 (.builtin "off-the-table:_sre.unicode_iscased:shared#opaque"), E P "ascii_tolower" 258 (.builtin "off-the-table:_sre.ascii_tolower:shared#opaque"), E P "unicode_tolower" 259 (.builtin "off-the-table:_sre.unicode_tolower:shared#opaque"), E P "MAGIC" 261 (.int 20230612 260), E P "CODESIZE" 263 (.int 4 262), E P "MAXREPEAT" 265 (.int 4294967295 264), E P "MAXGROUPS" 267 (.int 1073741823 266), E P "copyright" 269 (.str " SRE 2.2.2 Copyright (c) 1997-2002 by Secret Labs AB " 268)] 17), #[]⟩
noncomputable def o12s (P : Params) : Obj := ⟨(.type "module"), (some 11), .plain, #[]⟩
noncomputable def o13s (P : Params) : Obj := ⟨(.type "dict"), none, (.dict #[E P "__module__" 189 (.str "_frozen_importlib" 186), E P "__firstlineno__" 190 (.int 971 187), E P "__doc__" 191 (.builtin "_frozen_importlib.BuiltinImporter.__doc__:str#opaque"), E P "_ORIGIN" 192 (.str "built-in" 188), E P "find_spec" 193 (.builtin "_frozen_importlib.BuiltinImporter.find_spec#opaque"), E P "create_module" 194 (.builtin "_frozen_importlib.BuiltinImporter.create_module#opaque"), E P "exec_module" 195 (.builtin "_frozen_importlib.BuiltinImporter.exec_module#opaque"), E P "get_code" 196 (.builtin "_frozen_importlib.BuiltinImporter.get_code#opaque"), E P "get_source" 197 (.builtin "_frozen_importlib.BuiltinImporter.get_source#opaque"), E P "is_package" 198 (.builtin "_frozen_importlib.BuiltinImporter.is_package#opaque"), E P "load_module" 199 (.builtin "_frozen_importlib.BuiltinImporter.load_module#opaque"), E P "__static_attributes__" 200 (.ref 15), E P "__dict__" 202 (.ref 16), E P "__weakref__" 204 (.ref 17)] 14), #[]⟩
noncomputable def o14s (P : Params) : Obj := ⟨(.type "type"), none, (.cls ⟨"BuiltinImporter", [(.type "object")], [(.ref 14), (.type "object")], 13, "BuiltinImporter", true, [], [], false, none, false⟩), #[]⟩
noncomputable def o15s (P : Params) : Obj := ⟨(.type "tuple"), none, (.seq #[] 0), #[]⟩
noncomputable def o16s (P : Params) : Obj := ⟨(.type "getset_descriptor"), none, (.fields #[(.str "__dict__" 201), (.ref 14), (.builtin "function.__dict__"), (.builtin "function.__dict__#set")]), #[]⟩
noncomputable def o17s (P : Params) : Obj := ⟨(.type "getset_descriptor"), none, (.fields #[(.str "__weakref__" 203), (.ref 14), (.builtin "ExceptionGroup.__weakref__"), .none]), #[]⟩
noncomputable def o18s (P : Params) : Obj := ⟨.none, none, (.seq #[(.int 13 0), (.str ⟨#[6, 189, 10, 95, 95, 109, 111, 100, 117, 108, 101, 95, 95, 6, 186, 17, 95, 102, 114, 111, 122, 101, 110, 95, 105, 109, 112, 111, 114, 116, 108, 105, 98, 6, 190, 15, 95, 95, 102, 105, 114, 115, 116, 108, 105, 110, 101, 110, 111, 95, 95, 4, 187, 0, 971, 6, 191, 7, 95, 95, 100, 111, 99, 95, 95, 9, 52, 95, 102, 114, 111, 122, 101, 110, 95, 105, 109, 112, 111, 114, 116, 108, 105, 98, 46, 66, 117, 105, 108, 116, 105, 110, 73, 109, 112, 111, 114, 116, 101, 114, 46, 95, 95, 100, 111, 99, 95, 95, 58, 115, 116, 114, 35, 111, 112, 97, 113, 117, 101, 6, 192, 7, 95, 79, 82, 73, 71, 73, 78, 6, 188, 8, 98, 117, 105, 108, 116, 45, 105, 110, 6, 193, 9, 102, 105, 110, 100, 95, 115, 112, 101, 99, 9, 50, 95, 102, 114, 111, 122, 101, 110, 95, 105, 109, 112, 111, 114, 116, 108, 105, 98, 46, 66, 117, 105, 108, 116, 105, 110, 73, 109, 112, 111, 114, 116, 101, 114, 46, 102, 105, 110, 100, 95, 115, 112, 101, 99, 35, 111, 112, 97, 113, 117, 101, 6, 194, 13, 99, 114, 101, 97, 116, 101, 95, 109, 111, 100, 117, 108, 101, 9, 54, 95, 102, 114, 111, 122, 101, 110, 95, 105, 109, 112, 111, 114, 116, 108, 105, 98, 46, 66, 117, 105, 108, 116, 105, 110, 73, 109, 112, 111, 114, 116, 101, 114, 46, 99, 114, 101, 97, 116, 101, 95, 109, 111, 100, 117, 108, 101, 35, 111, 112, 97, 113, 117, 101, 6, 195, 11, 101, 120, 101, 99, 95, 109, 111, 100, 117, 108, 101, 9, 52, 95, 102, 114, 111, 122, 101, 110, 95, 105, 109, 112, 111, 114, 116, 108, 105, 98, 46, 66, 117, 105, 108, 116, 105, 110, 73, 109, 112, 111, 114, 116, 101, 114, 46, 101, 120, 101, 99, 95, 109, 111, 100, 117, 108, 101, 35, 111, 112, 97, 113, 117, 101, 6, 196, 8, 103, 101, 116, 95, 99, 111, 100, 101, 9, 49, 95, 102, 114, 111, 122, 101, 110, 95, 105, 109, 112, 111, 114, 116, 108, 105, 98, 46, 66, 117, 105, 108, 116, 105, 110, 73, 109, 112, 111, 114, 116, 101, 114, 46, 103, 101, 116, 95, 99, 111, 100, 101, 35, 111, 112, 97, 113, 117, 101, 6, 197, 10, 103, 101, 116, 95, 115, 111, 117, 114, 99, 101, 9, 51, 95, 102, 114, 111, 122, 101, 110, 95, 105, 109, 112, 111, 114, 116, 108, 105, 98, 46, 66, 117, 105, 108, 116, 105, 110, 73, 109, 112, 111, 114, 116, 101, 114, 46, 103, 101, 116, 95, 115, 111, 117, 114, 99, 101, 35, 111, 112, 97, 113, 117, 101, 6, 198, 10, 105, 115, 95, 112, 97, 99, 107, 97, 103, 101, 9, 51, 95, 102, 114, 111, 122, 101, 110, 95, 105, 109, 112, 111, 114, 116, 108, 105, 98, 46, 66, 117, 105, 108, 116, 105, 110, 73, 109, 112, 111, 114, 116, 101, 114, 46, 105, 115, 95, 112, 97, 99, 107, 97, 103, 101, 35, 111, 112, 97, 113, 117, 101, 6, 199, 11, 108, 111, 97, 100, 95, 109, 111, 100, 117, 108, 101, 9, 52, 95, 102, 114, 111, 122, 101, 110, 95, 105, 109, 112, 111, 114, 116, 108, 105, 98, 46, 66, 117, 105, 108, 116, 105, 110, 73, 109, 112, 111, 114, 116, 101, 114, 46, 108, 111, 97, 100, 95, 109, 111, 100, 117, 108, 101, 35, 111, 112, 97, 113, 117, 101, 6, 200, 21, 95, 95, 115, 116, 97, 116, 105, 99, 95, 97, 116, 116, 114, 105, 98, 117, 116, 101, 115, 95, 95, 4, 0, 0, 15, 6, 202, 8, 95, 95, 100, 105, 99, 116, 95, 95, 4, 0, 0, 16, 6, 204, 11, 95, 95, 119, 101, 97, 107, 114, 101, 102, 95, 95, 4, 0, 0, 17]⟩ 0), (.bool true), (.bool true), (.str "" 205), (.int 21 0), (.str ⟨#[6, 227, 10, 95, 95, 109, 111, 100, 117, 108, 101, 95, 95, 6, 217, 17, 95, 102, 114, 111, 122, 101, 110, 95, 105, 109, 112, 111, 114, 116, 108, 105, 98, 6, 228, 15, 95, 95, 102, 105, 114, 115, 116, 108, 105, 110, 101, 110, 111, 95, 95, 4, 218, 0, 562, 6, 229, 7, 95, 95, 100, 111, 99, 95, 95, 9, 47, 95, 102, 114, 111, 122, 101, 110, 95, 105, 109, 112, 111, 114, 116, 108, 105, 98, 46, 77, 111, 100, 117, 108, 101, 83, 112, 101, 99, 46, 95, 95, 100, 111, 99, 95, 95, 58, 115, 116, 114, 35, 111, 112, 97, 113, 117, 101, 6, 230, 8, 95, 95, 105, 110, 105, 116, 95, 95, 9, 44, 95, 102, 114, 111, 122, 101, 110, 95, 105, 109, 112, 111, 114, 116, 108, 105, 98, 46, 77, 111, 100, 117, 108, 101, 83, 112, 101, 99, 46, 95, 95, 105, 110, 105, 116, 95, 95, 35, 111, 112, 97, 113, 117, 101, 6, 231, 8, 95, 95, 114, 101, 112, 114, 95, 95, 9, 44, 95, 102, 114, 111, 122, 101, 110, 95, 105, 109, 112, 111, 114, 116, 108, 105, 98, 46, 77, 111, 100, 117, 108, 101, 83, 112, 101, 99, 46, 95, 95, 114, 101, 112, 114, 95, 95, 35, 111, 112, 97, 113, 117, 101, 6, 232, 6, 95, 95, 101, 113, 95, 95, 9, 42, 95, 102, 114, 111, 122, 101, 110, 95, 105, 109, 112, 111, 114, 116, 108, 105, 98, 46, 77, 111, 100, 117, 108, 101, 83, 112, 101, 99, 46, 95, 95, 101, 113, 95, 95, 35, 111, 112, 97, 113, 117, 101, 6, 233, 6, 99, 97, 99, 104, 101, 100, 9, 42, 95, 102, 114, 111, 122, 101, 110, 95, 105, 109, 112, 111, 114, 116, 108, 105, 98, 46, 77, 111, 100, 117, 108, 101, 83, 112, 101, 99, 46, 99, 97, 99, 104, 101, 100, 35, 111, 112, 97, 113, 117, 101, 6, 234, 6, 112, 97, 114, 101, 110, 116, 9, 42, 95, 102, 114, 111, 122, 101, 110, 95, 105, 109, 112, 111, 114, 116, 108, 105, 98, 46, 77, 111, 100, 117, 108, 101, 83, 112, 101, 99, 46, 112, 97, 114, 101, 110, 116, 35, 111, 112, 97, 113, 117, 101, 6, 235, 12, 104, 97, 115, 95, 108, 111, 99, 97, 116, 105, 111, 110, 9, 48, 95, 102, 114, 111, 122, 101, 110, 95, 105, 109, 112, 111, 114, 116, 108, 105, 98, 46, 77, 111, 100, 117, 108, 101, 83, 112, 101, 99, 46, 104, 97, 115, 95, 108, 111, 99, 97, 116, 105, 111, 110, 35, 111, 112, 97, 113, 117, 101, 6, 236, 21, 95, 95, 115, 116, 97, 116, 105, 99, 95, 97, 116, 116, 114, 105, 98, 117, 116, 101, 115, 95, 95, 4, 0, 0, 23, 6, 238, 8, 95, 95, 100, 105, 99, 116, 95, 95, 4, 0, 0, 24, 6, 240, 11, 95, 95, 119, 101, 97, 107, 114, 101, 102, 95, 95, 4, 0, 0, 25, 6, 241, 8, 95, 95, 104, 97, 115, 104, 95, 95, 0]⟩ 0), (.bool true), (.bool true), (.str "" 242)] 1), #[]⟩
noncomputable def o19s (P : Params) : Obj := ⟨(.type "list"), none, (.seq #[] 0), #[]⟩
noncomputable def o20s (P : Params) : Obj := ⟨(.type "dict"), none, (.dict #[E P "name" 208 (.str "_sre" 207), E P "loader" 209 (.ref 14), E P "origin" 210 (.str "built-in" 184), E P "loader_state" 211 .none, E P "submodule_search_locations" 212 .none, E P "_uninitialized_submodules" 213 (.ref 19), E P "_set_fileattr" 214 (.bool false), E P "_cached" 215 .none, E P "_initializing" 243 (.bool false)] 9), #[]⟩
noncomputable def o21s (P : Params) : Obj := ⟨(.type "dict"), none, (.dict #[E P "__module__" 227 (.str "_frozen_importlib" 217), E P "__firstlineno__" 228 (.int 562 218), E P "__doc__" 229 (.builtin "_frozen_importlib.ModuleSpec.__doc__:str#opaque"), E P "__init__" 230 (.builtin "_frozen_importlib.ModuleSpec.__init__#opaque"), E P "__repr__" 231 (.builtin "_frozen_importlib.ModuleSpec.__repr__#opaque"), E P "__eq__" 232 (.builtin "_frozen_importlib.ModuleSpec.__eq__#opaque"), E P "cached" 233 (.builtin "_frozen_importlib.ModuleSpec.cached#opaque"), E P "parent" 234 (.builtin "_frozen_importlib.ModuleSpec.parent#opaque"), E P "has_location" 235 (.builtin "_frozen_importlib.ModuleSpec.has_location#opaque"), E P "__static_attributes__" 236 (.ref 23), E P "__dict__" 238 (.ref 24), E P "__weakref__" 240 (.ref 25), E P "__hash__" 241 .none] 13), #[]⟩
noncomputable def o22s (P : Params) : Obj := ⟨(.type "type"), none, (.cls ⟨"ModuleSpec", [(.type "object")], [(.ref 22), (.type "object")], 21, "ModuleSpec", true, [], [], false, none, false⟩), #[]⟩
noncomputable def o23s (P : Params) : Obj := ⟨(.type "tuple"), none, (.seq #[(.str "_cached" 219), (.str "_set_fileattr" 220), (.str "_uninitialized_submodules" 221), (.str "loader" 222), (.str "loader_state" 223), (.str "name" 224), (.str "origin" 225), (.str "submodule_search_locations" 226)] 0), #[]⟩
noncomputable def o24s (P : Params) : Obj := ⟨(.type "getset_descriptor"), none, (.fields #[(.str "__dict__" 237), (.ref 22), (.builtin "function.__dict__"), (.builtin "function.__dict__#set")]), #[]⟩
noncomputable def o25s (P : Params) : Obj := ⟨(.type "getset_descriptor"), none, (.fields #[(.str "__weakref__" 239), (.ref 22), (.builtin "ExceptionGroup.__weakref__"), .none]), #[]⟩
noncomputable def o26s (P : Params) : Obj := ⟨(.ref 22), (some 20), .plain, #[]⟩
noncomputable def o27s (P : Params) : Obj := ⟨.none, none, (.seq #[(.int 11 0), (.str ⟨#[6, 247, 8, 95, 95, 110, 97, 109, 101, 95, 95, 6, 246, 4, 95, 115, 114, 101, 6, 248, 7, 95, 95, 100, 111, 99, 95, 95, 0, 6, 250, 11, 95, 95, 112, 97, 99, 107, 97, 103, 101, 95, 95, 6, 249, 0, 6, 251, 10, 95, 95, 108, 111, 97, 100, 101, 114, 95, 95, 4, 0, 0, 14, 6, 252, 8, 95, 95, 115, 112, 101, 99, 95, 95, 4, 0, 0, 26, 6, 253, 7, 99, 111, 109, 112, 105, 108, 101, 9, 12, 95, 115, 114, 101, 46, 99, 111, 109, 112, 105, 108, 101, 6, 254, 8, 116, 101, 109, 112, 108, 97, 116, 101, 9, 13, 95, 115, 114, 101, 46, 116, 101, 109, 112, 108, 97, 116, 101, 6, 255, 11, 103, 101, 116, 99, 111, 100, 101, 115, 105, 122, 101, 9, 16, 95, 115, 114, 101, 46, 103, 101, 116, 99, 111, 100, 101, 115, 105, 122, 101, 6, 256, 13, 97, 115, 99, 105, 105, 95, 105, 115, 99, 97, 115, 101, 100, 9, 18, 95, 115, 114, 101, 46, 97, 115, 99, 105, 105, 95, 105, 115, 99, 97, 115, 101, 100, 6, 257, 15, 117, 110, 105, 99, 111, 100, 101, 95, 105, 115, 99, 97, 115, 101, 100, 9, 20, 95, 115, 114, 101, 46, 117, 110, 105, 99, 111, 100, 101, 95, 105, 115, 99, 97, 115, 101, 100, 6, 258, 13, 97, 115, 99, 105, 105, 95, 116, 111, 108, 111, 119, 101, 114, 9, 18, 95, 115, 114, 101, 46, 97, 115, 99, 105, 105, 95, 116, 111, 108, 111, 119, 101, 114, 6, 259, 15, 117, 110, 105, 99, 111, 100, 101, 95, 116, 111, 108, 111, 119, 101, 114, 9, 20, 95, 115, 114, 101, 46, 117, 110, 105, 99, 111, 100, 101, 95, 116, 111, 108, 111, 119, 101, 114, 6, 261, 5, 77, 65, 71, 73, 67, 4, 260, 0, 20230612, 6, 263, 8, 67, 79, 68, 69, 83, 73, 90, 69, 4, 262, 0, 4, 6, 265, 9, 77, 65, 88, 82, 69, 80, 69, 65, 84, 4, 264, 0, 4294967295, 6, 267, 9, 77, 65, 88, 71, 82, 79, 85, 80, 83, 4, 266, 0, 1073741823, 6, 269, 9, 99, 111, 112, 121, 114, 105, 103, 104, 116, 6, 268, 53, 32, 83, 82, 69, 32, 50, 46, 50, 46, 50, 32, 67, 111, 112, 121, 114, 105, 103, 104, 116, 32, 40, 99, 41, 32, 49, 57, 57, 55, 45, 50, 48, 48, 50, 32, 98, 121, 32, 83, 101, 99, 114, 101, 116, 32, 76, 97, 98, 115, 32, 65, 66, 32]⟩ 0), (.bool true), (.bool false), (.str "_sre" 271)] 0), #[]⟩
noncomputable def Ts (P : Params) : BT := (.node (o0s P) (.node (o1s P) (.node (o3s P) (.node (o7s P) (.node (o15s P) .nil .nil) (.node (o23s P) .nil .nil)) (.node (o11s P) (.node (o19s P) .nil .nil) (.node (o27s P) .nil .nil))) (.node (o5s P) (.node (o9s P) (.node (o17s P) .nil .nil) (.node (o25s P) .nil .nil)) (.node (o13s P) (.node (o21s P) .nil .nil) .nil))) (.node (o2s P) (.node (o4s P) (.node (o8s P) (.node (o16s P) .nil .nil) (.node (o24s P) .nil .nil)) (.node (o12s P) (.node (o20s P) .nil .nil) .nil)) (.node (o6s P) (.node (o10s P) (.node (o18s P) .nil .nil) (.node (o26s P) .nil .nil)) (.node (o14s P) (.node (o22s P) .nil .nil) .nil))))
noncomputable def o28p (P : Params) : Obj := ⟨(.type "tuple"), none, (.seq #[] 0), #[]⟩
noncomputable def o29p (P : Params) : Obj := ⟨.none, none, (.fields #[]), #[]⟩
noncomputable def o30p (P : Params) : Obj := ⟨(.type "code"), none, (.fields #[(.str "<module>" 277), (.str "<module>" 278), (.str "/claim/cut.py" 279), (.int 1 0), (.int 0 0), (.int 0 0), (.int 0 0), (.int 0 0), (.ref 28), (.bool false), (.int 276 0), (.ref 29), .none, .none, .none, .none, (.int 280 0), (.int 1 0), (.str "/claim/cut.py" 281)]), #[]⟩
noncomputable def o31p (P : Params) : Obj := ⟨(.type "frame"), none, .plain, #[(some (.ref 30)), (some (.ref 3)), (some (.ref 3)), none, (some (.str "__main__" 164)), none, (some (.ref 0))]⟩
noncomputable def Tp (P : Params) : BT := (.node (o0s P) (.node (o1s P) (.node (o3s P) (.node (o7s P) (.node (o15s P) (.node (o31p P) .nil .nil) .nil) (.node (o23s P) .nil .nil)) (.node (o11s P) (.node (o19s P) .nil .nil) (.node (o27s P) .nil .nil))) (.node (o5s P) (.node (o9s P) (.node (o17s P) .nil .nil) (.node (o25s P) .nil .nil)) (.node (o13s P) (.node (o21s P) .nil .nil) (.node (o29p P) .nil .nil)))) (.node (o2s P) (.node (o4s P) (.node (o8s P) (.node (o16s P) .nil .nil) (.node (o24s P) .nil .nil)) (.node (o12s P) (.node (o20s P) .nil .nil) (.node (o28p P) .nil .nil))) (.node (o6s P) (.node (o10s P) (.node (o18s P) .nil .nil) (.node (o26s P) .nil .nil)) (.node (o14s P) (.node (o22s P) .nil .nil) (.node (o30p P) .nil .nil)))))
noncomputable def Tb (P : Params) : BT := (.node (o0s P) (.node (o1s P) (.node (o3s P) (.node (o7s P) (.node (o15s P) (.node (o31p P) .nil .nil) .nil) (.node (o23s P) .nil .nil)) (.node (o11s P) (.node (o19s P) .nil .nil) (.node (o27s P) .nil .nil))) (.node (o5s P) (.node (o9s P) (.node (o17s P) .nil .nil) (.node (o25s P) .nil .nil)) (.node (o13s P) (.node (o21s P) .nil .nil) (.node (o29p P) .nil .nil)))) (.node (o2s P) (.node (o4s P) (.node (o8s P) (.node (o16s P) .nil .nil) (.node (o24s P) .nil .nil)) (.node (o12s P) (.node (o20s P) .nil .nil) (.node (o28p P) .nil .nil))) (.node (o6s P) (.node (o10s P) (.node (o18s P) .nil .nil) (.node (o26s P) .nil .nil)) (.node (o14s P) (.node (o22s P) .nil .nil) (.node (o30p P) .nil .nil)))))
noncomputable def o3_1 (P : Params) : Obj := ⟨(.type "dict"), none, (.dict #[E P "__name__" 165 (.str "cpy313.ftplib" 282), E P "__doc__" 166 .none, E P "__package__" 167 .none, E P "__loader__" 168 (.builtin "__main__.__loader__#opaque"), E P "__spec__" 169 .none, E P "__annotations__" 170 (.ref 6), E P "__builtins__" 171 (.ref 4), E P "__file__" 173 (.str "/claim/cut.py" 172), E P "__cached__" 174 .none, E P "_sre" 275 (.ref 12)] 10), #[]⟩
noncomputable def T_1 (P : Params) : BT := (.node (o0s P) (.node (o1s P) (.node (o3_1 P) (.node (o7s P) (.node (o15s P) (.node (o31p P) .nil .nil) .nil) (.node (o23s P) .nil .nil)) (.node (o11s P) (.node (o19s P) .nil .nil) (.node (o27s P) .nil .nil))) (.node (o5s P) (.node (o9s P) (.node (o17s P) .nil .nil) (.node (o25s P) .nil .nil)) (.node (o13s P) (.node (o21s P) .nil .nil) (.node (o29p P) .nil .nil)))) (.node (o2s P) (.node (o4s P) (.node (o8s P) (.node (o16s P) .nil .nil) (.node (o24s P) .nil .nil)) (.node (o12s P) (.node (o20s P) .nil .nil) (.node (o28p P) .nil .nil))) (.node (o6s P) (.node (o10s P) (.node (o18s P) .nil .nil) (.node (o26s P) .nil .nil)) (.node (o14s P) (.node (o22s P) .nil .nil) (.node (o30p P) .nil .nil)))))
-- toks 284 objs 32 steps 9 pos { line := 2, col := 0, endLine := 2, endCol := 8 }
noncomputable def o2_2 (P : Params) : Obj := ⟨.none, none, (.dict #[E P "\x69mport.loaded._sre" 183 (.bool true), E P "class._frozen_importlib.BuiltinImporter" 185 (.ref 14), E P "watched.\x69mport" 206 (.ref 18), E P "class._frozen_importlib.ModuleSpec" 216 (.ref 22), E P "sys.modules.booked-epoch" 245 (.int 3 0), E P "\x69mport.later-laid._sre" 270 (.bool true), E P "watched.library" 272 (.ref 27), E P "watched.library-objects" 0 (.str ⟨#[12]⟩ 0), E P "watched.library-deep._sre" 273 (.str ⟨#[4, 0, 0, 11, 4, 0, 0, 11, 4, 0, 0, 3, 4, 0, 0, 11, 8, 4, 100, 105, 99, 116, 2]⟩ 0), E P "type.__subclasses__.Exception.0" 300 (.int 41 0), E P "type.__subclasses__.Exception.n" 301 (.int 1 0)] 11), #[]⟩
noncomputable def o3_2 (P : Params) : Obj := ⟨(.type "dict"), none, (.dict #[E P "__name__" 165 (.str "cpy313.ftplib" 282), E P "__doc__" 166 .none, E P "__package__" 167 .none, E P "__loader__" 168 (.builtin "__main__.__loader__#opaque"), E P "__spec__" 169 .none, E P "__annotations__" 170 (.ref 6), E P "__builtins__" 171 (.ref 4), E P "__file__" 173 (.str "/claim/cut.py" 172), E P "__cached__" 174 .none, E P "_sre" 275 (.ref 12), E P "Error" 303 (.ref 41)] 11), #[]⟩
noncomputable def o29_2 (P : Params) : Obj := ⟨.none, none, (.fields #[(.int 3 0), (.int 0 0), (.ref 37)]), #[]⟩
noncomputable def o32_2 (P : Params) : Obj := ⟨(.type "tuple"), none, (.seq #[(.type "Exception")] 0), #[]⟩
noncomputable def o33_2 (P : Params) : Obj := ⟨(.type "builtin_function_or_method"), none, (.fields #[(.builtin "type.__prepare__"), (.type "type")]), #[]⟩
noncomputable def o34_2 (P : Params) : Obj := ⟨(.type "dict"), none, (.dict #[E P "__module__" 291 (.str "cpy313.ftplib" 282), E P "__qualname__" 293 (.str "Error" 292), E P "__firstlineno__" 295 (.int 3 294), E P "__static_attributes__" 296 (.ref 39)] 4), #[]⟩
noncomputable def o35_2 (P : Params) : Obj := ⟨(.type "tuple"), none, (.seq #[] 0), #[]⟩
noncomputable def o36_2 (P : Params) : Obj := ⟨.none, none, (.fields #[]), #[]⟩
noncomputable def o37_2 (P : Params) : Obj := ⟨(.type "code"), none, (.fields #[(.str "Error" 286), (.str "Error" 287), (.str "/claim/cut.py" 288), (.int 3 0), (.int 0 0), (.int 0 0), (.int 0 0), (.int 0 0), (.ref 35), (.bool false), (.int 276 0), (.ref 36), .none, .none, .none, .none, (.int 289 0), (.int 3 0), (.str "/claim/cut.py" 290)]), #[]⟩
noncomputable def o38_2 (P : Params) : Obj := ⟨(.type "frame"), none, .plain, #[(some (.ref 37)), (some (.ref 3)), (some (.ref 34)), none, (some (.str "cpy313.ftplib" 282)), none, (some (.ref 0))]⟩
noncomputable def o39_2 (P : Params) : Obj := ⟨(.type "tuple"), none, (.seq #[] 0), #[]⟩
noncomputable def o40_2 (P : Params) : Obj := ⟨(.type "dict"), none, (.dict #[E P "__module__" 291 (.str "cpy313.ftplib" 282), E P "__firstlineno__" 295 (.int 3 294), E P "__static_attributes__" 296 (.ref 39), E P "__weakref__" 298 (.ref 42), E P "__doc__" 299 .none] 3), #[]⟩
noncomputable def o41_2 (P : Params) : Obj := ⟨(.type "type"), none, (.cls ⟨"Error", [(.type "Exception")], [(.ref 41), (.type "Exception"), (.type "BaseException"), (.type "object")], 40, "Error", true, [], [], false, none, false⟩), #[(some (.ref 32)), none, (some (.str "Error" 284)), (some (.str "Error" 292)), (some (.builtin "Exception.__new__")), (some (.bool true))]⟩
noncomputable def o42_2 (P : Params) : Obj := ⟨(.type "getset_descriptor"), none, (.fields #[(.str "__weakref__" 297), (.ref 41), (.builtin "ExceptionGroup.__weakref__"), .none]), #[]⟩
noncomputable def o43_2 (P : Params) : Obj := ⟨(.type "super"), none, (.fields #[(.ref 41), (.ref 41), (.ref 41)]), #[]⟩
noncomputable def o44_2 (P : Params) : Obj := ⟨(.type "builtin_function_or_method"), none, (.fields #[(.builtin "object.__init_subclass__"), (.ref 41)]), #[]⟩
noncomputable def T_2 (P : Params) : BT := (.node (o0s P) (.node (o1s P) (.node (o3_2 P) (.node (o7s P) (.node (o15s P) (.node (o31p P) .nil .nil) .nil) (.node (o23s P) (.node (o39_2 P) .nil .nil) .nil)) (.node (o11s P) (.node (o19s P) (.node (o35_2 P) .nil .nil) .nil) (.node (o27s P) (.node (o43_2 P) .nil .nil) .nil))) (.node (o5s P) (.node (o9s P) (.node (o17s P) (.node (o33_2 P) .nil .nil) .nil) (.node (o25s P) (.node (o41_2 P) .nil .nil) .nil)) (.node (o13s P) (.node (o21s P) (.node (o37_2 P) .nil .nil) .nil) (.node (o29_2 P) .nil .nil)))) (.node (o2_2 P) (.node (o4s P) (.node (o8s P) (.node (o16s P) (.node (o32_2 P) .nil .nil) .nil) (.node (o24s P) (.node (o40_2 P) .nil .nil) .nil)) (.node (o12s P) (.node (o20s P) (.node (o36_2 P) .nil .nil) .nil) (.node (o28p P) (.node (o44_2 P) .nil .nil) .nil))) (.node (o6s P) (.node (o10s P) (.node (o18s P) (.node (o34_2 P) .nil .nil) .nil) (.node (o26s P) (.node (o42_2 P) .nil .nil) .nil)) (.node (o14s P) (.node (o22s P) (.node (o38_2 P) .nil .nil) .nil) (.node (o30p P) .nil .nil)))))
-- toks 304 objs 45 steps 196 pos { line := 3, col := 0, endLine := 4, endCol := 8 }
noncomputable def o3_3 (P : Params) : Obj := ⟨(.type "dict"), none, (.dict #[E P "__name__" 165 (.str "cpy313.ftplib" 282), E P "__doc__" 166 .none, E P "__package__" 167 .none, E P "__loader__" 168 (.builtin "__main__.__loader__#opaque"), E P "__spec__" 169 .none, E P "__annotations__" 170 (.ref 6), E P "__builtins__" 171 (.ref 4), E P "__file__" 173 (.str "/claim/cut.py" 172), E P "__cached__" 174 .none, E P "_sre" 275 (.ref 12), E P "Error" 303 (.ref 41), E P "error_reply" 319 (.ref 54)] 12), #[]⟩
noncomputable def o29_3 (P : Params) : Obj := ⟨.none, none, (.fields #[(.int 3 0), (.int 0 0), (.ref 37), (.int 5 0), (.int 0 0), (.ref 50)]), #[]⟩
noncomputable def o41_3 (P : Params) : Obj := ⟨(.type "type"), none, (.cls ⟨"Error", [(.type "Exception")], [(.ref 41), (.type "Exception"), (.type "BaseException"), (.type "object")], 40, "Error", true, [], [(.ref 54)], false, none, false⟩), #[(some (.ref 32)), none, (some (.str "Error" 284)), (some (.str "Error" 292)), (some (.builtin "Exception.__new__")), (some (.bool true))]⟩
noncomputable def o45_3 (P : Params) : Obj := ⟨(.type "tuple"), none, (.seq #[(.ref 41)] 0), #[]⟩
noncomputable def o46_3 (P : Params) : Obj := ⟨(.type "builtin_function_or_method"), none, (.fields #[(.builtin "type.__prepare__"), (.type "type")]), #[]⟩
noncomputable def o47_3 (P : Params) : Obj := ⟨(.type "dict"), none, (.dict #[E P "__module__" 311 (.str "cpy313.ftplib" 282), E P "__qualname__" 313 (.str "error_reply" 312), E P "__firstlineno__" 315 (.int 5 314), E P "__static_attributes__" 316 (.ref 52)] 4), #[]⟩
noncomputable def o48_3 (P : Params) : Obj := ⟨(.type "tuple"), none, (.seq #[] 0), #[]⟩
noncomputable def o49_3 (P : Params) : Obj := ⟨.none, none, (.fields #[]), #[]⟩
noncomputable def o50_3 (P : Params) : Obj := ⟨(.type "code"), none, (.fields #[(.str "error_reply" 306), (.str "error_reply" 307), (.str "/claim/cut.py" 308), (.int 5 0), (.int 0 0), (.int 0 0), (.int 0 0), (.int 0 0), (.ref 48), (.bool false), (.int 276 0), (.ref 49), .none, .none, .none, .none, (.int 309 0), (.int 5 0), (.str "/claim/cut.py" 310)]), #[]⟩
noncomputable def o51_3 (P : Params) : Obj := ⟨(.type "frame"), none, .plain, #[(some (.ref 50)), (some (.ref 3)), (some (.ref 47)), none, (some (.str "cpy313.ftplib" 282)), none, (some (.ref 0))]⟩
noncomputable def o52_3 (P : Params) : Obj := ⟨(.type "tuple"), none, (.seq #[] 0), #[]⟩
noncomputable def o53_3 (P : Params) : Obj := ⟨(.type "dict"), none, (.dict #[E P "__module__" 311 (.str "cpy313.ftplib" 282), E P "__firstlineno__" 315 (.int 5 314), E P "__static_attributes__" 316 (.ref 52), E P "__doc__" 317 .none] 2), #[]⟩
noncomputable def o54_3 (P : Params) : Obj := ⟨(.type "type"), none, (.cls ⟨"error_reply", [(.ref 41)], [(.ref 54), (.ref 41), (.type "Exception"), (.type "BaseException"), (.type "object")], 53, "error_reply", true, [], [], false, none, false⟩), #[(some (.ref 45)), none, (some (.str "error_reply" 304)), (some (.str "error_reply" 312)), (some (.builtin "Exception.__new__")), (some (.bool true))]⟩
noncomputable def o55_3 (P : Params) : Obj := ⟨(.type "super"), none, (.fields #[(.ref 54), (.ref 54), (.ref 54)]), #[]⟩
noncomputable def o56_3 (P : Params) : Obj := ⟨(.type "builtin_function_or_method"), none, (.fields #[(.builtin "object.__init_subclass__"), (.ref 54)]), #[]⟩
noncomputable def T_3 (P : Params) : BT := (.node (o0s P) (.node (o1s P) (.node (o3_3 P) (.node (o7s P) (.node (o15s P) (.node (o31p P) .nil .nil) (.node (o47_3 P) .nil .nil)) (.node (o23s P) (.node (o39_2 P) .nil .nil) (.node (o55_3 P) .nil .nil))) (.node (o11s P) (.node (o19s P) (.node (o35_2 P) .nil .nil) (.node (o51_3 P) .nil .nil)) (.node (o27s P) (.node (o43_2 P) .nil .nil) .nil))) (.node (o5s P) (.node (o9s P) (.node (o17s P) (.node (o33_2 P) .nil .nil) (.node (o49_3 P) .nil .nil)) (.node (o25s P) (.node (o41_3 P) .nil .nil) .nil)) (.node (o13s P) (.node (o21s P) (.node (o37_2 P) .nil .nil) (.node (o53_3 P) .nil .nil)) (.node (o29_3 P) (.node (o45_3 P) .nil .nil) .nil)))) (.node (o2_2 P) (.node (o4s P) (.node (o8s P) (.node (o16s P) (.node (o32_2 P) .nil .nil) (.node (o48_3 P) .nil .nil)) (.node (o24s P) (.node (o40_2 P) .nil .nil) (.node (o56_3 P) .nil .nil))) (.node (o12s P) (.node (o20s P) (.node (o36_2 P) .nil .nil) (.node (o52_3 P) .nil .nil)) (.node (o28p P) (.node (o44_2 P) .nil .nil) .nil))) (.node (o6s P) (.node (o10s P) (.node (o18s P) (.node (o34_2 P) .nil .nil) (.node (o50_3 P) .nil .nil)) (.node (o26s P) (.node (o42_2 P) .nil .nil) .nil)) (.node (o14s P) (.node (o22s P) (.node (o38_2 P) .nil .nil) (.node (o54_3 P) .nil .nil)) (.node (o30p P) (.node (o46_3 P) .nil .nil) .nil)))))
-- toks 320 objs 57 steps 213 pos { line := 5, col := 0, endLine := 6, endCol := 8 }
noncomputable def o3_4 (P : Params) : Obj := ⟨(.type "dict"), none, (.dict #[E P "__name__" 165 (.str "cpy313.ftplib" 282), E P "__doc__" 166 .none, E P "__package__" 167 .none, E P "__loader__" 168 (.builtin "__main__.__loader__#opaque"), E P "__spec__" 169 .none, E P "__annotations__" 170 (.ref 6), E P "__builtins__" 171 (.ref 4), E P "__file__" 173 (.str "/claim/cut.py" 172), E P "__cached__" 174 .none, E P "_sre" 275 (.ref 12), E P "Error" 303 (.ref 41), E P "error_reply" 319 (.ref 54), E P "error_proto" 335 (.ref 66)] 13), #[]⟩
noncomputable def o29_4 (P : Params) : Obj := ⟨.none, none, (.fields #[(.int 3 0), (.int 0 0), (.ref 37), (.int 5 0), (.int 0 0), (.ref 50), (.int 7 0), (.int 0 0), (.ref 62)]), #[]⟩
noncomputable def o41_4 (P : Params) : Obj := ⟨(.type "type"), none, (.cls ⟨"Error", [(.type "Exception")], [(.ref 41), (.type "Exception"), (.type "BaseException"), (.type "object")], 40, "Error", true, [], [(.ref 54), (.ref 66)], false, none, false⟩), #[(some (.ref 32)), none, (some (.str "Error" 284)), (some (.str "Error" 292)), (some (.builtin "Exception.__new__")), (some (.bool true))]⟩
noncomputable def o57_4 (P : Params) : Obj := ⟨(.type "tuple"), none, (.seq #[(.ref 41)] 0), #[]⟩
noncomputable def o58_4 (P : Params) : Obj := ⟨(.type "builtin_function_or_method"), none, (.fields #[(.builtin "type.__prepare__"), (.type "type")]), #[]⟩
noncomputable def o59_4 (P : Params) : Obj := ⟨(.type "dict"), none, (.dict #[E P "__module__" 327 (.str "cpy313.ftplib" 282), E P "__qualname__" 329 (.str "error_proto" 328), E P "__firstlineno__" 331 (.int 7 330), E P "__static_attributes__" 332 (.ref 64)] 4), #[]⟩
noncomputable def o60_4 (P : Params) : Obj := ⟨(.type "tuple"), none, (.seq #[] 0), #[]⟩
noncomputable def o61_4 (P : Params) : Obj := ⟨.none, none, (.fields #[]), #[]⟩
noncomputable def o62_4 (P : Params) : Obj := ⟨(.type "code"), none, (.fields #[(.str "error_proto" 322), (.str "error_proto" 323), (.str "/claim/cut.py" 324), (.int 7 0), (.int 0 0), (.int 0 0), (.int 0 0), (.int 0 0), (.ref 60), (.bool false), (.int 276 0), (.ref 61), .none, .none, .none, .none, (.int 325 0), (.int 7 0), (.str "/claim/cut.py" 326)]), #[]⟩
noncomputable def o63_4 (P : Params) : Obj := ⟨(.type "frame"), none, .plain, #[(some (.ref 62)), (some (.ref 3)), (some (.ref 59)), none, (some (.str "cpy313.ftplib" 282)), none, (some (.ref 0))]⟩
noncomputable def o64_4 (P : Params) : Obj := ⟨(.type "tuple"), none, (.seq #[] 0), #[]⟩
noncomputable def o65_4 (P : Params) : Obj := ⟨(.type "dict"), none, (.dict #[E P "__module__" 327 (.str "cpy313.ftplib" 282), E P "__firstlineno__" 331 (.int 7 330), E P "__static_attributes__" 332 (.ref 64), E P "__doc__" 333 .none] 2), #[]⟩
noncomputable def o66_4 (P : Params) : Obj := ⟨(.type "type"), none, (.cls ⟨"error_proto", [(.ref 41)], [(.ref 66), (.ref 41), (.type "Exception"), (.type "BaseException"), (.type "object")], 65, "error_proto", true, [], [], false, none, false⟩), #[(some (.ref 57)), none, (some (.str "error_proto" 320)), (some (.str "error_proto" 328)), (some (.builtin "Exception.__new__")), (some (.bool true))]⟩
noncomputable def o67_4 (P : Params) : Obj := ⟨(.type "super"), none, (.fields #[(.ref 66), (.ref 66), (.ref 66)]), #[]⟩
noncomputable def o68_4 (P : Params) : Obj := ⟨(.type "builtin_function_or_method"), none, (.fields #[(.builtin "object.__init_subclass__"), (.ref 66)]), #[]⟩
noncomputable def T_4 (P : Params) : BT := (.node (o0s P) (.node (o1s P) (.node (o3_4 P) (.node (o7s P) (.node (o15s P) (.node (o31p P) (.node (o63_4 P) .nil .nil) .nil) (.node (o47_3 P) .nil .nil)) (.node (o23s P) (.node (o39_2 P) .nil .nil) (.node (o55_3 P) .nil .nil))) (.node (o11s P) (.node (o19s P) (.node (o35_2 P) (.node (o67_4 P) .nil .nil) .nil) (.node (o51_3 P) .nil .nil)) (.node (o27s P) (.node (o43_2 P) .nil .nil) (.node (o59_4 P) .nil .nil)))) (.node (o5s P) (.node (o9s P) (.node (o17s P) (.node (o33_2 P) (.node (o65_4 P) .nil .nil) .nil) (.node (o49_3 P) .nil .nil)) (.node (o25s P) (.node (o41_4 P) .nil .nil) (.node (o57_4 P) .nil .nil))) (.node (o13s P) (.node (o21s P) (.node (o37_2 P) .nil .nil) (.node (o53_3 P) .nil .nil)) (.node (o29_4 P) (.node (o45_3 P) .nil .nil) (.node (o61_4 P) .nil .nil))))) (.node (o2_2 P) (.node (o4s P) (.node (o8s P) (.node (o16s P) (.node (o32_2 P) (.node (o64_4 P) .nil .nil) .nil) (.node (o48_3 P) .nil .nil)) (.node (o24s P) (.node (o40_2 P) .nil .nil) (.node (o56_3 P) .nil .nil))) (.node (o12s P) (.node (o20s P) (.node (o36_2 P) (.node (o68_4 P) .nil .nil) .nil) (.node (o52_3 P) .nil .nil)) (.node (o28p P) (.node (o44_2 P) .nil .nil) (.node (o60_4 P) .nil .nil)))) (.node (o6s P) (.node (o10s P) (.node (o18s P) (.node (o34_2 P) (.node (o66_4 P) .nil .nil) .nil) (.node (o50_3 P) .nil .nil)) (.node (o26s P) (.node (o42_2 P) .nil .nil) (.node (o58_4 P) .nil .nil))) (.node (o14s P) (.node (o22s P) (.node (o38_2 P) .nil .nil) (.node (o54_3 P) .nil .nil)) (.node (o30p P) (.node (o46_3 P) .nil .nil) (.node (o62_4 P) .nil .nil))))))
-- toks 336 objs 69 steps 213 pos { line := 7, col := 0, endLine := 8, endCol := 8 }
noncomputable def o3_5 (P : Params) : Obj := ⟨(.type "dict"), none, (.dict #[E P "__name__" 165 (.str "cpy313.ftplib" 282), E P "__doc__" 166 .none, E P "__package__" 167 .none, E P "__loader__" 168 (.builtin "__main__.__loader__#opaque"), E P "__spec__" 169 .none, E P "__annotations__" 170 (.ref 6), E P "__builtins__" 171 (.ref 4), E P "__file__" 173 (.str "/claim/cut.py" 172), E P "__cached__" 174 .none, E P "_sre" 275 (.ref 12), E P "Error" 303 (.ref 41), E P "error_reply" 319 (.ref 54), E P "error_proto" 335 (.ref 66), E P "parse229" 348 (.ref 75)] 14), #[]⟩
noncomputable def o29_5 (P : Params) : Obj := ⟨.none, none, (.fields #[(.int 3 0), (.int 0 0), (.ref 37), (.int 5 0), (.int 0 0), (.ref 50), (.int 7 0), (.int 0 0), (.ref 62), (.int 9 0), (.int 0 0), (.ref 74)]), #[]⟩
noncomputable def o69_5 (P : Params) : Obj := ⟨(.type "tuple"), none, (.seq #[] 0), #[]⟩
noncomputable def o70_5 (P : Params) : Obj := ⟨.none, none, (.fields #[]), #[]⟩
noncomputable def o71_5 (P : Params) : Obj := ⟨(.type "tuple"), none, (.seq #[(.str "resp" 339), (.str "peer" 340), (.str "left" 341), (.str "right" 342), (.str "parts" 343), (.str "host" 344), (.str "port" 345)] 0), #[]⟩
noncomputable def o72_5 (P : Params) : Obj := ⟨(.type "tuple"), none, (.seq #[] 0), #[]⟩
noncomputable def o73_5 (P : Params) : Obj := ⟨.none, none, (.func (fnAt 5 0 .none .none .none .none none .none .none 0)), #[]⟩
noncomputable def o74_5 (P : Params) : Obj := ⟨(.type "code"), none, (.fields #[(.str "parse229" 336), (.str "parse229" 337), (.str "/claim/cut.py" 338), (.int 9 0), (.int 2 0), (.int 0 0), (.int 0 0), (.int 3 0), (.ref 69), (.bool true), (.int 276 0), (.ref 70), .none, (.ref 71), (.ref 72), (.ref 73), (.int 346 0), (.int 9 0), (.str "/claim/cut.py" 347)]), #[]⟩
noncomputable def o75_5 (P : Params) : Obj := ⟨(.type "function"), none, (.func (fnAt 5 3 .none .none .none (.str "cpy313.ftplib" 282) none (.ref 74) .none 0)), #[]⟩
noncomputable def T_5 (P : Params) : BT := (.node (o0s P) (.node (o1s P) (.node (o3_5 P) (.node (o7s P) (.node (o15s P) (.node (o31p P) (.node (o63_4 P) .nil .nil) .nil) (.node (o47_3 P) .nil .nil)) (.node (o23s P) (.node (o39_2 P) (.node (o71_5 P) .nil .nil) .nil) (.node (o55_3 P) .nil .nil))) (.node (o11s P) (.node (o19s P) (.node (o35_2 P) (.node (o67_4 P) .nil .nil) .nil) (.node (o51_3 P) .nil .nil)) (.node (o27s P) (.node (o43_2 P) (.node (o75_5 P) .nil .nil) .nil) (.node (o59_4 P) .nil .nil)))) (.node (o5s P) (.node (o9s P) (.node (o17s P) (.node (o33_2 P) (.node (o65_4 P) .nil .nil) .nil) (.node (o49_3 P) .nil .nil)) (.node (o25s P) (.node (o41_4 P) (.node (o73_5 P) .nil .nil) .nil) (.node (o57_4 P) .nil .nil))) (.node (o13s P) (.node (o21s P) (.node (o37_2 P) (.node (o69_5 P) .nil .nil) .nil) (.node (o53_3 P) .nil .nil)) (.node (o29_5 P) (.node (o45_3 P) .nil .nil) (.node (o61_4 P) .nil .nil))))) (.node (o2_2 P) (.node (o4s P) (.node (o8s P) (.node (o16s P) (.node (o32_2 P) (.node (o64_4 P) .nil .nil) .nil) (.node (o48_3 P) .nil .nil)) (.node (o24s P) (.node (o40_2 P) (.node (o72_5 P) .nil .nil) .nil) (.node (o56_3 P) .nil .nil))) (.node (o12s P) (.node (o20s P) (.node (o36_2 P) (.node (o68_4 P) .nil .nil) .nil) (.node (o52_3 P) .nil .nil)) (.node (o28p P) (.node (o44_2 P) .nil .nil) (.node (o60_4 P) .nil .nil)))) (.node (o6s P) (.node (o10s P) (.node (o18s P) (.node (o34_2 P) (.node (o66_4 P) .nil .nil) .nil) (.node (o50_3 P) .nil .nil)) (.node (o26s P) (.node (o42_2 P) (.node (o74_5 P) .nil .nil) .nil) (.node (o58_4 P) .nil .nil))) (.node (o14s P) (.node (o22s P) (.node (o38_2 P) (.node (o70_5 P) .nil .nil) .nil) (.node (o54_3 P) .nil .nil)) (.node (o30p P) (.node (o46_3 P) .nil .nil) (.node (o62_4 P) .nil .nil))))))
-- toks 349 objs 76 steps 35 pos { line := 9, col := 0, endLine := 25, endCol := 23 }
noncomputable def o3_6 (P : Params) : Obj := ⟨(.type "dict"), none, (.dict #[E P "__name__" 165 (.str "cpy313.smtplib" 349), E P "__doc__" 166 .none, E P "__package__" 167 .none, E P "__loader__" 168 (.builtin "__main__.__loader__#opaque"), E P "__spec__" 169 .none, E P "__annotations__" 170 (.ref 6), E P "__builtins__" 171 (.ref 4), E P "__file__" 173 (.str "/claim/cut.py" 172), E P "__cached__" 174 .none, E P "_sre" 275 (.ref 12), E P "Error" 303 (.ref 41), E P "error_reply" 319 (.ref 54), E P "error_proto" 335 (.ref 66), E P "parse229" 348 (.ref 75)] 14), #[]⟩
noncomputable def T_6 (P : Params) : BT := (.node (o0s P) (.node (o1s P) (.node (o3_6 P) (.node (o7s P) (.node (o15s P) (.node (o31p P) (.node (o63_4 P) .nil .nil) .nil) (.node (o47_3 P) .nil .nil)) (.node (o23s P) (.node (o39_2 P) (.node (o71_5 P) .nil .nil) .nil) (.node (o55_3 P) .nil .nil))) (.node (o11s P) (.node (o19s P) (.node (o35_2 P) (.node (o67_4 P) .nil .nil) .nil) (.node (o51_3 P) .nil .nil)) (.node (o27s P) (.node (o43_2 P) (.node (o75_5 P) .nil .nil) .nil) (.node (o59_4 P) .nil .nil)))) (.node (o5s P) (.node (o9s P) (.node (o17s P) (.node (o33_2 P) (.node (o65_4 P) .nil .nil) .nil) (.node (o49_3 P) .nil .nil)) (.node (o25s P) (.node (o41_4 P) (.node (o73_5 P) .nil .nil) .nil) (.node (o57_4 P) .nil .nil))) (.node (o13s P) (.node (o21s P) (.node (o37_2 P) (.node (o69_5 P) .nil .nil) .nil) (.node (o53_3 P) .nil .nil)) (.node (o29_5 P) (.node (o45_3 P) .nil .nil) (.node (o61_4 P) .nil .nil))))) (.node (o2_2 P) (.node (o4s P) (.node (o8s P) (.node (o16s P) (.node (o32_2 P) (.node (o64_4 P) .nil .nil) .nil) (.node (o48_3 P) .nil .nil)) (.node (o24s P) (.node (o40_2 P) (.node (o72_5 P) .nil .nil) .nil) (.node (o56_3 P) .nil .nil))) (.node (o12s P) (.node (o20s P) (.node (o36_2 P) (.node (o68_4 P) .nil .nil) .nil) (.node (o52_3 P) .nil .nil)) (.node (o28p P) (.node (o44_2 P) .nil .nil) (.node (o60_4 P) .nil .nil)))) (.node (o6s P) (.node (o10s P) (.node (o18s P) (.node (o34_2 P) (.node (o66_4 P) .nil .nil) .nil) (.node (o50_3 P) .nil .nil)) (.node (o26s P) (.node (o42_2 P) (.node (o74_5 P) .nil .nil) .nil) (.node (o58_4 P) .nil .nil))) (.node (o14s P) (.node (o22s P) (.node (o38_2 P) (.node (o70_5 P) .nil .nil) .nil) (.node (o54_3 P) .nil .nil)) (.node (o30p P) (.node (o46_3 P) .nil .nil) (.node (o62_4 P) .nil .nil))))))
-- toks 351 objs 76 steps 9 pos { line := 26, col := 0, endLine := 26, endCol := 8 }
noncomputable def o3_7 (P : Params) : Obj := ⟨(.type "dict"), none, (.dict #[E P "__name__" 165 (.str "cpy313.smtplib" 349), E P "__doc__" 166 .none, E P "__package__" 167 .none, E P "__loader__" 168 (.builtin "__main__.__loader__#opaque"), E P "__spec__" 169 .none, E P "__annotations__" 170 (.ref 6), E P "__builtins__" 171 (.ref 4), E P "__file__" 173 (.str "/claim/cut.py" 172), E P "__cached__" 174 .none, E P "_sre" 275 (.ref 12), E P "Error" 303 (.ref 41), E P "error_reply" 319 (.ref 54), E P "error_proto" 335 (.ref 66), E P "parse229" 348 (.ref 75), E P "_twin_re_1" 366 (.ref 80)] 15), #[]⟩
noncomputable def o76_7 (P : Params) : Obj := ⟨(.type "list"), none, (.seq #[(.int 14 354), (.int 4 355), (.int 0 356), (.int 1 357), (.int 1 358), (.int 6 359), (.int 1 360), (.int 16 361), (.int 46 362), (.int 1 363)] 0), #[]⟩
noncomputable def o77_7 (P : Params) : Obj := ⟨(.type "dict"), none, (.dict #[] 0), #[]⟩
noncomputable def o78_7 (P : Params) : Obj := ⟨(.type "tuple"), none, (.seq #[.none] 0), #[]⟩
noncomputable def o79_7 (P : Params) : Obj := ⟨(.type "tuple"), none, (.seq #[(.int 14 0), (.int 4 0), (.int 0 0), (.int 1 0), (.int 1 0), (.int 6 0), (.int 1 0), (.int 16 0), (.int 46 0), (.int 1 0)] 0), #[]⟩
noncomputable def o80_7 (P : Params) : Obj := ⟨(.type "re.Pattern"), none, (.fields #[(.str ⟨#[40, 63, 109, 41, 94, 92, 46]⟩ 352), (.int 40 365), (.int 0 0), .none, .none, (.ref 79), (.int 0 0)]), #[]⟩
noncomputable def T_7 (P : Params) : BT := (.node (o0s P) (.node (o1s P) (.node (o3_7 P) (.node (o7s P) (.node (o15s P) (.node (o31p P) (.node (o63_4 P) .nil .nil) .nil) (.node (o47_3 P) (.node (o79_7 P) .nil .nil) .nil)) (.node (o23s P) (.node (o39_2 P) (.node (o71_5 P) .nil .nil) .nil) (.node (o55_3 P) .nil .nil))) (.node (o11s P) (.node (o19s P) (.node (o35_2 P) (.node (o67_4 P) .nil .nil) .nil) (.node (o51_3 P) .nil .nil)) (.node (o27s P) (.node (o43_2 P) (.node (o75_5 P) .nil .nil) .nil) (.node (o59_4 P) .nil .nil)))) (.node (o5s P) (.node (o9s P) (.node (o17s P) (.node (o33_2 P) (.node (o65_4 P) .nil .nil) .nil) (.node (o49_3 P) .nil .nil)) (.node (o25s P) (.node (o41_4 P) (.node (o73_5 P) .nil .nil) .nil) (.node (o57_4 P) .nil .nil))) (.node (o13s P) (.node (o21s P) (.node (o37_2 P) (.node (o69_5 P) .nil .nil) .nil) (.node (o53_3 P) .nil .nil)) (.node (o29_5 P) (.node (o45_3 P) (.node (o77_7 P) .nil .nil) .nil) (.node (o61_4 P) .nil .nil))))) (.node (o2_2 P) (.node (o4s P) (.node (o8s P) (.node (o16s P) (.node (o32_2 P) (.node (o64_4 P) .nil .nil) .nil) (.node (o48_3 P) (.node (o80_7 P) .nil .nil) .nil)) (.node (o24s P) (.node (o40_2 P) (.node (o72_5 P) .nil .nil) .nil) (.node (o56_3 P) .nil .nil))) (.node (o12s P) (.node (o20s P) (.node (o36_2 P) (.node (o68_4 P) .nil .nil) .nil) (.node (o52_3 P) .nil .nil)) (.node (o28p P) (.node (o44_2 P) (.node (o76_7 P) .nil .nil) .nil) (.node (o60_4 P) .nil .nil)))) (.node (o6s P) (.node (o10s P) (.node (o18s P) (.node (o34_2 P) (.node (o66_4 P) .nil .nil) .nil) (.node (o50_3 P) .nil .nil)) (.node (o26s P) (.node (o42_2 P) (.node (o74_5 P) .nil .nil) .nil) (.node (o58_4 P) .nil .nil))) (.node (o14s P) (.node (o22s P) (.node (o38_2 P) (.node (o70_5 P) .nil .nil) .nil) (.node (o54_3 P) .nil .nil)) (.node (o30p P) (.node (o46_3 P) (.node (o78_7 P) .nil .nil) .nil) (.node (o62_4 P) .nil .nil))))))
-- toks 367 objs 81 steps 59 pos { line := 27, col := 0, endLine := 27, endCol := 10 }
noncomputable def o3_8 (P : Params) : Obj := ⟨(.type "dict"), none, (.dict #[E P "__name__" 165 (.str "cpy313.smtplib" 349), E P "__doc__" 166 .none, E P "__package__" 167 .none, E P "__loader__" 168 (.builtin "__main__.__loader__#opaque"), E P "__spec__" 169 .none, E P "__annotations__" 170 (.ref 6), E P "__builtins__" 171 (.ref 4), E P "__file__" 173 (.str "/claim/cut.py" 172), E P "__cached__" 174 .none, E P "_sre" 275 (.ref 12), E P "Error" 303 (.ref 41), E P "error_reply" 319 (.ref 54), E P "error_proto" 335 (.ref 66), E P "parse229" 348 (.ref 75), E P "_twin_re_1" 366 (.ref 80), E P "_twin_re_2" 408 (.ref 85)] 16), #[]⟩
noncomputable def o81_8 (P : Params) : Obj := ⟨(.type "list"), none, (.seq #[(.int 14 370), (.int 9 371), (.int 4 372), (.int 1 373), (.int 2 374), (.int 16 375), (.int 10 376), (.int 16 377), (.int 13 378), (.int 0 379), (.int 7 380), (.int 7 381), (.int 16 382), (.int 13 383), (.int 16 384), (.int 10 385), (.int 15 386), (.int 18 387), (.int 5 388), (.int 16 389), (.int 10 390), (.int 15 391), (.int 13 392), (.int 11 393), (.int 16 394), (.int 13 395), (.int 5 396), (.int 5 397), (.int 0 398), (.int 16 399), (.int 10 400), (.int 1 401), (.int 15 402), (.int 2 403), (.int 0 404), (.int 1 405)] 0), #[]⟩
noncomputable def o82_8 (P : Params) : Obj := ⟨(.type "dict"), none, (.dict #[] 0), #[]⟩
noncomputable def o83_8 (P : Params) : Obj := ⟨(.type "tuple"), none, (.seq #[.none] 0), #[]⟩
noncomputable def o84_8 (P : Params) : Obj := ⟨(.type "tuple"), none, (.seq #[(.int 14 0), (.int 9 0), (.int 4 0), (.int 1 0), (.int 2 0), (.int 16 0), (.int 10 0), (.int 16 0), (.int 13 0), (.int 0 0), (.int 7 0), (.int 7 0), (.int 16 0), (.int 13 0), (.int 16 0), (.int 10 0), (.int 15 0), (.int 18 0), (.int 5 0), (.int 16 0), (.int 10 0), (.int 15 0), (.int 13 0), (.int 11 0), (.int 16 0), (.int 13 0), (.int 5 0), (.int 5 0), (.int 0 0), (.int 16 0), (.int 10 0), (.int 1 0), (.int 15 0), (.int 2 0), (.int 0 0), (.int 1 0)] 0), #[]⟩
noncomputable def o85_8 (P : Params) : Obj := ⟨(.type "re.Pattern"), none, (.fields #[(.str ⟨#[40, 63, 58, 92, 114, 92, 110, 124, 92, 110, 124, 92, 114, 40, 63, 33, 92, 110, 41, 41]⟩ 368), (.int 32 407), (.int 0 0), .none, .none, (.ref 84), (.int 0 0)]), #[]⟩
noncomputable def T_8 (P : Params) : BT := (.node (o0s P) (.node (o1s P) (.node (o3_8 P) (.node (o7s P) (.node (o15s P) (.node (o31p P) (.node (o63_4 P) .nil .nil) .nil) (.node (o47_3 P) (.node (o79_7 P) .nil .nil) .nil)) (.node (o23s P) (.node (o39_2 P) (.node (o71_5 P) .nil .nil) .nil) (.node (o55_3 P) .nil .nil))) (.node (o11s P) (.node (o19s P) (.node (o35_2 P) (.node (o67_4 P) .nil .nil) .nil) (.node (o51_3 P) (.node (o83_8 P) .nil .nil) .nil)) (.node (o27s P) (.node (o43_2 P) (.node (o75_5 P) .nil .nil) .nil) (.node (o59_4 P) .nil .nil)))) (.node (o5s P) (.node (o9s P) (.node (o17s P) (.node (o33_2 P) (.node (o65_4 P) .nil .nil) .nil) (.node (o49_3 P) (.node (o81_8 P) .nil .nil) .nil)) (.node (o25s P) (.node (o41_4 P) (.node (o73_5 P) .nil .nil) .nil) (.node (o57_4 P) .nil .nil))) (.node (o13s P) (.node (o21s P) (.node (o37_2 P) (.node (o69_5 P) .nil .nil) .nil) (.node (o53_3 P) (.node (o85_8 P) .nil .nil) .nil)) (.node (o29_5 P) (.node (o45_3 P) (.node (o77_7 P) .nil .nil) .nil) (.node (o61_4 P) .nil .nil))))) (.node (o2_2 P) (.node (o4s P) (.node (o8s P) (.node (o16s P) (.node (o32_2 P) (.node (o64_4 P) .nil .nil) .nil) (.node (o48_3 P) (.node (o80_7 P) .nil .nil) .nil)) (.node (o24s P) (.node (o40_2 P) (.node (o72_5 P) .nil .nil) .nil) (.node (o56_3 P) .nil .nil))) (.node (o12s P) (.node (o20s P) (.node (o36_2 P) (.node (o68_4 P) .nil .nil) .nil) (.node (o52_3 P) (.node (o84_8 P) .nil .nil) .nil)) (.node (o28p P) (.node (o44_2 P) (.node (o76_7 P) .nil .nil) .nil) (.node (o60_4 P) .nil .nil)))) (.node (o6s P) (.node (o10s P) (.node (o18s P) (.node (o34_2 P) (.node (o66_4 P) .nil .nil) .nil) (.node (o50_3 P) (.node (o82_8 P) .nil .nil) .nil)) (.node (o26s P) (.node (o42_2 P) (.node (o74_5 P) .nil .nil) .nil) (.node (o58_4 P) .nil .nil))) (.node (o14s P) (.node (o22s P) (.node (o38_2 P) (.node (o70_5 P) .nil .nil) .nil) (.node (o54_3 P) .nil .nil)) (.node (o30p P) (.node (o46_3 P) (.node (o78_7 P) .nil .nil) .nil) (.node (o62_4 P) .nil .nil))))))
-- toks 409 objs 86 steps 85 pos { line := 28, col := 0, endLine := 28, endCol := 10 }
noncomputable def o3_9 (P : Params) : Obj := ⟨(.type "dict"), none, (.dict #[E P "__name__" 165 (.str "cpy313.smtplib" 349), E P "__doc__" 166 .none, E P "__package__" 167 .none, E P "__loader__" 168 (.builtin "__main__.__loader__#opaque"), E P "__spec__" 169 .none, E P "__annotations__" 170 (.ref 6), E P "__builtins__" 171 (.ref 4), E P "__file__" 173 (.str "/claim/cut.py" 172), E P "__cached__" 174 .none, E P "_sre" 275 (.ref 12), E P "Error" 303 (.ref 41), E P "error_reply" 319 (.ref 54), E P "error_proto" 335 (.ref 66), E P "parse229" 348 (.ref 75), E P "_twin_re_1" 366 (.ref 80), E P "_twin_re_2" 408 (.ref 85), E P "CRLF" 410 (.str ⟨#[13, 10]⟩ 409)] 17), #[]⟩
noncomputable def T_9 (P : Params) : BT := (.node (o0s P) (.node (o1s P) (.node (o3_9 P) (.node (o7s P) (.node (o15s P) (.node (o31p P) (.node (o63_4 P) .nil .nil) .nil) (.node (o47_3 P) (.node (o79_7 P) .nil .nil) .nil)) (.node (o23s P) (.node (o39_2 P) (.node (o71_5 P) .nil .nil) .nil) (.node (o55_3 P) .nil .nil))) (.node (o11s P) (.node (o19s P) (.node (o35_2 P) (.node (o67_4 P) .nil .nil) .nil) (.node (o51_3 P) (.node (o83_8 P) .nil .nil) .nil)) (.node (o27s P) (.node (o43_2 P) (.node (o75_5 P) .nil .nil) .nil) (.node (o59_4 P) .nil .nil)))) (.node (o5s P) (.node (o9s P) (.node (o17s P) (.node (o33_2 P) (.node (o65_4 P) .nil .nil) .nil) (.node (o49_3 P) (.node (o81_8 P) .nil .nil) .nil)) (.node (o25s P) (.node (o41_4 P) (.node (o73_5 P) .nil .nil) .nil) (.node (o57_4 P) .nil .nil))) (.node (o13s P) (.node (o21s P) (.node (o37_2 P) (.node (o69_5 P) .nil .nil) .nil) (.node (o53_3 P) (.node (o85_8 P) .nil .nil) .nil)) (.node (o29_5 P) (.node (o45_3 P) (.node (o77_7 P) .nil .nil) .nil) (.node (o61_4 P) .nil .nil))))) (.node (o2_2 P) (.node (o4s P) (.node (o8s P) (.node (o16s P) (.node (o32_2 P) (.node (o64_4 P) .nil .nil) .nil) (.node (o48_3 P) (.node (o80_7 P) .nil .nil) .nil)) (.node (o24s P) (.node (o40_2 P) (.node (o72_5 P) .nil .nil) .nil) (.node (o56_3 P) .nil .nil))) (.node (o12s P) (.node (o20s P) (.node (o36_2 P) (.node (o68_4 P) .nil .nil) .nil) (.node (o52_3 P) (.node (o84_8 P) .nil .nil) .nil)) (.node (o28p P) (.node (o44_2 P) (.node (o76_7 P) .nil .nil) .nil) (.node (o60_4 P) .nil .nil)))) (.node (o6s P) (.node (o10s P) (.node (o18s P) (.node (o34_2 P) (.node (o66_4 P) .nil .nil) .nil) (.node (o50_3 P) (.node (o82_8 P) .nil .nil) .nil)) (.node (o26s P) (.node (o42_2 P) (.node (o74_5 P) .nil .nil) .nil) (.node (o58_4 P) .nil .nil))) (.node (o14s P) (.node (o22s P) (.node (o38_2 P) (.node (o70_5 P) .nil .nil) .nil) (.node (o54_3 P) .nil .nil)) (.node (o30p P) (.node (o46_3 P) (.node (o78_7 P) .nil .nil) .nil) (.node (o62_4 P) .nil .nil))))))
-- toks 411 objs 86 steps 9 pos { line := 29, col := 0, endLine := 29, endCol := 4 }
noncomputable def o3_10 (P : Params) : Obj := ⟨(.type "dict"), none, (.dict #[E P "__name__" 165 (.str "cpy313.smtplib" 349), E P "__doc__" 166 .none, E P "__package__" 167 .none, E P "__loader__" 168 (.builtin "__main__.__loader__#opaque"), E P "__spec__" 169 .none, E P "__annotations__" 170 (.ref 6), E P "__builtins__" 171 (.ref 4), E P "__file__" 173 (.str "/claim/cut.py" 172), E P "__cached__" 174 .none, E P "_sre" 275 (.ref 12), E P "Error" 303 (.ref 41), E P "error_reply" 319 (.ref 54), E P "error_proto" 335 (.ref 66), E P "parse229" 348 (.ref 75), E P "_twin_re_1" 366 (.ref 80), E P "_twin_re_2" 408 (.ref 85), E P "CRLF" 410 (.str ⟨#[13, 10]⟩ 409), E P "quotedata" 417 (.ref 92)] 18), #[]⟩
noncomputable def o29_10 (P : Params) : Obj := ⟨.none, none, (.fields #[(.int 3 0), (.int 0 0), (.ref 37), (.int 5 0), (.int 0 0), (.ref 50), (.int 7 0), (.int 0 0), (.ref 62), (.int 9 0), (.int 0 0), (.ref 74), (.int 30 0), (.int 0 0), (.ref 91)]), #[]⟩
noncomputable def o86_10 (P : Params) : Obj := ⟨(.type "tuple"), none, (.seq #[] 0), #[]⟩
noncomputable def o87_10 (P : Params) : Obj := ⟨.none, none, (.fields #[]), #[]⟩
noncomputable def o88_10 (P : Params) : Obj := ⟨(.type "tuple"), none, (.seq #[(.str "data" 414)] 0), #[]⟩
noncomputable def o89_10 (P : Params) : Obj := ⟨(.type "tuple"), none, (.seq #[] 0), #[]⟩
noncomputable def o90_10 (P : Params) : Obj := ⟨.none, none, (.func (fnAt 10 0 .none .none .none .none none .none .none 0)), #[]⟩
noncomputable def o91_10 (P : Params) : Obj := ⟨(.type "code"), none, (.fields #[(.str "quotedata" 411), (.str "quotedata" 412), (.str "/claim/cut.py" 413), (.int 30 0), (.int 1 0), (.int 0 0), (.int 0 0), (.int 3 0), (.ref 86), (.bool true), (.int 276 0), (.ref 87), .none, (.ref 88), (.ref 89), (.ref 90), (.int 415 0), (.int 30 0), (.str "/claim/cut.py" 416)]), #[]⟩
noncomputable def o92_10 (P : Params) : Obj := ⟨(.type "function"), none, (.func (fnAt 10 3 .none .none .none (.str "cpy313.smtplib" 349) none (.ref 91) .none 0)), #[]⟩
noncomputable def T_10 (P : Params) : BT := (.node (o0s P) (.node (o1s P) (.node (o3_10 P) (.node (o7s P) (.node (o15s P) (.node (o31p P) (.node (o63_4 P) .nil .nil) .nil) (.node (o47_3 P) (.node (o79_7 P) .nil .nil) .nil)) (.node (o23s P) (.node (o39_2 P) (.node (o71_5 P) .nil .nil) .nil) (.node (o55_3 P) (.node (o87_10 P) .nil .nil) .nil))) (.node (o11s P) (.node (o19s P) (.node (o35_2 P) (.node (o67_4 P) .nil .nil) .nil) (.node (o51_3 P) (.node (o83_8 P) .nil .nil) .nil)) (.node (o27s P) (.node (o43_2 P) (.node (o75_5 P) .nil .nil) .nil) (.node (o59_4 P) (.node (o91_10 P) .nil .nil) .nil)))) (.node (o5s P) (.node (o9s P) (.node (o17s P) (.node (o33_2 P) (.node (o65_4 P) .nil .nil) .nil) (.node (o49_3 P) (.node (o81_8 P) .nil .nil) .nil)) (.node (o25s P) (.node (o41_4 P) (.node (o73_5 P) .nil .nil) .nil) (.node (o57_4 P) (.node (o89_10 P) .nil .nil) .nil))) (.node (o13s P) (.node (o21s P) (.node (o37_2 P) (.node (o69_5 P) .nil .nil) .nil) (.node (o53_3 P) (.node (o85_8 P) .nil .nil) .nil)) (.node (o29_10 P) (.node (o45_3 P) (.node (o77_7 P) .nil .nil) .nil) (.node (o61_4 P) .nil .nil))))) (.node (o2_2 P) (.node (o4s P) (.node (o8s P) (.node (o16s P) (.node (o32_2 P) (.node (o64_4 P) .nil .nil) .nil) (.node (o48_3 P) (.node (o80_7 P) .nil .nil) .nil)) (.node (o24s P) (.node (o40_2 P) (.node (o72_5 P) .nil .nil) .nil) (.node (o56_3 P) (.node (o88_10 P) .nil .nil) .nil))) (.node (o12s P) (.node (o20s P) (.node (o36_2 P) (.node (o68_4 P) .nil .nil) .nil) (.node (o52_3 P) (.node (o84_8 P) .nil .nil) .nil)) (.node (o28p P) (.node (o44_2 P) (.node (o76_7 P) .nil .nil) .nil) (.node (o60_4 P) (.node (o92_10 P) .nil .nil) .nil)))) (.node (o6s P) (.node (o10s P) (.node (o18s P) (.node (o34_2 P) (.node (o66_4 P) .nil .nil) .nil) (.node (o50_3 P) (.node (o82_8 P) .nil .nil) .nil)) (.node (o26s P) (.node (o42_2 P) (.node (o74_5 P) .nil .nil) .nil) (.node (o58_4 P) (.node (o90_10 P) .nil .nil) .nil))) (.node (o14s P) (.node (o22s P) (.node (o38_2 P) (.node (o70_5 P) .nil .nil) .nil) (.node (o54_3 P) (.node (o86_10 P) .nil .nil) .nil)) (.node (o30p P) (.node (o46_3 P) (.node (o78_7 P) .nil .nil) .nil) (.node (o62_4 P) .nil .nil))))))
-- toks 418 objs 93 steps 29 pos { line := 30, col := 0, endLine := 31, endCol := 59 }
noncomputable def o3_11 (P : Params) : Obj := ⟨(.type "dict"), none, (.dict #[E P "__name__" 165 (.str "cpy313.stringprep" 418), E P "__doc__" 166 .none, E P "__package__" 167 .none, E P "__loader__" 168 (.builtin "__main__.__loader__#opaque"), E P "__spec__" 169 .none, E P "__annotations__" 170 (.ref 6), E P "__builtins__" 171 (.ref 4), E P "__file__" 173 (.str "/claim/cut.py" 172), E P "__cached__" 174 .none, E P "_sre" 275 (.ref 12), E P "Error" 303 (.ref 41), E P "error_reply" 319 (.ref 54), E P "error_proto" 335 (.ref 66), E P "parse229" 348 (.ref 75), E P "_twin_re_1" 366 (.ref 80), E P "_twin_re_2" 408 (.ref 85), E P "CRLF" 410 (.str ⟨#[13, 10]⟩ 409), E P "quotedata" 417 (.ref 92)] 18), #[]⟩
noncomputable def T_11 (P : Params) : BT := (.node (o0s P) (.node (o1s P) (.node (o3_11 P) (.node (o7s P) (.node (o15s P) (.node (o31p P) (.node (o63_4 P) .nil .nil) .nil) (.node (o47_3 P) (.node (o79_7 P) .nil .nil) .nil)) (.node (o23s P) (.node (o39_2 P) (.node (o71_5 P) .nil .nil) .nil) (.node (o55_3 P) (.node (o87_10 P) .nil .nil) .nil))) (.node (o11s P) (.node (o19s P) (.node (o35_2 P) (.node (o67_4 P) .nil .nil) .nil) (.node (o51_3 P) (.node (o83_8 P) .nil .nil) .nil)) (.node (o27s P) (.node (o43_2 P) (.node (o75_5 P) .nil .nil) .nil) (.node (o59_4 P) (.node (o91_10 P) .nil .nil) .nil)))) (.node (o5s P) (.node (o9s P) (.node (o17s P) (.node (o33_2 P) (.node (o65_4 P) .nil .nil) .nil) (.node (o49_3 P) (.node (o81_8 P) .nil .nil) .nil)) (.node (o25s P) (.node (o41_4 P) (.node (o73_5 P) .nil .nil) .nil) (.node (o57_4 P) (.node (o89_10 P) .nil .nil) .nil))) (.node (o13s P) (.node (o21s P) (.node (o37_2 P) (.node (o69_5 P) .nil .nil) .nil) (.node (o53_3 P) (.node (o85_8 P) .nil .nil) .nil)) (.node (o29_10 P) (.node (o45_3 P) (.node (o77_7 P) .nil .nil) .nil) (.node (o61_4 P) .nil .nil))))) (.node (o2_2 P) (.node (o4s P) (.node (o8s P) (.node (o16s P) (.node (o32_2 P) (.node (o64_4 P) .nil .nil) .nil) (.node (o48_3 P) (.node (o80_7 P) .nil .nil) .nil)) (.node (o24s P) (.node (o40_2 P) (.node (o72_5 P) .nil .nil) .nil) (.node (o56_3 P) (.node (o88_10 P) .nil .nil) .nil))) (.node (o12s P) (.node (o20s P) (.node (o36_2 P) (.node (o68_4 P) .nil .nil) .nil) (.node (o52_3 P) (.node (o84_8 P) .nil .nil) .nil)) (.node (o28p P) (.node (o44_2 P) (.node (o76_7 P) .nil .nil) .nil) (.node (o60_4 P) (.node (o92_10 P) .nil .nil) .nil)))) (.node (o6s P) (.node (o10s P) (.node (o18s P) (.node (o34_2 P) (.node (o66_4 P) .nil .nil) .nil) (.node (o50_3 P) (.node (o82_8 P) .nil .nil) .nil)) (.node (o26s P) (.node (o42_2 P) (.node (o74_5 P) .nil .nil) .nil) (.node (o58_4 P) (.node (o90_10 P) .nil .nil) .nil))) (.node (o14s P) (.node (o22s P) (.node (o38_2 P) (.node (o70_5 P) .nil .nil) .nil) (.node (o54_3 P) (.node (o86_10 P) .nil .nil) .nil)) (.node (o30p P) (.node (o46_3 P) (.node (o78_7 P) .nil .nil) .nil) (.node (o62_4 P) .nil .nil))))))
-- toks 420 objs 93 steps 9 pos { line := 32, col := 0, endLine := 32, endCol := 8 }
noncomputable def o3_12 (P : Params) : Obj := ⟨(.type "dict"), none, (.dict #[E P "__name__" 165 (.str "cpy313.stringprep" 418), E P "__doc__" 166 .none, E P "__package__" 167 .none, E P "__loader__" 168 (.builtin "__main__.__loader__#opaque"), E P "__spec__" 169 .none, E P "__annotations__" 170 (.ref 6), E P "__builtins__" 171 (.ref 4), E P "__file__" 173 (.str "/claim/cut.py" 172), E P "__cached__" 174 .none, E P "_sre" 275 (.ref 12), E P "Error" 303 (.ref 41), E P "error_reply" 319 (.ref 54), E P "error_proto" 335 (.ref 66), E P "parse229" 348 (.ref 75), E P "_twin_re_1" 366 (.ref 80), E P "_twin_re_2" 408 (.ref 85), E P "CRLF" 410 (.str ⟨#[13, 10]⟩ 409), E P "quotedata" 417 (.ref 92), E P "b1_set" 479 (.ref 100)] 19), #[]⟩
noncomputable def o93_12 (P : Params) : Obj := ⟨(.type "list"), none, (.seq #[(.int 173 420), (.int 847 421), (.int 6150 422), (.int 6155 423), (.int 6156 424), (.int 6157 425), (.int 8203 426), (.int 8204 427), (.int 8205 428), (.int 8288 429), (.int 65279 430)] 0), #[]⟩
noncomputable def o94_12 (P : Params) : Obj := ⟨(.type "range"), none, (.fields #[(.int 65024 431), (.int 65040 432), (.int 1 433)]), #[]⟩
noncomputable def o95_12 (P : Params) : Obj := ⟨(.type "list"), none, (.seq #[(.int 65024 436), (.int 65025 437), (.int 65026 438), (.int 65027 439), (.int 65028 440), (.int 65029 441), (.int 65030 442), (.int 65031 443), (.int 65032 444), (.int 65033 445), (.int 65034 446), (.int 65035 447), (.int 65036 448), (.int 65037 449), (.int 65038 450), (.int 65039 451)] 18), #[]⟩
noncomputable def o96_12 (P : Params) : Obj := ⟨(.type "range_iterator"), none, (.fields #[(.int 65040 0), (.int 0 0), (.int 1 0)]), #[]⟩
noncomputable def o97_12 (P : Params) : Obj := ⟨(.type "tuple"), none, (.seq #[] 0), #[]⟩
noncomputable def o98_12 (P : Params) : Obj := ⟨(.type "StopIteration"), none, (.fields #[(.ref 97), .none, .none, .none, (.bool false), .none]), #[]⟩
noncomputable def o99_12 (P : Params) : Obj := ⟨(.type "list"), none, (.seq #[(.int 173 420), (.int 847 421), (.int 6150 422), (.int 6155 423), (.int 6156 424), (.int 6157 425), (.int 8203 426), (.int 8204 427), (.int 8205 428), (.int 8288 429), (.int 65279 430), (.int 65024 436), (.int 65025 437), (.int 65026 438), (.int 65027 439), (.int 65028 440), (.int 65029 441), (.int 65030 442), (.int 65031 443), (.int 65032 444), (.int 65033 445), (.int 65034 446), (.int 65035 447), (.int 65036 448), (.int 65037 449), (.int 65038 450), (.int 65039 451)] 0), #[]⟩
noncomputable def o100_12 (P : Params) : Obj := ⟨(.type "set"), none, (.set #[(65024, (.int 65024 436)), (65025, (.int 65025 437)), (65026, (.int 65026 438)), (65027, (.int 65027 439)), (65028, (.int 65028 440)), (65029, (.int 65029 441)), (6150, (.int 6150 422)), (65030, (.int 65030 442)), (65031, (.int 65031 443)), (65032, (.int 65032 444)), (65033, (.int 65033 445)), (6155, (.int 6155 423)), (6156, (.int 6156 424)), (6157, (.int 6157 425)), (8203, (.int 8203 426)), (8204, (.int 8204 427)), (8205, (.int 8205 428)), (65034, (.int 65034 446)), (65035, (.int 65035 447)), (65036, (.int 65036 448)), (65037, (.int 65037 449)), (65038, (.int 65038 450)), (65039, (.int 65039 451)), (173, (.int 173 420)), (847, (.int 847 421)), (8288, (.int 8288 429)), (65279, (.int 65279 430))] 29 ⟨127, #[0, 1, 2, 3, 4, 5, 6, 7, 8, 9, 10, 11, 12, 13, 14, 15, 16, 17, 18, 19, 20, 21, 22, 45, 79, 96, 127], #[], 0, !P.followText "set-order", 2, true⟩), #[]⟩
noncomputable def o101_12 (P : Params) : Obj := ⟨(.type "list_iterator"), none, (.fields #[.none, (.int 27 0)]), #[]⟩
noncomputable def o102_12 (P : Params) : Obj := ⟨(.type "tuple"), none, (.seq #[] 0), #[]⟩
noncomputable def o103_12 (P : Params) : Obj := ⟨(.type "StopIteration"), none, (.fields #[(.ref 102), .none, .none, .none, (.bool false), .none]), #[]⟩
noncomputable def T_12 (P : Params) : BT := (.node (o0s P) (.node (o1s P) (.node (o3_12 P) (.node (o7s P) (.node (o15s P) (.node (o31p P) (.node (o63_4 P) .nil .nil) (.node (o95_12 P) .nil .nil)) (.node (o47_3 P) (.node (o79_7 P) .nil .nil) .nil)) (.node (o23s P) (.node (o39_2 P) (.node (o71_5 P) .nil .nil) (.node (o103_12 P) .nil .nil)) (.node (o55_3 P) (.node (o87_10 P) .nil .nil) .nil))) (.node (o11s P) (.node (o19s P) (.node (o35_2 P) (.node (o67_4 P) .nil .nil) (.node (o99_12 P) .nil .nil)) (.node (o51_3 P) (.node (o83_8 P) .nil .nil) .nil)) (.node (o27s P) (.node (o43_2 P) (.node (o75_5 P) .nil .nil) .nil) (.node (o59_4 P) (.node (o91_10 P) .nil .nil) .nil)))) (.node (o5s P) (.node (o9s P) (.node (o17s P) (.node (o33_2 P) (.node (o65_4 P) .nil .nil) (.node (o97_12 P) .nil .nil)) (.node (o49_3 P) (.node (o81_8 P) .nil .nil) .nil)) (.node (o25s P) (.node (o41_4 P) (.node (o73_5 P) .nil .nil) .nil) (.node (o57_4 P) (.node (o89_10 P) .nil .nil) .nil))) (.node (o13s P) (.node (o21s P) (.node (o37_2 P) (.node (o69_5 P) .nil .nil) (.node (o101_12 P) .nil .nil)) (.node (o53_3 P) (.node (o85_8 P) .nil .nil) .nil)) (.node (o29_10 P) (.node (o45_3 P) (.node (o77_7 P) .nil .nil) .nil) (.node (o61_4 P) (.node (o93_12 P) .nil .nil) .nil))))) (.node (o2_2 P) (.node (o4s P) (.node (o8s P) (.node (o16s P) (.node (o32_2 P) (.node (o64_4 P) .nil .nil) (.node (o96_12 P) .nil .nil)) (.node (o48_3 P) (.node (o80_7 P) .nil .nil) .nil)) (.node (o24s P) (.node (o40_2 P) (.node (o72_5 P) .nil .nil) .nil) (.node (o56_3 P) (.node (o88_10 P) .nil .nil) .nil))) (.node (o12s P) (.node (o20s P) (.node (o36_2 P) (.node (o68_4 P) .nil .nil) (.node (o100_12 P) .nil .nil)) (.node (o52_3 P) (.node (o84_8 P) .nil .nil) .nil)) (.node (o28p P) (.node (o44_2 P) (.node (o76_7 P) .nil .nil) .nil) (.node (o60_4 P) (.node (o92_10 P) .nil .nil) .nil)))) (.node (o6s P) (.node (o10s P) (.node (o18s P) (.node (o34_2 P) (.node (o66_4 P) .nil .nil) (.node (o98_12 P) .nil .nil)) (.node (o50_3 P) (.node (o82_8 P) .nil .nil) .nil)) (.node (o26s P) (.node (o42_2 P) (.node (o74_5 P) .nil .nil) .nil) (.node (o58_4 P) (.node (o90_10 P) .nil .nil) .nil))) (.node (o14s P) (.node (o22s P) (.node (o38_2 P) (.node (o70_5 P) .nil .nil) (.node (o102_12 P) .nil .nil)) (.node (o54_3 P) (.node (o86_10 P) .nil .nil) .nil)) (.node (o30p P) (.node (o46_3 P) (.node (o78_7 P) .nil .nil) .nil) (.node (o62_4 P) (.node (o94_12 P) .nil .nil) .nil))))))
-- toks 480 objs 104 steps 998 pos { line := 33, col := 0, endLine := 33, endCol := 6 }
noncomputable def o3_13 (P : Params) : Obj := ⟨(.type "dict"), none, (.dict #[E P "__name__" 165 (.str "cpy313.stringprep" 418), E P "__doc__" 166 .none, E P "__package__" 167 .none, E P "__loader__" 168 (.builtin "__main__.__loader__#opaque"), E P "__spec__" 169 .none, E P "__annotations__" 170 (.ref 6), E P "__builtins__" 171 (.ref 4), E P "__file__" 173 (.str "/claim/cut.py" 172), E P "__cached__" 174 .none, E P "_sre" 275 (.ref 12), E P "Error" 303 (.ref 41), E P "error_reply" 319 (.ref 54), E P "error_proto" 335 (.ref 66), E P "parse229" 348 (.ref 75), E P "_twin_re_1" 366 (.ref 80), E P "_twin_re_2" 408 (.ref 85), E P "CRLF" 410 (.str ⟨#[13, 10]⟩ 409), E P "quotedata" 417 (.ref 92), E P "b1_set" 479 (.ref 100), E P "in_table_b1" 486 (.ref 110)] 20), #[]⟩
noncomputable def o29_13 (P : Params) : Obj := ⟨.none, none, (.fields #[(.int 3 0), (.int 0 0), (.ref 37), (.int 5 0), (.int 0 0), (.ref 50), (.int 7 0), (.int 0 0), (.ref 62), (.int 9 0), (.int 0 0), (.ref 74), (.int 30 0), (.int 0 0), (.ref 91), (.int 34 0), (.int 0 0), (.ref 109)]), #[]⟩
noncomputable def o104_13 (P : Params) : Obj := ⟨(.type "tuple"), none, (.seq #[] 0), #[]⟩
noncomputable def o105_13 (P : Params) : Obj := ⟨.none, none, (.fields #[]), #[]⟩
noncomputable def o106_13 (P : Params) : Obj := ⟨(.type "tuple"), none, (.seq #[(.str "code" 483)] 0), #[]⟩
noncomputable def o107_13 (P : Params) : Obj := ⟨(.type "tuple"), none, (.seq #[] 0), #[]⟩
noncomputable def o108_13 (P : Params) : Obj := ⟨.none, none, (.func (fnAt 13 0 .none .none .none .none none .none .none 0)), #[]⟩
noncomputable def o109_13 (P : Params) : Obj := ⟨(.type "code"), none, (.fields #[(.str "in_table_b1" 480), (.str "in_table_b1" 481), (.str "/claim/cut.py" 482), (.int 34 0), (.int 1 0), (.int 0 0), (.int 0 0), (.int 3 0), (.ref 104), (.bool true), (.int 276 0), (.ref 105), .none, (.ref 106), (.ref 107), (.ref 108), (.int 484 0), (.int 34 0), (.str "/claim/cut.py" 485)]), #[]⟩
noncomputable def o110_13 (P : Params) : Obj := ⟨(.type "function"), none, (.func (fnAt 13 3 .none .none .none (.str "cpy313.stringprep" 418) none (.ref 109) .none 0)), #[]⟩
noncomputable def T_13 (P : Params) : BT := (.node (o0s P) (.node (o1s P) (.node (o3_13 P) (.node (o7s P) (.node (o15s P) (.node (o31p P) (.node (o63_4 P) .nil .nil) (.node (o95_12 P) .nil .nil)) (.node (o47_3 P) (.node (o79_7 P) .nil .nil) .nil)) (.node (o23s P) (.node (o39_2 P) (.node (o71_5 P) .nil .nil) (.node (o103_12 P) .nil .nil)) (.node (o55_3 P) (.node (o87_10 P) .nil .nil) .nil))) (.node (o11s P) (.node (o19s P) (.node (o35_2 P) (.node (o67_4 P) .nil .nil) (.node (o99_12 P) .nil .nil)) (.node (o51_3 P) (.node (o83_8 P) .nil .nil) .nil)) (.node (o27s P) (.node (o43_2 P) (.node (o75_5 P) .nil .nil) (.node (o107_13 P) .nil .nil)) (.node (o59_4 P) (.node (o91_10 P) .nil .nil) .nil)))) (.node (o5s P) (.node (o9s P) (.node (o17s P) (.node (o33_2 P) (.node (o65_4 P) .nil .nil) (.node (o97_12 P) .nil .nil)) (.node (o49_3 P) (.node (o81_8 P) .nil .nil) .nil)) (.node (o25s P) (.node (o41_4 P) (.node (o73_5 P) .nil .nil) (.node (o105_13 P) .nil .nil)) (.node (o57_4 P) (.node (o89_10 P) .nil .nil) .nil))) (.node (o13s P) (.node (o21s P) (.node (o37_2 P) (.node (o69_5 P) .nil .nil) (.node (o101_12 P) .nil .nil)) (.node (o53_3 P) (.node (o85_8 P) .nil .nil) .nil)) (.node (o29_13 P) (.node (o45_3 P) (.node (o77_7 P) .nil .nil) (.node (o109_13 P) .nil .nil)) (.node (o61_4 P) (.node (o93_12 P) .nil .nil) .nil))))) (.node (o2_2 P) (.node (o4s P) (.node (o8s P) (.node (o16s P) (.node (o32_2 P) (.node (o64_4 P) .nil .nil) (.node (o96_12 P) .nil .nil)) (.node (o48_3 P) (.node (o80_7 P) .nil .nil) .nil)) (.node (o24s P) (.node (o40_2 P) (.node (o72_5 P) .nil .nil) (.node (o104_13 P) .nil .nil)) (.node (o56_3 P) (.node (o88_10 P) .nil .nil) .nil))) (.node (o12s P) (.node (o20s P) (.node (o36_2 P) (.node (o68_4 P) .nil .nil) (.node (o100_12 P) .nil .nil)) (.node (o52_3 P) (.node (o84_8 P) .nil .nil) .nil)) (.node (o28p P) (.node (o44_2 P) (.node (o76_7 P) .nil .nil) (.node (o108_13 P) .nil .nil)) (.node (o60_4 P) (.node (o92_10 P) .nil .nil) .nil)))) (.node (o6s P) (.node (o10s P) (.node (o18s P) (.node (o34_2 P) (.node (o66_4 P) .nil .nil) (.node (o98_12 P) .nil .nil)) (.node (o50_3 P) (.node (o82_8 P) .nil .nil) .nil)) (.node (o26s P) (.node (o42_2 P) (.node (o74_5 P) .nil .nil) (.node (o106_13 P) .nil .nil)) (.node (o58_4 P) (.node (o90_10 P) .nil .nil) .nil))) (.node (o14s P) (.node (o22s P) (.node (o38_2 P) (.node (o70_5 P) .nil .nil) (.node (o102_12 P) .nil .nil)) (.node (o54_3 P) (.node (o86_10 P) .nil .nil) .nil)) (.node (o30p P) (.node (o46_3 P) (.node (o78_7 P) .nil .nil) (.node (o110_13 P) .nil .nil)) (.node (o62_4 P) (.node (o94_12 P) .nil .nil) .nil))))))
-- toks 487 objs 111 steps 29 pos { line := 34, col := 0, endLine := 35, endCol := 30 }
noncomputable def o3_14 (P : Params) : Obj := ⟨(.type "dict"), none, (.dict #[E P "__name__" 165 (.str "cpy313.stringprep" 418), E P "__doc__" 166 .none, E P "__package__" 167 .none, E P "__loader__" 168 (.builtin "__main__.__loader__#opaque"), E P "__spec__" 169 .none, E P "__annotations__" 170 (.ref 6), E P "__builtins__" 171 (.ref 4), E P "__file__" 173 (.str "/claim/cut.py" 172), E P "__cached__" 174 .none, E P "_sre" 275 (.ref 12), E P "Error" 303 (.ref 41), E P "error_reply" 319 (.ref 54), E P "error_proto" 335 (.ref 66), E P "parse229" 348 (.ref 75), E P "_twin_re_1" 366 (.ref 80), E P "_twin_re_2" 408 (.ref 85), E P "CRLF" 410 (.str ⟨#[13, 10]⟩ 409), E P "quotedata" 417 (.ref 92), E P "b1_set" 479 (.ref 100), E P "in_table_b1" 486 (.ref 110), E P "b3_exceptions" 2437 (.ref 111)] 21), #[]⟩
noncomputable def o111_14 (P : Params) : Obj := b3Dict 650
noncomputable def o112_14 (P : Params) : Obj := b3Sub 1 17
noncomputable def o113_14 (P : Params) : Obj := b3Sub 2 17
noncomputable def o114_14 (P : Params) : Obj := b3Sub 3 17
noncomputable def o115_14 (P : Params) : Obj := b3Sub 4 17
noncomputable def o116_14 (P : Params) : Obj := b3Sub 5 17
noncomputable def o117_14 (P : Params) : Obj := b3Sub 6 17
noncomputable def o118_14 (P : Params) : Obj := b3Sub 7 17
noncomputable def o119_14 (P : Params) : Obj := b3Sub 8 17
noncomputable def o120_14 (P : Params) : Obj := b3Sub 9 17
noncomputable def o121_14 (P : Params) : Obj := b3Sub 10 17
noncomputable def o122_14 (P : Params) : Obj := b3Sub 11 17
noncomputable def o123_14 (P : Params) : Obj := b3Sub 12 17
noncomputable def o124_14 (P : Params) : Obj := b3Sub 13 17
noncomputable def o125_14 (P : Params) : Obj := b3Sub 14 17
noncomputable def o126_14 (P : Params) : Obj := b3Sub 15 17
noncomputable def o127_14 (P : Params) : Obj := b3Sub 16 17
noncomputable def o128_14 (P : Params) : Obj := b3Sub 17 17
noncomputable def o129_14 (P : Params) : Obj := b3Sub 18 17
noncomputable def o130_14 (P : Params) : Obj := b3Sub 19 17
noncomputable def o131_14 (P : Params) : Obj := b3Sub 20 17
noncomputable def o132_14 (P : Params) : Obj := b3Sub 21 17
noncomputable def o133_14 (P : Params) : Obj := b3Sub 22 17
noncomputable def o134_14 (P : Params) : Obj := b3Sub 23 17
noncomputable def o135_14 (P : Params) : Obj := b3Sub 24 17
noncomputable def o136_14 (P : Params) : Obj := b3Sub 25 17
noncomputable def o137_14 (P : Params) : Obj := b3Sub 26 17
noncomputable def o138_14 (P : Params) : Obj := b3Sub 27 17
noncomputable def o139_14 (P : Params) : Obj := b3Sub 28 17
noncomputable def o140_14 (P : Params) : Obj := b3Sub 29 17
noncomputable def o141_14 (P : Params) : Obj := b3Sub 30 17
noncomputable def o142_14 (P : Params) : Obj := b3Sub 31 17
noncomputable def o143_14 (P : Params) : Obj := b3Sub 32 17
noncomputable def o144_14 (P : Params) : Obj := b3Sub 33 17
noncomputable def o145_14 (P : Params) : Obj := b3Sub 34 17
noncomputable def o146_14 (P : Params) : Obj := b3Sub 35 17
noncomputable def o147_14 (P : Params) : Obj := b3Sub 36 17
noncomputable def o148_14 (P : Params) : Obj := b3Sub 37 17
noncomputable def o149_14 (P : Params) : Obj := b3Sub 38 4
noncomputable def T_14 (P : Params) : BT := (.node (o0s P) (.node (o1s P) (.node (o3_14 P) (.node (o7s P) (.node (o15s P) (.node (o31p P) (.node (o63_4 P) (.node (o127_14 P) .nil .nil) .nil) (.node (o95_12 P) .nil .nil)) (.node (o47_3 P) (.node (o79_7 P) (.node (o143_14 P) .nil .nil) .nil) (.node (o111_14 P) .nil .nil))) (.node (o23s P) (.node (o39_2 P) (.node (o71_5 P) (.node (o135_14 P) .nil .nil) .nil) (.node (o103_12 P) .nil .nil)) (.node (o55_3 P) (.node (o87_10 P) .nil .nil) (.node (o119_14 P) .nil .nil)))) (.node (o11s P) (.node (o19s P) (.node (o35_2 P) (.node (o67_4 P) (.node (o131_14 P) .nil .nil) .nil) (.node (o99_12 P) .nil .nil)) (.node (o51_3 P) (.node (o83_8 P) (.node (o147_14 P) .nil .nil) .nil) (.node (o115_14 P) .nil .nil))) (.node (o27s P) (.node (o43_2 P) (.node (o75_5 P) (.node (o139_14 P) .nil .nil) .nil) (.node (o107_13 P) .nil .nil)) (.node (o59_4 P) (.node (o91_10 P) .nil .nil) (.node (o123_14 P) .nil .nil))))) (.node (o5s P) (.node (o9s P) (.node (o17s P) (.node (o33_2 P) (.node (o65_4 P) (.node (o129_14 P) .nil .nil) .nil) (.node (o97_12 P) .nil .nil)) (.node (o49_3 P) (.node (o81_8 P) (.node (o145_14 P) .nil .nil) .nil) (.node (o113_14 P) .nil .nil))) (.node (o25s P) (.node (o41_4 P) (.node (o73_5 P) (.node (o137_14 P) .nil .nil) .nil) (.node (o105_13 P) .nil .nil)) (.node (o57_4 P) (.node (o89_10 P) .nil .nil) (.node (o121_14 P) .nil .nil)))) (.node (o13s P) (.node (o21s P) (.node (o37_2 P) (.node (o69_5 P) (.node (o133_14 P) .nil .nil) .nil) (.node (o101_12 P) .nil .nil)) (.node (o53_3 P) (.node (o85_8 P) (.node (o149_14 P) .nil .nil) .nil) (.node (o117_14 P) .nil .nil))) (.node (o29_13 P) (.node (o45_3 P) (.node (o77_7 P) (.node (o141_14 P) .nil .nil) .nil) (.node (o109_13 P) .nil .nil)) (.node (o61_4 P) (.node (o93_12 P) .nil .nil) (.node (o125_14 P) .nil .nil)))))) (.node (o2_2 P) (.node (o4s P) (.node (o8s P) (.node (o16s P) (.node (o32_2 P) (.node (o64_4 P) (.node (o128_14 P) .nil .nil) .nil) (.node (o96_12 P) .nil .nil)) (.node (o48_3 P) (.node (o80_7 P) (.node (o144_14 P) .nil .nil) .nil) (.node (o112_14 P) .nil .nil))) (.node (o24s P) (.node (o40_2 P) (.node (o72_5 P) (.node (o136_14 P) .nil .nil) .nil) (.node (o104_13 P) .nil .nil)) (.node (o56_3 P) (.node (o88_10 P) .nil .nil) (.node (o120_14 P) .nil .nil)))) (.node (o12s P) (.node (o20s P) (.node (o36_2 P) (.node (o68_4 P) (.node (o132_14 P) .nil .nil) .nil) (.node (o100_12 P) .nil .nil)) (.node (o52_3 P) (.node (o84_8 P) (.node (o148_14 P) .nil .nil) .nil) (.node (o116_14 P) .nil .nil))) (.node (o28p P) (.node (o44_2 P) (.node (o76_7 P) (.node (o140_14 P) .nil .nil) .nil) (.node (o108_13 P) .nil .nil)) (.node (o60_4 P) (.node (o92_10 P) .nil .nil) (.node (o124_14 P) .nil .nil))))) (.node (o6s P) (.node (o10s P) (.node (o18s P) (.node (o34_2 P) (.node (o66_4 P) (.node (o130_14 P) .nil .nil) .nil) (.node (o98_12 P) .nil .nil)) (.node (o50_3 P) (.node (o82_8 P) (.node (o146_14 P) .nil .nil) .nil) (.node (o114_14 P) .nil .nil))) (.node (o26s P) (.node (o42_2 P) (.node (o74_5 P) (.node (o138_14 P) .nil .nil) .nil) (.node (o106_13 P) .nil .nil)) (.node (o58_4 P) (.node (o90_10 P) .nil .nil) (.node (o122_14 P) .nil .nil)))) (.node (o14s P) (.node (o22s P) (.node (o38_2 P) (.node (o70_5 P) (.node (o134_14 P) .nil .nil) .nil) (.node (o102_12 P) .nil .nil)) (.node (o54_3 P) (.node (o86_10 P) .nil .nil) (.node (o118_14 P) .nil .nil))) (.node (o30p P) (.node (o46_3 P) (.node (o78_7 P) (.node (o142_14 P) .nil .nil) .nil) (.node (o110_13 P) .nil .nil)) (.node (o62_4 P) (.node (o94_12 P) .nil .nil) (.node (o126_14 P) .nil .nil)))))))
-- toks 2438 objs 150 steps 12524 pos { line := 36, col := 0, endLine := 36, endCol := 13 }
noncomputable def o3_15 (P : Params) : Obj := ⟨(.type "dict"), none, (.dict #[E P "__name__" 165 (.str "cpy313.stringprep" 418), E P "__doc__" 166 .none, E P "__package__" 167 .none, E P "__loader__" 168 (.builtin "__main__.__loader__#opaque"), E P "__spec__" 169 .none, E P "__annotations__" 170 (.ref 6), E P "__builtins__" 171 (.ref 4), E P "__file__" 173 (.str "/claim/cut.py" 172), E P "__cached__" 174 .none, E P "_sre" 275 (.ref 12), E P "Error" 303 (.ref 41), E P "error_reply" 319 (.ref 54), E P "error_proto" 335 (.ref 66), E P "parse229" 348 (.ref 75), E P "_twin_re_1" 366 (.ref 80), E P "_twin_re_2" 408 (.ref 85), E P "CRLF" 410 (.str ⟨#[13, 10]⟩ 409), E P "quotedata" 417 (.ref 92), E P "b1_set" 479 (.ref 100), E P "in_table_b1" 486 (.ref 110), E P "b3_exceptions" 2437 (.ref 111), E P "map_table_b3" 2445 (.ref 156)] 22), #[]⟩
noncomputable def o29_15 (P : Params) : Obj := ⟨.none, none, (.fields #[(.int 3 0), (.int 0 0), (.ref 37), (.int 5 0), (.int 0 0), (.ref 50), (.int 7 0), (.int 0 0), (.ref 62), (.int 9 0), (.int 0 0), (.ref 74), (.int 30 0), (.int 0 0), (.ref 91), (.int 34 0), (.int 0 0), (.ref 109), (.int 37 0), (.int 0 0), (.ref 155)]), #[]⟩
noncomputable def o150_15 (P : Params) : Obj := ⟨(.type "tuple"), none, (.seq #[] 0), #[]⟩
noncomputable def o151_15 (P : Params) : Obj := ⟨.none, none, (.fields #[]), #[]⟩
noncomputable def o152_15 (P : Params) : Obj := ⟨(.type "tuple"), none, (.seq #[(.str "code" 2441), (.str "r" 2442)] 0), #[]⟩
noncomputable def o153_15 (P : Params) : Obj := ⟨(.type "tuple"), none, (.seq #[] 0), #[]⟩
noncomputable def o154_15 (P : Params) : Obj := ⟨.none, none, (.func (fnAt 15 0 .none .none .none .none none .none .none 0)), #[]⟩
noncomputable def o155_15 (P : Params) : Obj := ⟨(.type "code"), none, (.fields #[(.str "map_table_b3" 2438), (.str "map_table_b3" 2439), (.str "/claim/cut.py" 2440), (.int 37 0), (.int 1 0), (.int 0 0), (.int 0 0), (.int 3 0), (.ref 150), (.bool true), (.int 276 0), (.ref 151), .none, (.ref 152), (.ref 153), (.ref 154), (.int 2443 0), (.int 37 0), (.str "/claim/cut.py" 2444)]), #[]⟩
noncomputable def o156_15 (P : Params) : Obj := ⟨(.type "function"), none, (.func (fnAt 15 3 .none .none .none (.str "cpy313.stringprep" 418) none (.ref 155) .none 0)), #[]⟩
noncomputable def T_15 (P : Params) : BT := (.node (o0s P) (.node (o1s P) (.node (o3_15 P) (.node (o7s P) (.node (o15s P) (.node (o31p P) (.node (o63_4 P) (.node (o127_14 P) .nil .nil) .nil) (.node (o95_12 P) .nil .nil)) (.node (o47_3 P) (.node (o79_7 P) (.node (o143_14 P) .nil .nil) .nil) (.node (o111_14 P) .nil .nil))) (.node (o23s P) (.node (o39_2 P) (.node (o71_5 P) (.node (o135_14 P) .nil .nil) .nil) (.node (o103_12 P) .nil .nil)) (.node (o55_3 P) (.node (o87_10 P) (.node (o151_15 P) .nil .nil) .nil) (.node (o119_14 P) .nil .nil)))) (.node (o11s P) (.node (o19s P) (.node (o35_2 P) (.node (o67_4 P) (.node (o131_14 P) .nil .nil) .nil) (.node (o99_12 P) .nil .nil)) (.node (o51_3 P) (.node (o83_8 P) (.node (o147_14 P) .nil .nil) .nil) (.node (o115_14 P) .nil .nil))) (.node (o27s P) (.node (o43_2 P) (.node (o75_5 P) (.node (o139_14 P) .nil .nil) .nil) (.node (o107_13 P) .nil .nil)) (.node (o59_4 P) (.node (o91_10 P) (.node (o155_15 P) .nil .nil) .nil) (.node (o123_14 P) .nil .nil))))) (.node (o5s P) (.node (o9s P) (.node (o17s P) (.node (o33_2 P) (.node (o65_4 P) (.node (o129_14 P) .nil .nil) .nil) (.node (o97_12 P) .nil .nil)) (.node (o49_3 P) (.node (o81_8 P) (.node (o145_14 P) .nil .nil) .nil) (.node (o113_14 P) .nil .nil))) (.node (o25s P) (.node (o41_4 P) (.node (o73_5 P) (.node (o137_14 P) .nil .nil) .nil) (.node (o105_13 P) .nil .nil)) (.node (o57_4 P) (.node (o89_10 P) (.node (o153_15 P) .nil .nil) .nil) (.node (o121_14 P) .nil .nil)))) (.node (o13s P) (.node (o21s P) (.node (o37_2 P) (.node (o69_5 P) (.node (o133_14 P) .nil .nil) .nil) (.node (o101_12 P) .nil .nil)) (.node (o53_3 P) (.node (o85_8 P) (.node (o149_14 P) .nil .nil) .nil) (.node (o117_14 P) .nil .nil))) (.node (o29_15 P) (.node (o45_3 P) (.node (o77_7 P) (.node (o141_14 P) .nil .nil) .nil) (.node (o109_13 P) .nil .nil)) (.node (o61_4 P) (.node (o93_12 P) .nil .nil) (.node (o125_14 P) .nil .nil)))))) (.node (o2_2 P) (.node (o4s P) (.node (o8s P) (.node (o16s P) (.node (o32_2 P) (.node (o64_4 P) (.node (o128_14 P) .nil .nil) .nil) (.node (o96_12 P) .nil .nil)) (.node (o48_3 P) (.node (o80_7 P) (.node (o144_14 P) .nil .nil) .nil) (.node (o112_14 P) .nil .nil))) (.node (o24s P) (.node (o40_2 P) (.node (o72_5 P) (.node (o136_14 P) .nil .nil) .nil) (.node (o104_13 P) .nil .nil)) (.node (o56_3 P) (.node (o88_10 P) (.node (o152_15 P) .nil .nil) .nil) (.node (o120_14 P) .nil .nil)))) (.node (o12s P) (.node (o20s P) (.node (o36_2 P) (.node (o68_4 P) (.node (o132_14 P) .nil .nil) .nil) (.node (o100_12 P) .nil .nil)) (.node (o52_3 P) (.node (o84_8 P) (.node (o148_14 P) .nil .nil) .nil) (.node (o116_14 P) .nil .nil))) (.node (o28p P) (.node (o44_2 P) (.node (o76_7 P) (.node (o140_14 P) .nil .nil) .nil) (.node (o108_13 P) .nil .nil)) (.node (o60_4 P) (.node (o92_10 P) (.node (o156_15 P) .nil .nil) .nil) (.node (o124_14 P) .nil .nil))))) (.node (o6s P) (.node (o10s P) (.node (o18s P) (.node (o34_2 P) (.node (o66_4 P) (.node (o130_14 P) .nil .nil) .nil) (.node (o98_12 P) .nil .nil)) (.node (o50_3 P) (.node (o82_8 P) (.node (o146_14 P) .nil .nil) .nil) (.node (o114_14 P) .nil .nil))) (.node (o26s P) (.node (o42_2 P) (.node (o74_5 P) (.node (o138_14 P) .nil .nil) .nil) (.node (o106_13 P) .nil .nil)) (.node (o58_4 P) (.node (o90_10 P) (.node (o154_15 P) .nil .nil) .nil) (.node (o122_14 P) .nil .nil)))) (.node (o14s P) (.node (o22s P) (.node (o38_2 P) (.node (o70_5 P) (.node (o134_14 P) .nil .nil) .nil) (.node (o102_12 P) .nil .nil)) (.node (o54_3 P) (.node (o86_10 P) (.node (o150_15 P) .nil .nil) .nil) (.node (o118_14 P) .nil .nil))) (.node (o30p P) (.node (o46_3 P) (.node (o78_7 P) (.node (o142_14 P) .nil .nil) .nil) (.node (o110_13 P) .nil .nil)) (.node (o62_4 P) (.node (o94_12 P) .nil .nil) (.node (o126_14 P) .nil .nil)))))))
-- toks 2446 objs 157 steps 30 pos { line := 37, col := 0, endLine := 41, endCol := 23 }
noncomputable def o3_16 (P : Params) : Obj := ⟨(.type "dict"), none, (.dict #[E P "__name__" 165 (.str "law_tr0051_01" 2446), E P "__doc__" 166 .none, E P "__package__" 167 .none, E P "__loader__" 168 (.builtin "__main__.__loader__#opaque"), E P "__spec__" 169 .none, E P "__annotations__" 170 (.ref 6), E P "__builtins__" 171 (.ref 4), E P "__file__" 173 (.str "/claim/cut.py" 172), E P "__cached__" 174 .none, E P "_sre" 275 (.ref 12), E P "Error" 303 (.ref 41), E P "error_reply" 319 (.ref 54), E P "error_proto" 335 (.ref 66), E P "parse229" 348 (.ref 75), E P "_twin_re_1" 366 (.ref 80), E P "_twin_re_2" 408 (.ref 85), E P "CRLF" 410 (.str ⟨#[13, 10]⟩ 409), E P "quotedata" 417 (.ref 92), E P "b1_set" 479 (.ref 100), E P "in_table_b1" 486 (.ref 110), E P "b3_exceptions" 2437 (.ref 111), E P "map_table_b3" 2445 (.ref 156)] 22), #[]⟩
noncomputable def T_16 (P : Params) : BT := (.node (o0s P) (.node (o1s P) (.node (o3_16 P) (.node (o7s P) (.node (o15s P) (.node (o31p P) (.node (o63_4 P) (.node (o127_14 P) .nil .nil) .nil) (.node (o95_12 P) .nil .nil)) (.node (o47_3 P) (.node (o79_7 P) (.node (o143_14 P) .nil .nil) .nil) (.node (o111_14 P) .nil .nil))) (.node (o23s P) (.node (o39_2 P) (.node (o71_5 P) (.node (o135_14 P) .nil .nil) .nil) (.node (o103_12 P) .nil .nil)) (.node (o55_3 P) (.node (o87_10 P) (.node (o151_15 P) .nil .nil) .nil) (.node (o119_14 P) .nil .nil)))) (.node (o11s P) (.node (o19s P) (.node (o35_2 P) (.node (o67_4 P) (.node (o131_14 P) .nil .nil) .nil) (.node (o99_12 P) .nil .nil)) (.node (o51_3 P) (.node (o83_8 P) (.node (o147_14 P) .nil .nil) .nil) (.node (o115_14 P) .nil .nil))) (.node (o27s P) (.node (o43_2 P) (.node (o75_5 P) (.node (o139_14 P) .nil .nil) .nil) (.node (o107_13 P) .nil .nil)) (.node (o59_4 P) (.node (o91_10 P) (.node (o155_15 P) .nil .nil) .nil) (.node (o123_14 P) .nil .nil))))) (.node (o5s P) (.node (o9s P) (.node (o17s P) (.node (o33_2 P) (.node (o65_4 P) (.node (o129_14 P) .nil .nil) .nil) (.node (o97_12 P) .nil .nil)) (.node (o49_3 P) (.node (o81_8 P) (.node (o145_14 P) .nil .nil) .nil) (.node (o113_14 P) .nil .nil))) (.node (o25s P) (.node (o41_4 P) (.node (o73_5 P) (.node (o137_14 P) .nil .nil) .nil) (.node (o105_13 P) .nil .nil)) (.node (o57_4 P) (.node (o89_10 P) (.node (o153_15 P) .nil .nil) .nil) (.node (o121_14 P) .nil .nil)))) (.node (o13s P) (.node (o21s P) (.node (o37_2 P) (.node (o69_5 P) (.node (o133_14 P) .nil .nil) .nil) (.node (o101_12 P) .nil .nil)) (.node (o53_3 P) (.node (o85_8 P) (.node (o149_14 P) .nil .nil) .nil) (.node (o117_14 P) .nil .nil))) (.node (o29_15 P) (.node (o45_3 P) (.node (o77_7 P) (.node (o141_14 P) .nil .nil) .nil) (.node (o109_13 P) .nil .nil)) (.node (o61_4 P) (.node (o93_12 P) .nil .nil) (.node (o125_14 P) .nil .nil)))))) (.node (o2_2 P) (.node (o4s P) (.node (o8s P) (.node (o16s P) (.node (o32_2 P) (.node (o64_4 P) (.node (o128_14 P) .nil .nil) .nil) (.node (o96_12 P) .nil .nil)) (.node (o48_3 P) (.node (o80_7 P) (.node (o144_14 P) .nil .nil) .nil) (.node (o112_14 P) .nil .nil))) (.node (o24s P) (.node (o40_2 P) (.node (o72_5 P) (.node (o136_14 P) .nil .nil) .nil) (.node (o104_13 P) .nil .nil)) (.node (o56_3 P) (.node (o88_10 P) (.node (o152_15 P) .nil .nil) .nil) (.node (o120_14 P) .nil .nil)))) (.node (o12s P) (.node (o20s P) (.node (o36_2 P) (.node (o68_4 P) (.node (o132_14 P) .nil .nil) .nil) (.node (o100_12 P) .nil .nil)) (.node (o52_3 P) (.node (o84_8 P) (.node (o148_14 P) .nil .nil) .nil) (.node (o116_14 P) .nil .nil))) (.node (o28p P) (.node (o44_2 P) (.node (o76_7 P) (.node (o140_14 P) .nil .nil) .nil) (.node (o108_13 P) .nil .nil)) (.node (o60_4 P) (.node (o92_10 P) (.node (o156_15 P) .nil .nil) .nil) (.node (o124_14 P) .nil .nil))))) (.node (o6s P) (.node (o10s P) (.node (o18s P) (.node (o34_2 P) (.node (o66_4 P) (.node (o130_14 P) .nil .nil) .nil) (.node (o98_12 P) .nil .nil)) (.node (o50_3 P) (.node (o82_8 P) (.node (o146_14 P) .nil .nil) .nil) (.node (o114_14 P) .nil .nil))) (.node (o26s P) (.node (o42_2 P) (.node (o74_5 P) (.node (o138_14 P) .nil .nil) .nil) (.node (o106_13 P) .nil .nil)) (.node (o58_4 P) (.node (o90_10 P) (.node (o154_15 P) .nil .nil) .nil) (.node (o122_14 P) .nil .nil)))) (.node (o14s P) (.node (o22s P) (.node (o38_2 P) (.node (o70_5 P) (.node (o134_14 P) .nil .nil) .nil) (.node (o102_12 P) .nil .nil)) (.node (o54_3 P) (.node (o86_10 P) (.node (o150_15 P) .nil .nil) .nil) (.node (o118_14 P) .nil .nil))) (.node (o30p P) (.node (o46_3 P) (.node (o78_7 P) (.node (o142_14 P) .nil .nil) .nil) (.node (o110_13 P) .nil .nil)) (.node (o62_4 P) (.node (o94_12 P) .nil .nil) (.node (o126_14 P) .nil .nil)))))))
-- toks 2448 objs 157 steps 9 pos { line := 42, col := 0, endLine := 42, endCol := 8 }
noncomputable def o3_17 (P : Params) : Obj := ⟨(.type "dict"), none, (.dict #[E P "__name__" 165 (.str "law_tr0051_01" 2446), E P "__doc__" 166 .none, E P "__package__" 167 .none, E P "__loader__" 168 (.builtin "__main__.__loader__#opaque"), E P "__spec__" 169 .none, E P "__annotations__" 170 (.ref 6), E P "__builtins__" 171 (.ref 4), E P "__file__" 173 (.str "/claim/cut.py" 172), E P "__cached__" 174 .none, E P "_sre" 275 (.ref 12), E P "Error" 303 (.ref 41), E P "error_reply" 319 (.ref 54), E P "error_proto" 335 (.ref 66), E P "parse229" 348 (.ref 75), E P "_twin_re_1" 366 (.ref 80), E P "_twin_re_2" 408 (.ref 85), E P "CRLF" 410 (.str ⟨#[13, 10]⟩ 409), E P "quotedata" 417 (.ref 92), E P "b1_set" 479 (.ref 100), E P "in_table_b1" 486 (.ref 110), E P "b3_exceptions" 2437 (.ref 111), E P "map_table_b3" 2445 (.ref 156), E P "_law_unseen" 2455 (.ref 163)] 23), #[]⟩
noncomputable def o29_17 (P : Params) : Obj := ⟨.none, none, (.fields #[(.int 3 0), (.int 0 0), (.ref 37), (.int 5 0), (.int 0 0), (.ref 50), (.int 7 0), (.int 0 0), (.ref 62), (.int 9 0), (.int 0 0), (.ref 74), (.int 30 0), (.int 0 0), (.ref 91), (.int 34 0), (.int 0 0), (.ref 109), (.int 37 0), (.int 0 0), (.ref 155), (.int 43 0), (.int 0 0), (.ref 162)]), #[]⟩
noncomputable def o157_17 (P : Params) : Obj := ⟨(.type "tuple"), none, (.seq #[] 0), #[]⟩
noncomputable def o158_17 (P : Params) : Obj := ⟨.none, none, (.fields #[]), #[]⟩
noncomputable def o159_17 (P : Params) : Obj := ⟨(.type "tuple"), none, (.seq #[(.str "k" 2451), (.str "codes" 2452)] 0), #[]⟩
noncomputable def o160_17 (P : Params) : Obj := ⟨(.type "tuple"), none, (.seq #[] 0), #[]⟩
noncomputable def o161_17 (P : Params) : Obj := ⟨.none, none, (.func (fnAt 17 0 .none .none .none .none none .none .none 0)), #[]⟩
noncomputable def o162_17 (P : Params) : Obj := ⟨(.type "code"), none, (.fields #[(.str "_law_unseen" 2448), (.str "_law_unseen" 2449), (.str "/claim/cut.py" 2450), (.int 43 0), (.int 1 0), (.int 0 0), (.int 0 0), (.int 3 0), (.ref 157), (.bool true), (.int 276 0), (.ref 158), .none, (.ref 159), (.ref 160), (.ref 161), (.int 2453 0), (.int 43 0), (.str "/claim/cut.py" 2454)]), #[]⟩
noncomputable def o163_17 (P : Params) : Obj := ⟨(.type "function"), none, (.func (fnAt 17 3 .none .none .none (.str "law_tr0051_01" 2446) none (.ref 162) .none 0)), #[]⟩
noncomputable def T_17 (P : Params) : BT := (.node (o0s P) (.node (o1s P) (.node (o3_17 P) (.node (o7s P) (.node (o15s P) (.node (o31p P) (.node (o63_4 P) (.node (o127_14 P) .nil .nil) .nil) (.node (o95_12 P) (.node (o159_17 P) .nil .nil) .nil)) (.node (o47_3 P) (.node (o79_7 P) (.node (o143_14 P) .nil .nil) .nil) (.node (o111_14 P) .nil .nil))) (.node (o23s P) (.node (o39_2 P) (.node (o71_5 P) (.node (o135_14 P) .nil .nil) .nil) (.node (o103_12 P) .nil .nil)) (.node (o55_3 P) (.node (o87_10 P) (.node (o151_15 P) .nil .nil) .nil) (.node (o119_14 P) .nil .nil)))) (.node (o11s P) (.node (o19s P) (.node (o35_2 P) (.node (o67_4 P) (.node (o131_14 P) .nil .nil) .nil) (.node (o99_12 P) (.node (o163_17 P) .nil .nil) .nil)) (.node (o51_3 P) (.node (o83_8 P) (.node (o147_14 P) .nil .nil) .nil) (.node (o115_14 P) .nil .nil))) (.node (o27s P) (.node (o43_2 P) (.node (o75_5 P) (.node (o139_14 P) .nil .nil) .nil) (.node (o107_13 P) .nil .nil)) (.node (o59_4 P) (.node (o91_10 P) (.node (o155_15 P) .nil .nil) .nil) (.node (o123_14 P) .nil .nil))))) (.node (o5s P) (.node (o9s P) (.node (o17s P) (.node (o33_2 P) (.node (o65_4 P) (.node (o129_14 P) .nil .nil) .nil) (.node (o97_12 P) (.node (o161_17 P) .nil .nil) .nil)) (.node (o49_3 P) (.node (o81_8 P) (.node (o145_14 P) .nil .nil) .nil) (.node (o113_14 P) .nil .nil))) (.node (o25s P) (.node (o41_4 P) (.node (o73_5 P) (.node (o137_14 P) .nil .nil) .nil) (.node (o105_13 P) .nil .nil)) (.node (o57_4 P) (.node (o89_10 P) (.node (o153_15 P) .nil .nil) .nil) (.node (o121_14 P) .nil .nil)))) (.node (o13s P) (.node (o21s P) (.node (o37_2 P) (.node (o69_5 P) (.node (o133_14 P) .nil .nil) .nil) (.node (o101_12 P) .nil .nil)) (.node (o53_3 P) (.node (o85_8 P) (.node (o149_14 P) .nil .nil) .nil) (.node (o117_14 P) .nil .nil))) (.node (o29_17 P) (.node (o45_3 P) (.node (o77_7 P) (.node (o141_14 P) .nil .nil) .nil) (.node (o109_13 P) .nil .nil)) (.node (o61_4 P) (.node (o93_12 P) (.node (o157_17 P) .nil .nil) .nil) (.node (o125_14 P) .nil .nil)))))) (.node (o2_2 P) (.node (o4s P) (.node (o8s P) (.node (o16s P) (.node (o32_2 P) (.node (o64_4 P) (.node (o128_14 P) .nil .nil) .nil) (.node (o96_12 P) (.node (o160_17 P) .nil .nil) .nil)) (.node (o48_3 P) (.node (o80_7 P) (.node (o144_14 P) .nil .nil) .nil) (.node (o112_14 P) .nil .nil))) (.node (o24s P) (.node (o40_2 P) (.node (o72_5 P) (.node (o136_14 P) .nil .nil) .nil) (.node (o104_13 P) .nil .nil)) (.node (o56_3 P) (.node (o88_10 P) (.node (o152_15 P) .nil .nil) .nil) (.node (o120_14 P) .nil .nil)))) (.node (o12s P) (.node (o20s P) (.node (o36_2 P) (.node (o68_4 P) (.node (o132_14 P) .nil .nil) .nil) (.node (o100_12 P) .nil .nil)) (.node (o52_3 P) (.node (o84_8 P) (.node (o148_14 P) .nil .nil) .nil) (.node (o116_14 P) .nil .nil))) (.node (o28p P) (.node (o44_2 P) (.node (o76_7 P) (.node (o140_14 P) .nil .nil) .nil) (.node (o108_13 P) .nil .nil)) (.node (o60_4 P) (.node (o92_10 P) (.node (o156_15 P) .nil .nil) .nil) (.node (o124_14 P) .nil .nil))))) (.node (o6s P) (.node (o10s P) (.node (o18s P) (.node (o34_2 P) (.node (o66_4 P) (.node (o130_14 P) .nil .nil) .nil) (.node (o98_12 P) (.node (o162_17 P) .nil .nil) .nil)) (.node (o50_3 P) (.node (o82_8 P) (.node (o146_14 P) .nil .nil) .nil) (.node (o114_14 P) .nil .nil))) (.node (o26s P) (.node (o42_2 P) (.node (o74_5 P) (.node (o138_14 P) .nil .nil) .nil) (.node (o106_13 P) .nil .nil)) (.node (o58_4 P) (.node (o90_10 P) (.node (o154_15 P) .nil .nil) .nil) (.node (o122_14 P) .nil .nil)))) (.node (o14s P) (.node (o22s P) (.node (o38_2 P) (.node (o70_5 P) (.node (o134_14 P) .nil .nil) .nil) (.node (o102_12 P) .nil .nil)) (.node (o54_3 P) (.node (o86_10 P) (.node (o150_15 P) .nil .nil) .nil) (.node (o118_14 P) .nil .nil))) (.node (o30p P) (.node (o46_3 P) (.node (o78_7 P) (.node (o142_14 P) .nil .nil) .nil) (.node (o110_13 P) .nil .nil)) (.node (o62_4 P) (.node (o94_12 P) (.node (o158_17 P) .nil .nil) .nil) (.node (o126_14 P) .nil .nil)))))))
-- toks 2456 objs 164 steps 30 pos { line := 43, col := 0, endLine := 45, endCol := 75 }
noncomputable def o3_18 (P : Params) : Obj := ⟨(.type "dict"), none, (.dict #[E P "__name__" 165 (.str "law_tr0051_01" 2446), E P "__doc__" 166 .none, E P "__package__" 167 .none, E P "__loader__" 168 (.builtin "__main__.__loader__#opaque"), E P "__spec__" 169 .none, E P "__annotations__" 170 (.ref 6), E P "__builtins__" 171 (.ref 4), E P "__file__" 173 (.str "/claim/cut.py" 172), E P "__cached__" 174 .none, E P "_sre" 275 (.ref 12), E P "Error" 303 (.ref 41), E P "error_reply" 319 (.ref 54), E P "error_proto" 335 (.ref 66), E P "parse229" 348 (.ref 75), E P "_twin_re_1" 366 (.ref 80), E P "_twin_re_2" 408 (.ref 85), E P "CRLF" 410 (.str ⟨#[13, 10]⟩ 409), E P "quotedata" 417 (.ref 92), E P "b1_set" 479 (.ref 100), E P "in_table_b1" 486 (.ref 110), E P "b3_exceptions" 2437 (.ref 111), E P "map_table_b3" 2445 (.ref 156), E P "_law_unseen" 2455 (.ref 163), E P "_law_signs" 2461 (.ref 168)] 24), #[]⟩
noncomputable def o29_18 (P : Params) : Obj := ⟨.none, none, (.fields #[(.int 3 0), (.int 0 0), (.ref 37), (.int 5 0), (.int 0 0), (.ref 50), (.int 7 0), (.int 0 0), (.ref 62), (.int 9 0), (.int 0 0), (.ref 74), (.int 30 0), (.int 0 0), (.ref 91), (.int 34 0), (.int 0 0), (.ref 109), (.int 37 0), (.int 0 0), (.ref 155), (.int 43 0), (.int 0 0), (.ref 162), (.int 46 0), (.int 0 0), (.ref 167)]), #[]⟩
noncomputable def o164_18 (P : Params) : Obj := ⟨(.type "tuple"), none, (.seq #[] 0), #[]⟩
noncomputable def o165_18 (P : Params) : Obj := ⟨.none, none, (.fields #[]), #[]⟩
noncomputable def o166_18 (P : Params) : Obj := ⟨.none, none, (.func (fnAt 18 0 .none .none .none .none none .none .none 0)), #[]⟩
noncomputable def o167_18 (P : Params) : Obj := ⟨(.type "code"), none, (.fields #[(.str "_law_signs" 2456), (.str "_law_signs" 2457), (.str "/claim/cut.py" 2458), (.int 46 0), (.int 1 0), (.int 0 0), (.int 0 0), (.int 3 0), (.ref 164), (.bool true), (.int 276 0), (.ref 165), .none, .none, .none, (.ref 166), (.int 2459 0), (.int 46 0), (.str "/claim/cut.py" 2460)]), #[]⟩
noncomputable def o168_18 (P : Params) : Obj := ⟨(.type "function"), none, (.func (fnAt 18 3 .none .none .none (.str "law_tr0051_01" 2446) none (.ref 167) .none 0)), #[]⟩
noncomputable def T_18 (P : Params) : BT := (.node (o0s P) (.node (o1s P) (.node (o3_18 P) (.node (o7s P) (.node (o15s P) (.node (o31p P) (.node (o63_4 P) (.node (o127_14 P) .nil .nil) .nil) (.node (o95_12 P) (.node (o159_17 P) .nil .nil) .nil)) (.node (o47_3 P) (.node (o79_7 P) (.node (o143_14 P) .nil .nil) .nil) (.node (o111_14 P) .nil .nil))) (.node (o23s P) (.node (o39_2 P) (.node (o71_5 P) (.node (o135_14 P) .nil .nil) .nil) (.node (o103_12 P) (.node (o167_18 P) .nil .nil) .nil)) (.node (o55_3 P) (.node (o87_10 P) (.node (o151_15 P) .nil .nil) .nil) (.node (o119_14 P) .nil .nil)))) (.node (o11s P) (.node (o19s P) (.node (o35_2 P) (.node (o67_4 P) (.node (o131_14 P) .nil .nil) .nil) (.node (o99_12 P) (.node (o163_17 P) .nil .nil) .nil)) (.node (o51_3 P) (.node (o83_8 P) (.node (o147_14 P) .nil .nil) .nil) (.node (o115_14 P) .nil .nil))) (.node (o27s P) (.node (o43_2 P) (.node (o75_5 P) (.node (o139_14 P) .nil .nil) .nil) (.node (o107_13 P) .nil .nil)) (.node (o59_4 P) (.node (o91_10 P) (.node (o155_15 P) .nil .nil) .nil) (.node (o123_14 P) .nil .nil))))) (.node (o5s P) (.node (o9s P) (.node (o17s P) (.node (o33_2 P) (.node (o65_4 P) (.node (o129_14 P) .nil .nil) .nil) (.node (o97_12 P) (.node (o161_17 P) .nil .nil) .nil)) (.node (o49_3 P) (.node (o81_8 P) (.node (o145_14 P) .nil .nil) .nil) (.node (o113_14 P) .nil .nil))) (.node (o25s P) (.node (o41_4 P) (.node (o73_5 P) (.node (o137_14 P) .nil .nil) .nil) (.node (o105_13 P) .nil .nil)) (.node (o57_4 P) (.node (o89_10 P) (.node (o153_15 P) .nil .nil) .nil) (.node (o121_14 P) .nil .nil)))) (.node (o13s P) (.node (o21s P) (.node (o37_2 P) (.node (o69_5 P) (.node (o133_14 P) .nil .nil) .nil) (.node (o101_12 P) (.node (o165_18 P) .nil .nil) .nil)) (.node (o53_3 P) (.node (o85_8 P) (.node (o149_14 P) .nil .nil) .nil) (.node (o117_14 P) .nil .nil))) (.node (o29_18 P) (.node (o45_3 P) (.node (o77_7 P) (.node (o141_14 P) .nil .nil) .nil) (.node (o109_13 P) .nil .nil)) (.node (o61_4 P) (.node (o93_12 P) (.node (o157_17 P) .nil .nil) .nil) (.node (o125_14 P) .nil .nil)))))) (.node (o2_2 P) (.node (o4s P) (.node (o8s P) (.node (o16s P) (.node (o32_2 P) (.node (o64_4 P) (.node (o128_14 P) .nil .nil) .nil) (.node (o96_12 P) (.node (o160_17 P) .nil .nil) .nil)) (.node (o48_3 P) (.node (o80_7 P) (.node (o144_14 P) .nil .nil) .nil) (.node (o112_14 P) .nil .nil))) (.node (o24s P) (.node (o40_2 P) (.node (o72_5 P) (.node (o136_14 P) .nil .nil) .nil) (.node (o104_13 P) (.node (o168_18 P) .nil .nil) .nil)) (.node (o56_3 P) (.node (o88_10 P) (.node (o152_15 P) .nil .nil) .nil) (.node (o120_14 P) .nil .nil)))) (.node (o12s P) (.node (o20s P) (.node (o36_2 P) (.node (o68_4 P) (.node (o132_14 P) .nil .nil) .nil) (.node (o100_12 P) (.node (o164_18 P) .nil .nil) .nil)) (.node (o52_3 P) (.node (o84_8 P) (.node (o148_14 P) .nil .nil) .nil) (.node (o116_14 P) .nil .nil))) (.node (o28p P) (.node (o44_2 P) (.node (o76_7 P) (.node (o140_14 P) .nil .nil) .nil) (.node (o108_13 P) .nil .nil)) (.node (o60_4 P) (.node (o92_10 P) (.node (o156_15 P) .nil .nil) .nil) (.node (o124_14 P) .nil .nil))))) (.node (o6s P) (.node (o10s P) (.node (o18s P) (.node (o34_2 P) (.node (o66_4 P) (.node (o130_14 P) .nil .nil) .nil) (.node (o98_12 P) (.node (o162_17 P) .nil .nil) .nil)) (.node (o50_3 P) (.node (o82_8 P) (.node (o146_14 P) .nil .nil) .nil) (.node (o114_14 P) .nil .nil))) (.node (o26s P) (.node (o42_2 P) (.node (o74_5 P) (.node (o138_14 P) .nil .nil) .nil) (.node (o106_13 P) .nil .nil)) (.node (o58_4 P) (.node (o90_10 P) (.node (o154_15 P) .nil .nil) .nil) (.node (o122_14 P) .nil .nil)))) (.node (o14s P) (.node (o22s P) (.node (o38_2 P) (.node (o70_5 P) (.node (o134_14 P) .nil .nil) .nil) (.node (o102_12 P) (.node (o166_18 P) .nil .nil) .nil)) (.node (o54_3 P) (.node (o86_10 P) (.node (o150_15 P) .nil .nil) .nil) (.node (o118_14 P) .nil .nil))) (.node (o30p P) (.node (o46_3 P) (.node (o78_7 P) (.node (o142_14 P) .nil .nil) .nil) (.node (o110_13 P) .nil .nil)) (.node (o62_4 P) (.node (o94_12 P) (.node (o158_17 P) .nil .nil) .nil) (.node (o126_14 P) .nil .nil)))))))
-- toks 2462 objs 169 steps 26 pos { line := 46, col := 0, endLine := 68, endCol := 16 }
noncomputable def o3_19 (P : Params) : Obj := ⟨(.type "dict"), none, (.dict #[E P "__name__" 165 (.str "law_tr0051_01" 2446), E P "__doc__" 166 .none, E P "__package__" 167 .none, E P "__loader__" 168 (.builtin "__main__.__loader__#opaque"), E P "__spec__" 169 .none, E P "__annotations__" 170 (.ref 6), E P "__builtins__" 171 (.ref 4), E P "__file__" 173 (.str "/claim/cut.py" 172), E P "__cached__" 174 .none, E P "_sre" 275 (.ref 12), E P "Error" 303 (.ref 41), E P "error_reply" 319 (.ref 54), E P "error_proto" 335 (.ref 66), E P "parse229" 348 (.ref 75), E P "_twin_re_1" 366 (.ref 80), E P "_twin_re_2" 408 (.ref 85), E P "CRLF" 410 (.str ⟨#[13, 10]⟩ 409), E P "quotedata" 417 (.ref 92), E P "b1_set" 479 (.ref 100), E P "in_table_b1" 486 (.ref 110), E P "b3_exceptions" 2437 (.ref 111), E P "map_table_b3" 2445 (.ref 156), E P "_law_unseen" 2455 (.ref 163), E P "_law_signs" 2461 (.ref 168), E P "_law_told" 2477 (.ref 175)] 25), #[]⟩
noncomputable def o29_19 (P : Params) : Obj := ⟨.none, none, (.fields #[(.int 3 0), (.int 0 0), (.ref 37), (.int 5 0), (.int 0 0), (.ref 50), (.int 7 0), (.int 0 0), (.ref 62), (.int 9 0), (.int 0 0), (.ref 74), (.int 30 0), (.int 0 0), (.ref 91), (.int 34 0), (.int 0 0), (.ref 109), (.int 37 0), (.int 0 0), (.ref 155), (.int 43 0), (.int 0 0), (.ref 162), (.int 46 0), (.int 0 0), (.ref 167), (.int 69 0), (.int 0 0), (.ref 174)]), #[]⟩
noncomputable def o169_19 (P : Params) : Obj := ⟨(.type "tuple"), none, (.seq #[] 0), #[]⟩
noncomputable def o170_19 (P : Params) : Obj := ⟨.none, none, (.fields #[]), #[]⟩
noncomputable def o171_19 (P : Params) : Obj := ⟨(.type "tuple"), none, (.seq #[(.str "signs" 2465), (.str "sent" 2466), (.str "seen" 2467), (.str "prepared" 2468), (.str "told" 2469), (.str "ahead" 2470), (.str "kind" 2471), (.str "sign" 2472), (.str "fold" 2473), (.str "behind_end" 2474)] 0), #[]⟩
noncomputable def o172_19 (P : Params) : Obj := ⟨(.type "tuple"), none, (.seq #[] 0), #[]⟩
noncomputable def o173_19 (P : Params) : Obj := ⟨.none, none, (.func (fnAt 19 0 .none .none .none .none none .none .none 0)), #[]⟩
noncomputable def o174_19 (P : Params) : Obj := ⟨(.type "code"), none, (.fields #[(.str "_law_told" 2462), (.str "_law_told" 2463), (.str "/claim/cut.py" 2464), (.int 69 0), (.int 4 0), (.int 0 0), (.int 0 0), (.int 3 0), (.ref 169), (.bool true), (.int 276 0), (.ref 170), .none, (.ref 171), (.ref 172), (.ref 173), (.int 2475 0), (.int 69 0), (.str "/claim/cut.py" 2476)]), #[]⟩
noncomputable def o175_19 (P : Params) : Obj := ⟨(.type "function"), none, (.func (fnAt 19 3 .none .none .none (.str "law_tr0051_01" 2446) none (.ref 174) .none 0)), #[]⟩
noncomputable def T_19 (P : Params) : BT := (.node (o0s P) (.node (o1s P) (.node (o3_19 P) (.node (o7s P) (.node (o15s P) (.node (o31p P) (.node (o63_4 P) (.node (o127_14 P) .nil .nil) .nil) (.node (o95_12 P) (.node (o159_17 P) .nil .nil) .nil)) (.node (o47_3 P) (.node (o79_7 P) (.node (o143_14 P) .nil .nil) .nil) (.node (o111_14 P) (.node (o175_19 P) .nil .nil) .nil))) (.node (o23s P) (.node (o39_2 P) (.node (o71_5 P) (.node (o135_14 P) .nil .nil) .nil) (.node (o103_12 P) (.node (o167_18 P) .nil .nil) .nil)) (.node (o55_3 P) (.node (o87_10 P) (.node (o151_15 P) .nil .nil) .nil) (.node (o119_14 P) .nil .nil)))) (.node (o11s P) (.node (o19s P) (.node (o35_2 P) (.node (o67_4 P) (.node (o131_14 P) .nil .nil) .nil) (.node (o99_12 P) (.node (o163_17 P) .nil .nil) .nil)) (.node (o51_3 P) (.node (o83_8 P) (.node (o147_14 P) .nil .nil) .nil) (.node (o115_14 P) .nil .nil))) (.node (o27s P) (.node (o43_2 P) (.node (o75_5 P) (.node (o139_14 P) .nil .nil) .nil) (.node (o107_13 P) (.node (o171_19 P) .nil .nil) .nil)) (.node (o59_4 P) (.node (o91_10 P) (.node (o155_15 P) .nil .nil) .nil) (.node (o123_14 P) .nil .nil))))) (.node (o5s P) (.node (o9s P) (.node (o17s P) (.node (o33_2 P) (.node (o65_4 P) (.node (o129_14 P) .nil .nil) .nil) (.node (o97_12 P) (.node (o161_17 P) .nil .nil) .nil)) (.node (o49_3 P) (.node (o81_8 P) (.node (o145_14 P) .nil .nil) .nil) (.node (o113_14 P) .nil .nil))) (.node (o25s P) (.node (o41_4 P) (.node (o73_5 P) (.node (o137_14 P) .nil .nil) .nil) (.node (o105_13 P) (.node (o169_19 P) .nil .nil) .nil)) (.node (o57_4 P) (.node (o89_10 P) (.node (o153_15 P) .nil .nil) .nil) (.node (o121_14 P) .nil .nil)))) (.node (o13s P) (.node (o21s P) (.node (o37_2 P) (.node (o69_5 P) (.node (o133_14 P) .nil .nil) .nil) (.node (o101_12 P) (.node (o165_18 P) .nil .nil) .nil)) (.node (o53_3 P) (.node (o85_8 P) (.node (o149_14 P) .nil .nil) .nil) (.node (o117_14 P) .nil .nil))) (.node (o29_19 P) (.node (o45_3 P) (.node (o77_7 P) (.node (o141_14 P) .nil .nil) .nil) (.node (o109_13 P) (.node (o173_19 P) .nil .nil) .nil)) (.node (o61_4 P) (.node (o93_12 P) (.node (o157_17 P) .nil .nil) .nil) (.node (o125_14 P) .nil .nil)))))) (.node (o2_2 P) (.node (o4s P) (.node (o8s P) (.node (o16s P) (.node (o32_2 P) (.node (o64_4 P) (.node (o128_14 P) .nil .nil) .nil) (.node (o96_12 P) (.node (o160_17 P) .nil .nil) .nil)) (.node (o48_3 P) (.node (o80_7 P) (.node (o144_14 P) .nil .nil) .nil) (.node (o112_14 P) .nil .nil))) (.node (o24s P) (.node (o40_2 P) (.node (o72_5 P) (.node (o136_14 P) .nil .nil) .nil) (.node (o104_13 P) (.node (o168_18 P) .nil .nil) .nil)) (.node (o56_3 P) (.node (o88_10 P) (.node (o152_15 P) .nil .nil) .nil) (.node (o120_14 P) .nil .nil)))) (.node (o12s P) (.node (o20s P) (.node (o36_2 P) (.node (o68_4 P) (.node (o132_14 P) .nil .nil) .nil) (.node (o100_12 P) (.node (o164_18 P) .nil .nil) .nil)) (.node (o52_3 P) (.node (o84_8 P) (.node (o148_14 P) .nil .nil) .nil) (.node (o116_14 P) .nil .nil))) (.node (o28p P) (.node (o44_2 P) (.node (o76_7 P) (.node (o140_14 P) .nil .nil) .nil) (.node (o108_13 P) (.node (o172_19 P) .nil .nil) .nil)) (.node (o60_4 P) (.node (o92_10 P) (.node (o156_15 P) .nil .nil) .nil) (.node (o124_14 P) .nil .nil))))) (.node (o6s P) (.node (o10s P) (.node (o18s P) (.node (o34_2 P) (.node (o66_4 P) (.node (o130_14 P) .nil .nil) .nil) (.node (o98_12 P) (.node (o162_17 P) .nil .nil) .nil)) (.node (o50_3 P) (.node (o82_8 P) (.node (o146_14 P) .nil .nil) .nil) (.node (o114_14 P) .nil .nil))) (.node (o26s P) (.node (o42_2 P) (.node (o74_5 P) (.node (o138_14 P) .nil .nil) .nil) (.node (o106_13 P) (.node (o170_19 P) .nil .nil) .nil)) (.node (o58_4 P) (.node (o90_10 P) (.node (o154_15 P) .nil .nil) .nil) (.node (o122_14 P) .nil .nil)))) (.node (o14s P) (.node (o22s P) (.node (o38_2 P) (.node (o70_5 P) (.node (o134_14 P) .nil .nil) .nil) (.node (o102_12 P) (.node (o166_18 P) .nil .nil) .nil)) (.node (o54_3 P) (.node (o86_10 P) (.node (o150_15 P) .nil .nil) .nil) (.node (o118_14 P) .nil .nil))) (.node (o30p P) (.node (o46_3 P) (.node (o78_7 P) (.node (o142_14 P) .nil .nil) .nil) (.node (o110_13 P) (.node (o174_19 P) .nil .nil) .nil)) (.node (o62_4 P) (.node (o94_12 P) (.node (o158_17 P) .nil .nil) .nil) (.node (o126_14 P) .nil .nil)))))))
-- toks 2478 objs 176 steps 38 pos { line := 69, col := 0, endLine := 87, endCol := 15 }
noncomputable def o3_20 (P : Params) : Obj := ⟨(.type "dict"), none, (.dict #[E P "__name__" 165 (.str "law_tr0051_01" 2446), E P "__doc__" 166 .none, E P "__package__" 167 .none, E P "__loader__" 168 (.builtin "__main__.__loader__#opaque"), E P "__spec__" 169 .none, E P "__annotations__" 170 (.ref 6), E P "__builtins__" 171 (.ref 4), E P "__file__" 173 (.str "/claim/cut.py" 172), E P "__cached__" 174 .none, E P "_sre" 275 (.ref 12), E P "Error" 303 (.ref 41), E P "error_reply" 319 (.ref 54), E P "error_proto" 335 (.ref 66), E P "parse229" 348 (.ref 75), E P "_twin_re_1" 366 (.ref 80), E P "_twin_re_2" 408 (.ref 85), E P "CRLF" 410 (.str ⟨#[13, 10]⟩ 409), E P "quotedata" 417 (.ref 92), E P "b1_set" 479 (.ref 100), E P "in_table_b1" 486 (.ref 110), E P "b3_exceptions" 2437 (.ref 111), E P "map_table_b3" 2445 (.ref 156), E P "_law_unseen" 2455 (.ref 163), E P "_law_signs" 2461 (.ref 168), E P "_law_told" 2477 (.ref 175), E P "_law_due" 2483 (.ref 180)] 26), #[]⟩
noncomputable def o29_20 (P : Params) : Obj := ⟨.none, none, (.fields #[(.int 3 0), (.int 0 0), (.ref 37), (.int 5 0), (.int 0 0), (.ref 50), (.int 7 0), (.int 0 0), (.ref 62), (.int 9 0), (.int 0 0), (.ref 74), (.int 30 0), (.int 0 0), (.ref 91), (.int 34 0), (.int 0 0), (.ref 109), (.int 37 0), (.int 0 0), (.ref 155), (.int 43 0), (.int 0 0), (.ref 162), (.int 46 0), (.int 0 0), (.ref 167), (.int 69 0), (.int 0 0), (.ref 174), (.int 88 0), (.int 0 0), (.ref 179)]), #[]⟩
noncomputable def o176_20 (P : Params) : Obj := ⟨(.type "tuple"), none, (.seq #[] 0), #[]⟩
noncomputable def o177_20 (P : Params) : Obj := ⟨.none, none, (.fields #[]), #[]⟩
noncomputable def o178_20 (P : Params) : Obj := ⟨.none, none, (.func (fnAt 20 0 .none .none .none .none none .none .none 0)), #[]⟩
noncomputable def o179_20 (P : Params) : Obj := ⟨(.type "code"), none, (.fields #[(.str "_law_due" 2478), (.str "_law_due" 2479), (.str "/claim/cut.py" 2480), (.int 88 0), (.int 1 0), (.int 0 0), (.int 0 0), (.int 3 0), (.ref 176), (.bool true), (.int 276 0), (.ref 177), .none, .none, .none, (.ref 178), (.int 2481 0), (.int 88 0), (.str "/claim/cut.py" 2482)]), #[]⟩
noncomputable def o180_20 (P : Params) : Obj := ⟨(.type "function"), none, (.func (fnAt 20 3 .none .none .none (.str "law_tr0051_01" 2446) none (.ref 179) .none 0)), #[]⟩
noncomputable def T_20 (P : Params) : BT := (.node (o0s P) (.node (o1s P) (.node (o3_20 P) (.node (o7s P) (.node (o15s P) (.node (o31p P) (.node (o63_4 P) (.node (o127_14 P) .nil .nil) .nil) (.node (o95_12 P) (.node (o159_17 P) .nil .nil) .nil)) (.node (o47_3 P) (.node (o79_7 P) (.node (o143_14 P) .nil .nil) .nil) (.node (o111_14 P) (.node (o175_19 P) .nil .nil) .nil))) (.node (o23s P) (.node (o39_2 P) (.node (o71_5 P) (.node (o135_14 P) .nil .nil) .nil) (.node (o103_12 P) (.node (o167_18 P) .nil .nil) .nil)) (.node (o55_3 P) (.node (o87_10 P) (.node (o151_15 P) .nil .nil) .nil) (.node (o119_14 P) .nil .nil)))) (.node (o11s P) (.node (o19s P) (.node (o35_2 P) (.node (o67_4 P) (.node (o131_14 P) .nil .nil) .nil) (.node (o99_12 P) (.node (o163_17 P) .nil .nil) .nil)) (.node (o51_3 P) (.node (o83_8 P) (.node (o147_14 P) .nil .nil) .nil) (.node (o115_14 P) (.node (o179_20 P) .nil .nil) .nil))) (.node (o27s P) (.node (o43_2 P) (.node (o75_5 P) (.node (o139_14 P) .nil .nil) .nil) (.node (o107_13 P) (.node (o171_19 P) .nil .nil) .nil)) (.node (o59_4 P) (.node (o91_10 P) (.node (o155_15 P) .nil .nil) .nil) (.node (o123_14 P) .nil .nil))))) (.node (o5s P) (.node (o9s P) (.node (o17s P) (.node (o33_2 P) (.node (o65_4 P) (.node (o129_14 P) .nil .nil) .nil) (.node (o97_12 P) (.node (o161_17 P) .nil .nil) .nil)) (.node (o49_3 P) (.node (o81_8 P) (.node (o145_14 P) .nil .nil) .nil) (.node (o113_14 P) (.node (o177_20 P) .nil .nil) .nil))) (.node (o25s P) (.node (o41_4 P) (.node (o73_5 P) (.node (o137_14 P) .nil .nil) .nil) (.node (o105_13 P) (.node (o169_19 P) .nil .nil) .nil)) (.node (o57_4 P) (.node (o89_10 P) (.node (o153_15 P) .nil .nil) .nil) (.node (o121_14 P) .nil .nil)))) (.node (o13s P) (.node (o21s P) (.node (o37_2 P) (.node (o69_5 P) (.node (o133_14 P) .nil .nil) .nil) (.node (o101_12 P) (.node (o165_18 P) .nil .nil) .nil)) (.node (o53_3 P) (.node (o85_8 P) (.node (o149_14 P) .nil .nil) .nil) (.node (o117_14 P) .nil .nil))) (.node (o29_20 P) (.node (o45_3 P) (.node (o77_7 P) (.node (o141_14 P) .nil .nil) .nil) (.node (o109_13 P) (.node (o173_19 P) .nil .nil) .nil)) (.node (o61_4 P) (.node (o93_12 P) (.node (o157_17 P) .nil .nil) .nil) (.node (o125_14 P) .nil .nil)))))) (.node (o2_2 P) (.node (o4s P) (.node (o8s P) (.node (o16s P) (.node (o32_2 P) (.node (o64_4 P) (.node (o128_14 P) .nil .nil) .nil) (.node (o96_12 P) (.node (o160_17 P) .nil .nil) .nil)) (.node (o48_3 P) (.node (o80_7 P) (.node (o144_14 P) .nil .nil) .nil) (.node (o112_14 P) (.node (o176_20 P) .nil .nil) .nil))) (.node (o24s P) (.node (o40_2 P) (.node (o72_5 P) (.node (o136_14 P) .nil .nil) .nil) (.node (o104_13 P) (.node (o168_18 P) .nil .nil) .nil)) (.node (o56_3 P) (.node (o88_10 P) (.node (o152_15 P) .nil .nil) .nil) (.node (o120_14 P) .nil .nil)))) (.node (o12s P) (.node (o20s P) (.node (o36_2 P) (.node (o68_4 P) (.node (o132_14 P) .nil .nil) .nil) (.node (o100_12 P) (.node (o164_18 P) .nil .nil) .nil)) (.node (o52_3 P) (.node (o84_8 P) (.node (o148_14 P) .nil .nil) .nil) (.node (o116_14 P) (.node (o180_20 P) .nil .nil) .nil))) (.node (o28p P) (.node (o44_2 P) (.node (o76_7 P) (.node (o140_14 P) .nil .nil) .nil) (.node (o108_13 P) (.node (o172_19 P) .nil .nil) .nil)) (.node (o60_4 P) (.node (o92_10 P) (.node (o156_15 P) .nil .nil) .nil) (.node (o124_14 P) .nil .nil))))) (.node (o6s P) (.node (o10s P) (.node (o18s P) (.node (o34_2 P) (.node (o66_4 P) (.node (o130_14 P) .nil .nil) .nil) (.node (o98_12 P) (.node (o162_17 P) .nil .nil) .nil)) (.node (o50_3 P) (.node (o82_8 P) (.node (o146_14 P) .nil .nil) .nil) (.node (o114_14 P) (.node (o178_20 P) .nil .nil) .nil))) (.node (o26s P) (.node (o42_2 P) (.node (o74_5 P) (.node (o138_14 P) .nil .nil) .nil) (.node (o106_13 P) (.node (o170_19 P) .nil .nil) .nil)) (.node (o58_4 P) (.node (o90_10 P) (.node (o154_15 P) .nil .nil) .nil) (.node (o122_14 P) .nil .nil)))) (.node (o14s P) (.node (o22s P) (.node (o38_2 P) (.node (o70_5 P) (.node (o134_14 P) .nil .nil) .nil) (.node (o102_12 P) (.node (o166_18 P) .nil .nil) .nil)) (.node (o54_3 P) (.node (o86_10 P) (.node (o150_15 P) .nil .nil) .nil) (.node (o118_14 P) .nil .nil))) (.node (o30p P) (.node (o46_3 P) (.node (o78_7 P) (.node (o142_14 P) .nil .nil) .nil) (.node (o110_13 P) (.node (o174_19 P) .nil .nil) .nil)) (.node (o62_4 P) (.node (o94_12 P) (.node (o158_17 P) .nil .nil) .nil) (.node (o126_14 P) .nil .nil)))))))
-- toks 2484 objs 181 steps 26 pos { line := 88, col := 0, endLine := 98, endCol := 29 }
noncomputable def o3_21 (P : Params) : Obj := ⟨(.type "dict"), none, (.dict #[E P "__name__" 165 (.str "law_tr0051_01" 2446), E P "__doc__" 166 .none, E P "__package__" 167 .none, E P "__loader__" 168 (.builtin "__main__.__loader__#opaque"), E P "__spec__" 169 .none, E P "__annotations__" 170 (.ref 6), E P "__builtins__" 171 (.ref 4), E P "__file__" 173 (.str "/claim/cut.py" 172), E P "__cached__" 174 .none, E P "_sre" 275 (.ref 12), E P "Error" 303 (.ref 41), E P "error_reply" 319 (.ref 54), E P "error_proto" 335 (.ref 66), E P "parse229" 348 (.ref 75), E P "_twin_re_1" 366 (.ref 80), E P "_twin_re_2" 408 (.ref 85), E P "CRLF" 410 (.str ⟨#[13, 10]⟩ 409), E P "quotedata" 417 (.ref 92), E P "b1_set" 479 (.ref 100), E P "in_table_b1" 486 (.ref 110), E P "b3_exceptions" 2437 (.ref 111), E P "map_table_b3" 2445 (.ref 156), E P "_law_unseen" 2455 (.ref 163), E P "_law_signs" 2461 (.ref 168), E P "_law_told" 2477 (.ref 175), E P "_law_due" 2483 (.ref 180), E P "_law_asked" 2491 (.ref 187)] 27), #[]⟩
noncomputable def o29_21 (P : Params) : Obj := ⟨.none, none, (.fields #[(.int 3 0), (.int 0 0), (.ref 37), (.int 5 0), (.int 0 0), (.ref 50), (.int 7 0), (.int 0 0), (.ref 62), (.int 9 0), (.int 0 0), (.ref 74), (.int 30 0), (.int 0 0), (.ref 91), (.int 34 0), (.int 0 0), (.ref 109), (.int 37 0), (.int 0 0), (.ref 155), (.int 43 0), (.int 0 0), (.ref 162), (.int 46 0), (.int 0 0), (.ref 167), (.int 69 0), (.int 0 0), (.ref 174), (.int 88 0), (.int 0 0), (.ref 179), (.int 99 0), (.int 0 0), (.ref 186)]), #[]⟩
noncomputable def o181_21 (P : Params) : Obj := ⟨(.type "tuple"), none, (.seq #[] 0), #[]⟩
noncomputable def o182_21 (P : Params) : Obj := ⟨.none, none, (.fields #[]), #[]⟩
noncomputable def o183_21 (P : Params) : Obj := ⟨(.type "tuple"), none, (.seq #[(.str "text" 2487), (.str "error" 2488)] 0), #[]⟩
noncomputable def o184_21 (P : Params) : Obj := ⟨(.type "tuple"), none, (.seq #[] 0), #[]⟩
noncomputable def o185_21 (P : Params) : Obj := ⟨.none, none, (.func (fnAt 21 0 .none .none .none .none none .none .none 0)), #[]⟩
noncomputable def o186_21 (P : Params) : Obj := ⟨(.type "code"), none, (.fields #[(.str "_law_asked" 2484), (.str "_law_asked" 2485), (.str "/claim/cut.py" 2486), (.int 99 0), (.int 1 0), (.int 0 0), (.int 0 0), (.int 3 0), (.ref 181), (.bool true), (.int 276 0), (.ref 182), .none, (.ref 183), (.ref 184), (.ref 185), (.int 2489 0), (.int 99 0), (.str "/claim/cut.py" 2490)]), #[]⟩
noncomputable def o187_21 (P : Params) : Obj := ⟨(.type "function"), none, (.func (fnAt 21 3 .none .none .none (.str "law_tr0051_01" 2446) none (.ref 186) .none 0)), #[]⟩
noncomputable def T_21 (P : Params) : BT := (.node (o0s P) (.node (o1s P) (.node (o3_21 P) (.node (o7s P) (.node (o15s P) (.node (o31p P) (.node (o63_4 P) (.node (o127_14 P) .nil .nil) .nil) (.node (o95_12 P) (.node (o159_17 P) .nil .nil) .nil)) (.node (o47_3 P) (.node (o79_7 P) (.node (o143_14 P) .nil .nil) .nil) (.node (o111_14 P) (.node (o175_19 P) .nil .nil) .nil))) (.node (o23s P) (.node (o39_2 P) (.node (o71_5 P) (.node (o135_14 P) .nil .nil) .nil) (.node (o103_12 P) (.node (o167_18 P) .nil .nil) .nil)) (.node (o55_3 P) (.node (o87_10 P) (.node (o151_15 P) .nil .nil) .nil) (.node (o119_14 P) (.node (o183_21 P) .nil .nil) .nil)))) (.node (o11s P) (.node (o19s P) (.node (o35_2 P) (.node (o67_4 P) (.node (o131_14 P) .nil .nil) .nil) (.node (o99_12 P) (.node (o163_17 P) .nil .nil) .nil)) (.node (o51_3 P) (.node (o83_8 P) (.node (o147_14 P) .nil .nil) .nil) (.node (o115_14 P) (.node (o179_20 P) .nil .nil) .nil))) (.node (o27s P) (.node (o43_2 P) (.node (o75_5 P) (.node (o139_14 P) .nil .nil) .nil) (.node (o107_13 P) (.node (o171_19 P) .nil .nil) .nil)) (.node (o59_4 P) (.node (o91_10 P) (.node (o155_15 P) .nil .nil) .nil) (.node (o123_14 P) (.node (o187_21 P) .nil .nil) .nil))))) (.node (o5s P) (.node (o9s P) (.node (o17s P) (.node (o33_2 P) (.node (o65_4 P) (.node (o129_14 P) .nil .nil) .nil) (.node (o97_12 P) (.node (o161_17 P) .nil .nil) .nil)) (.node (o49_3 P) (.node (o81_8 P) (.node (o145_14 P) .nil .nil) .nil) (.node (o113_14 P) (.node (o177_20 P) .nil .nil) .nil))) (.node (o25s P) (.node (o41_4 P) (.node (o73_5 P) (.node (o137_14 P) .nil .nil) .nil) (.node (o105_13 P) (.node (o169_19 P) .nil .nil) .nil)) (.node (o57_4 P) (.node (o89_10 P) (.node (o153_15 P) .nil .nil) .nil) (.node (o121_14 P) (.node (o185_21 P) .nil .nil) .nil)))) (.node (o13s P) (.node (o21s P) (.node (o37_2 P) (.node (o69_5 P) (.node (o133_14 P) .nil .nil) .nil) (.node (o101_12 P) (.node (o165_18 P) .nil .nil) .nil)) (.node (o53_3 P) (.node (o85_8 P) (.node (o149_14 P) .nil .nil) .nil) (.node (o117_14 P) (.node (o181_21 P) .nil .nil) .nil))) (.node (o29_21 P) (.node (o45_3 P) (.node (o77_7 P) (.node (o141_14 P) .nil .nil) .nil) (.node (o109_13 P) (.node (o173_19 P) .nil .nil) .nil)) (.node (o61_4 P) (.node (o93_12 P) (.node (o157_17 P) .nil .nil) .nil) (.node (o125_14 P) .nil .nil)))))) (.node (o2_2 P) (.node (o4s P) (.node (o8s P) (.node (o16s P) (.node (o32_2 P) (.node (o64_4 P) (.node (o128_14 P) .nil .nil) .nil) (.node (o96_12 P) (.node (o160_17 P) .nil .nil) .nil)) (.node (o48_3 P) (.node (o80_7 P) (.node (o144_14 P) .nil .nil) .nil) (.node (o112_14 P) (.node (o176_20 P) .nil .nil) .nil))) (.node (o24s P) (.node (o40_2 P) (.node (o72_5 P) (.node (o136_14 P) .nil .nil) .nil) (.node (o104_13 P) (.node (o168_18 P) .nil .nil) .nil)) (.node (o56_3 P) (.node (o88_10 P) (.node (o152_15 P) .nil .nil) .nil) (.node (o120_14 P) (.node (o184_21 P) .nil .nil) .nil)))) (.node (o12s P) (.node (o20s P) (.node (o36_2 P) (.node (o68_4 P) (.node (o132_14 P) .nil .nil) .nil) (.node (o100_12 P) (.node (o164_18 P) .nil .nil) .nil)) (.node (o52_3 P) (.node (o84_8 P) (.node (o148_14 P) .nil .nil) .nil) (.node (o116_14 P) (.node (o180_20 P) .nil .nil) .nil))) (.node (o28p P) (.node (o44_2 P) (.node (o76_7 P) (.node (o140_14 P) .nil .nil) .nil) (.node (o108_13 P) (.node (o172_19 P) .nil .nil) .nil)) (.node (o60_4 P) (.node (o92_10 P) (.node (o156_15 P) .nil .nil) .nil) (.node (o124_14 P) .nil .nil))))) (.node (o6s P) (.node (o10s P) (.node (o18s P) (.node (o34_2 P) (.node (o66_4 P) (.node (o130_14 P) .nil .nil) .nil) (.node (o98_12 P) (.node (o162_17 P) .nil .nil) .nil)) (.node (o50_3 P) (.node (o82_8 P) (.node (o146_14 P) .nil .nil) .nil) (.node (o114_14 P) (.node (o178_20 P) .nil .nil) .nil))) (.node (o26s P) (.node (o42_2 P) (.node (o74_5 P) (.node (o138_14 P) .nil .nil) .nil) (.node (o106_13 P) (.node (o170_19 P) .nil .nil) .nil)) (.node (o58_4 P) (.node (o90_10 P) (.node (o154_15 P) .nil .nil) .nil) (.node (o122_14 P) (.node (o186_21 P) .nil .nil) .nil)))) (.node (o14s P) (.node (o22s P) (.node (o38_2 P) (.node (o70_5 P) (.node (o134_14 P) .nil .nil) .nil) (.node (o102_12 P) (.node (o166_18 P) .nil .nil) .nil)) (.node (o54_3 P) (.node (o86_10 P) (.node (o150_15 P) .nil .nil) .nil) (.node (o118_14 P) (.node (o182_21 P) .nil .nil) .nil))) (.node (o30p P) (.node (o46_3 P) (.node (o78_7 P) (.node (o142_14 P) .nil .nil) .nil) (.node (o110_13 P) (.node (o174_19 P) .nil .nil) .nil)) (.node (o62_4 P) (.node (o94_12 P) (.node (o158_17 P) .nil .nil) .nil) (.node (o126_14 P) .nil .nil)))))))
-- toks 2492 objs 188 steps 30 pos { line := 99, col := 0, endLine := 107, endCol := 29 }
noncomputable def o3_22 (P : Params) : Obj := ⟨(.type "dict"), none, (.dict #[E P "__name__" 165 (.str "law_tr0051_01" 2446), E P "__doc__" 166 .none, E P "__package__" 167 .none, E P "__loader__" 168 (.builtin "__main__.__loader__#opaque"), E P "__spec__" 169 .none, E P "__annotations__" 170 (.ref 6), E P "__builtins__" 171 (.ref 4), E P "__file__" 173 (.str "/claim/cut.py" 172), E P "__cached__" 174 .none, E P "_sre" 275 (.ref 12), E P "Error" 303 (.ref 41), E P "error_reply" 319 (.ref 54), E P "error_proto" 335 (.ref 66), E P "parse229" 348 (.ref 75), E P "_twin_re_1" 366 (.ref 80), E P "_twin_re_2" 408 (.ref 85), E P "CRLF" 410 (.str ⟨#[13, 10]⟩ 409), E P "quotedata" 417 (.ref 92), E P "b1_set" 479 (.ref 100), E P "in_table_b1" 486 (.ref 110), E P "b3_exceptions" 2437 (.ref 111), E P "map_table_b3" 2445 (.ref 156), E P "_law_unseen" 2455 (.ref 163), E P "_law_signs" 2461 (.ref 168), E P "_law_told" 2477 (.ref 175), E P "_law_due" 2483 (.ref 180), E P "_law_asked" 2491 (.ref 187), E P "_law_hand" 2497 (.ref 192)] 28), #[]⟩
noncomputable def o29_22 (P : Params) : Obj := ⟨.none, none, (.fields #[(.int 3 0), (.int 0 0), (.ref 37), (.int 5 0), (.int 0 0), (.ref 50), (.int 7 0), (.int 0 0), (.ref 62), (.int 9 0), (.int 0 0), (.ref 74), (.int 30 0), (.int 0 0), (.ref 91), (.int 34 0), (.int 0 0), (.ref 109), (.int 37 0), (.int 0 0), (.ref 155), (.int 43 0), (.int 0 0), (.ref 162), (.int 46 0), (.int 0 0), (.ref 167), (.int 69 0), (.int 0 0), (.ref 174), (.int 88 0), (.int 0 0), (.ref 179), (.int 99 0), (.int 0 0), (.ref 186), (.int 108 0), (.int 0 0), (.ref 191)]), #[]⟩
noncomputable def o188_22 (P : Params) : Obj := ⟨(.type "tuple"), none, (.seq #[] 0), #[]⟩
noncomputable def o189_22 (P : Params) : Obj := ⟨.none, none, (.fields #[]), #[]⟩
noncomputable def o190_22 (P : Params) : Obj := ⟨.none, none, (.func (fnAt 22 0 .none .none .none .none none .none .none 0)), #[]⟩
noncomputable def o191_22 (P : Params) : Obj := ⟨(.type "code"), none, (.fields #[(.str "_law_hand" 2492), (.str "_law_hand" 2493), (.str "/claim/cut.py" 2494), (.int 108 0), (.int 2 0), (.int 0 0), (.int 0 0), (.int 3 0), (.ref 188), (.bool true), (.int 276 0), (.ref 189), .none, .none, .none, (.ref 190), (.int 2495 0), (.int 108 0), (.str "/claim/cut.py" 2496)]), #[]⟩
noncomputable def o192_22 (P : Params) : Obj := ⟨(.type "function"), none, (.func (fnAt 22 3 .none .none .none (.str "law_tr0051_01" 2446) none (.ref 191) .none 0)), #[]⟩
noncomputable def T_22 (P : Params) : BT := (.node (o0s P) (.node (o1s P) (.node (o3_22 P) (.node (o7s P) (.node (o15s P) (.node (o31p P) (.node (o63_4 P) (.node (o127_14 P) .nil .nil) (.node (o191_22 P) .nil .nil)) (.node (o95_12 P) (.node (o159_17 P) .nil .nil) .nil)) (.node (o47_3 P) (.node (o79_7 P) (.node (o143_14 P) .nil .nil) .nil) (.node (o111_14 P) (.node (o175_19 P) .nil .nil) .nil))) (.node (o23s P) (.node (o39_2 P) (.node (o71_5 P) (.node (o135_14 P) .nil .nil) .nil) (.node (o103_12 P) (.node (o167_18 P) .nil .nil) .nil)) (.node (o55_3 P) (.node (o87_10 P) (.node (o151_15 P) .nil .nil) .nil) (.node (o119_14 P) (.node (o183_21 P) .nil .nil) .nil)))) (.node (o11s P) (.node (o19s P) (.node (o35_2 P) (.node (o67_4 P) (.node (o131_14 P) .nil .nil) .nil) (.node (o99_12 P) (.node (o163_17 P) .nil .nil) .nil)) (.node (o51_3 P) (.node (o83_8 P) (.node (o147_14 P) .nil .nil) .nil) (.node (o115_14 P) (.node (o179_20 P) .nil .nil) .nil))) (.node (o27s P) (.node (o43_2 P) (.node (o75_5 P) (.node (o139_14 P) .nil .nil) .nil) (.node (o107_13 P) (.node (o171_19 P) .nil .nil) .nil)) (.node (o59_4 P) (.node (o91_10 P) (.node (o155_15 P) .nil .nil) .nil) (.node (o123_14 P) (.node (o187_21 P) .nil .nil) .nil))))) (.node (o5s P) (.node (o9s P) (.node (o17s P) (.node (o33_2 P) (.node (o65_4 P) (.node (o129_14 P) .nil .nil) .nil) (.node (o97_12 P) (.node (o161_17 P) .nil .nil) .nil)) (.node (o49_3 P) (.node (o81_8 P) (.node (o145_14 P) .nil .nil) .nil) (.node (o113_14 P) (.node (o177_20 P) .nil .nil) .nil))) (.node (o25s P) (.node (o41_4 P) (.node (o73_5 P) (.node (o137_14 P) .nil .nil) .nil) (.node (o105_13 P) (.node (o169_19 P) .nil .nil) .nil)) (.node (o57_4 P) (.node (o89_10 P) (.node (o153_15 P) .nil .nil) .nil) (.node (o121_14 P) (.node (o185_21 P) .nil .nil) .nil)))) (.node (o13s P) (.node (o21s P) (.node (o37_2 P) (.node (o69_5 P) (.node (o133_14 P) .nil .nil) .nil) (.node (o101_12 P) (.node (o165_18 P) .nil .nil) .nil)) (.node (o53_3 P) (.node (o85_8 P) (.node (o149_14 P) .nil .nil) .nil) (.node (o117_14 P) (.node (o181_21 P) .nil .nil) .nil))) (.node (o29_22 P) (.node (o45_3 P) (.node (o77_7 P) (.node (o141_14 P) .nil .nil) .nil) (.node (o109_13 P) (.node (o173_19 P) .nil .nil) .nil)) (.node (o61_4 P) (.node (o93_12 P) (.node (o157_17 P) .nil .nil) .nil) (.node (o125_14 P) (.node (o189_22 P) .nil .nil) .nil)))))) (.node (o2_2 P) (.node (o4s P) (.node (o8s P) (.node (o16s P) (.node (o32_2 P) (.node (o64_4 P) (.node (o128_14 P) .nil .nil) (.node (o192_22 P) .nil .nil)) (.node (o96_12 P) (.node (o160_17 P) .nil .nil) .nil)) (.node (o48_3 P) (.node (o80_7 P) (.node (o144_14 P) .nil .nil) .nil) (.node (o112_14 P) (.node (o176_20 P) .nil .nil) .nil))) (.node (o24s P) (.node (o40_2 P) (.node (o72_5 P) (.node (o136_14 P) .nil .nil) .nil) (.node (o104_13 P) (.node (o168_18 P) .nil .nil) .nil)) (.node (o56_3 P) (.node (o88_10 P) (.node (o152_15 P) .nil .nil) .nil) (.node (o120_14 P) (.node (o184_21 P) .nil .nil) .nil)))) (.node (o12s P) (.node (o20s P) (.node (o36_2 P) (.node (o68_4 P) (.node (o132_14 P) .nil .nil) .nil) (.node (o100_12 P) (.node (o164_18 P) .nil .nil) .nil)) (.node (o52_3 P) (.node (o84_8 P) (.node (o148_14 P) .nil .nil) .nil) (.node (o116_14 P) (.node (o180_20 P) .nil .nil) .nil))) (.node (o28p P) (.node (o44_2 P) (.node (o76_7 P) (.node (o140_14 P) .nil .nil) .nil) (.node (o108_13 P) (.node (o172_19 P) .nil .nil) .nil)) (.node (o60_4 P) (.node (o92_10 P) (.node (o156_15 P) .nil .nil) .nil) (.node (o124_14 P) (.node (o188_22 P) .nil .nil) .nil))))) (.node (o6s P) (.node (o10s P) (.node (o18s P) (.node (o34_2 P) (.node (o66_4 P) (.node (o130_14 P) .nil .nil) .nil) (.node (o98_12 P) (.node (o162_17 P) .nil .nil) .nil)) (.node (o50_3 P) (.node (o82_8 P) (.node (o146_14 P) .nil .nil) .nil) (.node (o114_14 P) (.node (o178_20 P) .nil .nil) .nil))) (.node (o26s P) (.node (o42_2 P) (.node (o74_5 P) (.node (o138_14 P) .nil .nil) .nil) (.node (o106_13 P) (.node (o170_19 P) .nil .nil) .nil)) (.node (o58_4 P) (.node (o90_10 P) (.node (o154_15 P) .nil .nil) .nil) (.node (o122_14 P) (.node (o186_21 P) .nil .nil) .nil)))) (.node (o14s P) (.node (o22s P) (.node (o38_2 P) (.node (o70_5 P) (.node (o134_14 P) .nil .nil) .nil) (.node (o102_12 P) (.node (o166_18 P) .nil .nil) .nil)) (.node (o54_3 P) (.node (o86_10 P) (.node (o150_15 P) .nil .nil) .nil) (.node (o118_14 P) (.node (o182_21 P) .nil .nil) .nil))) (.node (o30p P) (.node (o46_3 P) (.node (o78_7 P) (.node (o142_14 P) .nil .nil) .nil) (.node (o110_13 P) (.node (o174_19 P) .nil .nil) .nil)) (.node (o62_4 P) (.node (o94_12 P) (.node (o158_17 P) .nil .nil) .nil) (.node (o126_14 P) (.node (o190_22 P) .nil .nil) .nil)))))))
-- toks 2498 objs 193 steps 26 pos { line := 108, col := 0, endLine := 111, endCol := 82 }
noncomputable def o3_23 (P : Params) : Obj := ⟨(.type "dict"), none, (.dict #[E P "__name__" 165 (.str "law_tr0051_01" 2446), E P "__doc__" 166 .none, E P "__package__" 167 .none, E P "__loader__" 168 (.builtin "__main__.__loader__#opaque"), E P "__spec__" 169 .none, E P "__annotations__" 170 (.ref 6), E P "__builtins__" 171 (.ref 4), E P "__file__" 173 (.str "/claim/cut.py" 172), E P "__cached__" 174 .none, E P "_sre" 275 (.ref 12), E P "Error" 303 (.ref 41), E P "error_reply" 319 (.ref 54), E P "error_proto" 335 (.ref 66), E P "parse229" 348 (.ref 75), E P "_twin_re_1" 366 (.ref 80), E P "_twin_re_2" 408 (.ref 85), E P "CRLF" 410 (.str ⟨#[13, 10]⟩ 409), E P "quotedata" 417 (.ref 92), E P "b1_set" 479 (.ref 100), E P "in_table_b1" 486 (.ref 110), E P "b3_exceptions" 2437 (.ref 111), E P "map_table_b3" 2445 (.ref 156), E P "_law_unseen" 2455 (.ref 163), E P "_law_signs" 2461 (.ref 168), E P "_law_told" 2477 (.ref 175), E P "_law_due" 2483 (.ref 180), E P "_law_asked" 2491 (.ref 187), E P "_law_hand" 2497 (.ref 192), E P "law" 2503 (.ref 197)] 29), #[]⟩
noncomputable def o29_23 (P : Params) : Obj := ⟨.none, none, (.fields #[(.int 3 0), (.int 0 0), (.ref 37), (.int 5 0), (.int 0 0), (.ref 50), (.int 7 0), (.int 0 0), (.ref 62), (.int 9 0), (.int 0 0), (.ref 74), (.int 30 0), (.int 0 0), (.ref 91), (.int 34 0), (.int 0 0), (.ref 109), (.int 37 0), (.int 0 0), (.ref 155), (.int 43 0), (.int 0 0), (.ref 162), (.int 46 0), (.int 0 0), (.ref 167), (.int 69 0), (.int 0 0), (.ref 174), (.int 88 0), (.int 0 0), (.ref 179), (.int 99 0), (.int 0 0), (.ref 186), (.int 108 0), (.int 0 0), (.ref 191), (.int 112 0), (.int 0 0), (.ref 196)]), #[]⟩
noncomputable def o193_23 (P : Params) : Obj := ⟨(.type "tuple"), none, (.seq #[] 0), #[]⟩
noncomputable def o194_23 (P : Params) : Obj := ⟨.none, none, (.fields #[]), #[]⟩
noncomputable def o195_23 (P : Params) : Obj := ⟨.none, none, (.func (fnAt 23 0 .none .none .none .none none .none .none 0)), #[]⟩
noncomputable def o196_23 (P : Params) : Obj := ⟨(.type "code"), none, (.fields #[(.str "law" 2498), (.str "law" 2499), (.str "/claim/cut.py" 2500), (.int 112 0), (.int 1 0), (.int 0 0), (.int 0 0), (.int 3 0), (.ref 193), (.bool true), (.int 276 0), (.ref 194), .none, .none, .none, (.ref 195), (.int 2501 0), (.int 112 0), (.str "/claim/cut.py" 2502)]), #[]⟩
noncomputable def o197_23 (P : Params) : Obj := ⟨(.type "function"), none, (.func (fnAt 23 3 .none .none .none (.str "law_tr0051_01" 2446) none (.ref 196) .none 0)), #[]⟩
noncomputable def T_23 (P : Params) : BT := (.node (o0s P) (.node (o1s P) (.node (o3_23 P) (.node (o7s P) (.node (o15s P) (.node (o31p P) (.node (o63_4 P) (.node (o127_14 P) .nil .nil) (.node (o191_22 P) .nil .nil)) (.node (o95_12 P) (.node (o159_17 P) .nil .nil) .nil)) (.node (o47_3 P) (.node (o79_7 P) (.node (o143_14 P) .nil .nil) .nil) (.node (o111_14 P) (.node (o175_19 P) .nil .nil) .nil))) (.node (o23s P) (.node (o39_2 P) (.node (o71_5 P) (.node (o135_14 P) .nil .nil) .nil) (.node (o103_12 P) (.node (o167_18 P) .nil .nil) .nil)) (.node (o55_3 P) (.node (o87_10 P) (.node (o151_15 P) .nil .nil) .nil) (.node (o119_14 P) (.node (o183_21 P) .nil .nil) .nil)))) (.node (o11s P) (.node (o19s P) (.node (o35_2 P) (.node (o67_4 P) (.node (o131_14 P) .nil .nil) (.node (o195_23 P) .nil .nil)) (.node (o99_12 P) (.node (o163_17 P) .nil .nil) .nil)) (.node (o51_3 P) (.node (o83_8 P) (.node (o147_14 P) .nil .nil) .nil) (.node (o115_14 P) (.node (o179_20 P) .nil .nil) .nil))) (.node (o27s P) (.node (o43_2 P) (.node (o75_5 P) (.node (o139_14 P) .nil .nil) .nil) (.node (o107_13 P) (.node (o171_19 P) .nil .nil) .nil)) (.node (o59_4 P) (.node (o91_10 P) (.node (o155_15 P) .nil .nil) .nil) (.node (o123_14 P) (.node (o187_21 P) .nil .nil) .nil))))) (.node (o5s P) (.node (o9s P) (.node (o17s P) (.node (o33_2 P) (.node (o65_4 P) (.node (o129_14 P) .nil .nil) (.node (o193_23 P) .nil .nil)) (.node (o97_12 P) (.node (o161_17 P) .nil .nil) .nil)) (.node (o49_3 P) (.node (o81_8 P) (.node (o145_14 P) .nil .nil) .nil) (.node (o113_14 P) (.node (o177_20 P) .nil .nil) .nil))) (.node (o25s P) (.node (o41_4 P) (.node (o73_5 P) (.node (o137_14 P) .nil .nil) .nil) (.node (o105_13 P) (.node (o169_19 P) .nil .nil) .nil)) (.node (o57_4 P) (.node (o89_10 P) (.node (o153_15 P) .nil .nil) .nil) (.node (o121_14 P) (.node (o185_21 P) .nil .nil) .nil)))) (.node (o13s P) (.node (o21s P) (.node (o37_2 P) (.node (o69_5 P) (.node (o133_14 P) .nil .nil) (.node (o197_23 P) .nil .nil)) (.node (o101_12 P) (.node (o165_18 P) .nil .nil) .nil)) (.node (o53_3 P) (.node (o85_8 P) (.node (o149_14 P) .nil .nil) .nil) (.node (o117_14 P) (.node (o181_21 P) .nil .nil) .nil))) (.node (o29_23 P) (.node (o45_3 P) (.node (o77_7 P) (.node (o141_14 P) .nil .nil) .nil) (.node (o109_13 P) (.node (o173_19 P) .nil .nil) .nil)) (.node (o61_4 P) (.node (o93_12 P) (.node (o157_17 P) .nil .nil) .nil) (.node (o125_14 P) (.node (o189_22 P) .nil .nil) .nil)))))) (.node (o2_2 P) (.node (o4s P) (.node (o8s P) (.node (o16s P) (.node (o32_2 P) (.node (o64_4 P) (.node (o128_14 P) .nil .nil) (.node (o192_22 P) .nil .nil)) (.node (o96_12 P) (.node (o160_17 P) .nil .nil) .nil)) (.node (o48_3 P) (.node (o80_7 P) (.node (o144_14 P) .nil .nil) .nil) (.node (o112_14 P) (.node (o176_20 P) .nil .nil) .nil))) (.node (o24s P) (.node (o40_2 P) (.node (o72_5 P) (.node (o136_14 P) .nil .nil) .nil) (.node (o104_13 P) (.node (o168_18 P) .nil .nil) .nil)) (.node (o56_3 P) (.node (o88_10 P) (.node (o152_15 P) .nil .nil) .nil) (.node (o120_14 P) (.node (o184_21 P) .nil .nil) .nil)))) (.node (o12s P) (.node (o20s P) (.node (o36_2 P) (.node (o68_4 P) (.node (o132_14 P) .nil .nil) (.node (o196_23 P) .nil .nil)) (.node (o100_12 P) (.node (o164_18 P) .nil .nil) .nil)) (.node (o52_3 P) (.node (o84_8 P) (.node (o148_14 P) .nil .nil) .nil) (.node (o116_14 P) (.node (o180_20 P) .nil .nil) .nil))) (.node (o28p P) (.node (o44_2 P) (.node (o76_7 P) (.node (o140_14 P) .nil .nil) .nil) (.node (o108_13 P) (.node (o172_19 P) .nil .nil) .nil)) (.node (o60_4 P) (.node (o92_10 P) (.node (o156_15 P) .nil .nil) .nil) (.node (o124_14 P) (.node (o188_22 P) .nil .nil) .nil))))) (.node (o6s P) (.node (o10s P) (.node (o18s P) (.node (o34_2 P) (.node (o66_4 P) (.node (o130_14 P) .nil .nil) (.node (o194_23 P) .nil .nil)) (.node (o98_12 P) (.node (o162_17 P) .nil .nil) .nil)) (.node (o50_3 P) (.node (o82_8 P) (.node (o146_14 P) .nil .nil) .nil) (.node (o114_14 P) (.node (o178_20 P) .nil .nil) .nil))) (.node (o26s P) (.node (o42_2 P) (.node (o74_5 P) (.node (o138_14 P) .nil .nil) .nil) (.node (o106_13 P) (.node (o170_19 P) .nil .nil) .nil)) (.node (o58_4 P) (.node (o90_10 P) (.node (o154_15 P) .nil .nil) .nil) (.node (o122_14 P) (.node (o186_21 P) .nil .nil) .nil)))) (.node (o14s P) (.node (o22s P) (.node (o38_2 P) (.node (o70_5 P) (.node (o134_14 P) .nil .nil) .nil) (.node (o102_12 P) (.node (o166_18 P) .nil .nil) .nil)) (.node (o54_3 P) (.node (o86_10 P) (.node (o150_15 P) .nil .nil) .nil) (.node (o118_14 P) (.node (o182_21 P) .nil .nil) .nil))) (.node (o30p P) (.node (o46_3 P) (.node (o78_7 P) (.node (o142_14 P) .nil .nil) .nil) (.node (o110_13 P) (.node (o174_19 P) .nil .nil) .nil)) (.node (o62_4 P) (.node (o94_12 P) (.node (o158_17 P) .nil .nil) .nil) (.node (o126_14 P) (.node (o190_22 P) .nil .nil) .nil)))))))
-- toks 2504 objs 198 steps 26 pos { line := 112, col := 0, endLine := 143, endCol := 15 }
noncomputable def Tf (P : Params) : BT := (.node (o0s P) (.node (o1s P) (.node (o3_23 P) (.node (o7s P) (.node (o15s P) (.node (o31p P) (.node (o63_4 P) (.node (o127_14 P) .nil .nil) (.node (o191_22 P) .nil .nil)) (.node (o95_12 P) (.node (o159_17 P) .nil .nil) .nil)) (.node (o47_3 P) (.node (o79_7 P) (.node (o143_14 P) .nil .nil) .nil) (.node (o111_14 P) (.node (o175_19 P) .nil .nil) .nil))) (.node (o23s P) (.node (o39_2 P) (.node (o71_5 P) (.node (o135_14 P) .nil .nil) .nil) (.node (o103_12 P) (.node (o167_18 P) .nil .nil) .nil)) (.node (o55_3 P) (.node (o87_10 P) (.node (o151_15 P) .nil .nil) .nil) (.node (o119_14 P) (.node (o183_21 P) .nil .nil) .nil)))) (.node (o11s P) (.node (o19s P) (.node (o35_2 P) (.node (o67_4 P) (.node (o131_14 P) .nil .nil) (.node (o195_23 P) .nil .nil)) (.node (o99_12 P) (.node (o163_17 P) .nil .nil) .nil)) (.node (o51_3 P) (.node (o83_8 P) (.node (o147_14 P) .nil .nil) .nil) (.node (o115_14 P) (.node (o179_20 P) .nil .nil) .nil))) (.node (o27s P) (.node (o43_2 P) (.node (o75_5 P) (.node (o139_14 P) .nil .nil) .nil) (.node (o107_13 P) (.node (o171_19 P) .nil .nil) .nil)) (.node (o59_4 P) (.node (o91_10 P) (.node (o155_15 P) .nil .nil) .nil) (.node (o123_14 P) (.node (o187_21 P) .nil .nil) .nil))))) (.node (o5s P) (.node (o9s P) (.node (o17s P) (.node (o33_2 P) (.node (o65_4 P) (.node (o129_14 P) .nil .nil) (.node (o193_23 P) .nil .nil)) (.node (o97_12 P) (.node (o161_17 P) .nil .nil) .nil)) (.node (o49_3 P) (.node (o81_8 P) (.node (o145_14 P) .nil .nil) .nil) (.node (o113_14 P) (.node (o177_20 P) .nil .nil) .nil))) (.node (o25s P) (.node (o41_4 P) (.node (o73_5 P) (.node (o137_14 P) .nil .nil) .nil) (.node (o105_13 P) (.node (o169_19 P) .nil .nil) .nil)) (.node (o57_4 P) (.node (o89_10 P) (.node (o153_15 P) .nil .nil) .nil) (.node (o121_14 P) (.node (o185_21 P) .nil .nil) .nil)))) (.node (o13s P) (.node (o21s P) (.node (o37_2 P) (.node (o69_5 P) (.node (o133_14 P) .nil .nil) (.node (o197_23 P) .nil .nil)) (.node (o101_12 P) (.node (o165_18 P) .nil .nil) .nil)) (.node (o53_3 P) (.node (o85_8 P) (.node (o149_14 P) .nil .nil) .nil) (.node (o117_14 P) (.node (o181_21 P) .nil .nil) .nil))) (.node (o29_23 P) (.node (o45_3 P) (.node (o77_7 P) (.node (o141_14 P) .nil .nil) .nil) (.node (o109_13 P) (.node (o173_19 P) .nil .nil) .nil)) (.node (o61_4 P) (.node (o93_12 P) (.node (o157_17 P) .nil .nil) .nil) (.node (o125_14 P) (.node (o189_22 P) .nil .nil) .nil)))))) (.node (o2_2 P) (.node (o4s P) (.node (o8s P) (.node (o16s P) (.node (o32_2 P) (.node (o64_4 P) (.node (o128_14 P) .nil .nil) (.node (o192_22 P) .nil .nil)) (.node (o96_12 P) (.node (o160_17 P) .nil .nil) .nil)) (.node (o48_3 P) (.node (o80_7 P) (.node (o144_14 P) .nil .nil) .nil) (.node (o112_14 P) (.node (o176_20 P) .nil .nil) .nil))) (.node (o24s P) (.node (o40_2 P) (.node (o72_5 P) (.node (o136_14 P) .nil .nil) .nil) (.node (o104_13 P) (.node (o168_18 P) .nil .nil) .nil)) (.node (o56_3 P) (.node (o88_10 P) (.node (o152_15 P) .nil .nil) .nil) (.node (o120_14 P) (.node (o184_21 P) .nil .nil) .nil)))) (.node (o12s P) (.node (o20s P) (.node (o36_2 P) (.node (o68_4 P) (.node (o132_14 P) .nil .nil) (.node (o196_23 P) .nil .nil)) (.node (o100_12 P) (.node (o164_18 P) .nil .nil) .nil)) (.node (o52_3 P) (.node (o84_8 P) (.node (o148_14 P) .nil .nil) .nil) (.node (o116_14 P) (.node (o180_20 P) .nil .nil) .nil))) (.node (o28p P) (.node (o44_2 P) (.node (o76_7 P) (.node (o140_14 P) .nil .nil) .nil) (.node (o108_13 P) (.node (o172_19 P) .nil .nil) .nil)) (.node (o60_4 P) (.node (o92_10 P) (.node (o156_15 P) .nil .nil) .nil) (.node (o124_14 P) (.node (o188_22 P) .nil .nil) .nil))))) (.node (o6s P) (.node (o10s P) (.node (o18s P) (.node (o34_2 P) (.node (o66_4 P) (.node (o130_14 P) .nil .nil) (.node (o194_23 P) .nil .nil)) (.node (o98_12 P) (.node (o162_17 P) .nil .nil) .nil)) (.node (o50_3 P) (.node (o82_8 P) (.node (o146_14 P) .nil .nil) .nil) (.node (o114_14 P) (.node (o178_20 P) .nil .nil) .nil))) (.node (o26s P) (.node (o42_2 P) (.node (o74_5 P) (.node (o138_14 P) .nil .nil) .nil) (.node (o106_13 P) (.node (o170_19 P) .nil .nil) .nil)) (.node (o58_4 P) (.node (o90_10 P) (.node (o154_15 P) .nil .nil) .nil) (.node (o122_14 P) (.node (o186_21 P) .nil .nil) .nil)))) (.node (o14s P) (.node (o22s P) (.node (o38_2 P) (.node (o70_5 P) (.node (o134_14 P) .nil .nil) .nil) (.node (o102_12 P) (.node (o166_18 P) .nil .nil) .nil)) (.node (o54_3 P) (.node (o86_10 P) (.node (o150_15 P) .nil .nil) .nil) (.node (o118_14 P) (.node (o182_21 P) .nil .nil) .nil))) (.node (o30p P) (.node (o46_3 P) (.node (o78_7 P) (.node (o142_14 P) .nil .nil) .nil) (.node (o110_13 P) (.node (o174_19 P) .nil .nil) .nil)) (.node (o62_4 P) (.node (o94_12 P) (.node (o158_17 P) .nil .nil) .nil) (.node (o126_14 P) (.node (o190_22 P) .nil .nil) .nil)))))))
end Mine
end
section
open PySem PySem.W PyProof.Rows
namespace Mine
/-! one segment of the top's run, put ahead of what follows -/
theorem go_bind {α β : Type} {tb : String → Option Builtin} {p : Program} {w : World} {n₀ : Nat} {ann : Option Value} {q : Pos} {x : Sem α} {f : α → Sem β} {K : β → Sem Fin} {H : Value → Sem Fin} {res : α → Flow} {fl : Flow} {a₀ : α}
    {n N : Nat} {s s' r : Shared} {c c' : Code} {pos p' : Pos}
    (h : segRun tb p w n₀ ann 1 n s ⟨x.wrap (fun a => .pure (.done (res a))) deadEnd id id, c, pos, [topFrame q]⟩ = some (fl, s', c', p')) (ha : ∀ a, res a = fl → a = a₀)
    (k : topRun tb p w n₀ ann N s' ⟨(f a₀).wrap K H id id, c', p', [topFrame q]⟩ = some r) :
    topRun tb p w n₀ ann (n + N) s ⟨(x >>= f).wrap K H id id, c, pos, [topFrame q]⟩ = some r := by
  obtain ⟨a, e, hN⟩ := seg_top (res := res) (K' := fun a => (f a).wrap K H id id) (H' := H) (B := [topFrame q]) rfl n s ⟨x.wrap (fun a => .pure (.done (res a))) deadEnd id id, c, pos, [topFrame q]⟩
    ⟨x.wrap (fun a => (f a).wrap K H id id) H id id, c, pos, [topFrame q]⟩ _ _ _ _ ⟨rfl, rfl, .inl ⟨rfl, rfl, x, rfl, rfl⟩⟩ h
  obtain rfl := ha a e
  rw [Sem.bind_eq_wrap', Sem.wrap_wrap]
  exact hN N r k
/-! a long display of pairs goes by runs of seventeen -/
noncomputable abbrev Pair := Sem Value × Sem Value
noncomputable def putRun (run : List Pair) (m : Option Addr) : Sem (Option Addr) :=
  if run.isEmpty then pure m else match m with
    | none => subDict run >>= fun d => pure (some d)
    | some d => holding [.ref d] (subDict run) >>= fun sub =>
        (holding [.ref d, .ref sub] (mergeMapping d (.ref sub) false)).onRaise (fun x => holding [.ref d, x] (runValue (.builtin "proto.let_go" {})) >>= fun _ => pure ()) >>= fun _ => pure (some d)
noncomputable def dLoop : List Pair → Option Addr → List Pair → Sem Value
  | [], m, run => putRun run m >>= fun o => match o with | some d => pure (.ref d) | none => newDict
  | p :: r, m, run => if (run ++ [p]).length == 17 then putRun (run ++ [p]) m >>= fun m' => dLoop r m' [] else dLoop r m (run ++ [p])
theorem dd_aux (F : Option (Sem Value) × Sem Value → Option Addr × List Pair → Sem (ForInStep (Option Addr × List Pair))) (G : Option Addr × List Pair → Sem Value)
    (hF : ∀ k v m run, F (some k, v) (m, run) = if (run ++ [(k, v)]).length == 17 then putRun (run ++ [(k, v)]) m >>= fun m' => pure (.yield (m', [])) else pure (.yield (m, run ++ [(k, v)])))
    (hG : ∀ m run, G (m, run) = putRun run m >>= fun o => match o with | some d => pure (.ref d) | none => newDict) (l : List Pair) : ∀ (m : Option Addr) (run : List Pair),
      (forIn (l.map fun p => (some p.1, p.2)) (m, run) F >>= G) = dLoop l m run := by
  induction l with
  | nil => intro m run; exact hG m run
  | cons p r ih =>
    intro m run
    rw [List.map_cons, List.forIn_cons]
    rw [hF]
    unfold dLoop
    split
    · rw [bind_assoc, bind_assoc]
      congr 1
      funext m'
      rw [pure_bind]
      exact ih m' []
    · rw [pure_bind]
      exact ih m _
theorem dd_eq (l : List Pair) : dictDisplay (l.map fun p => (some p.1, p.2)) = dLoop l none [] := by
  unfold dictDisplay
  exact dd_aux _ _ (fun _ _ _ _ => rfl) (fun _ _ => rfl) l none []
theorem dLoop_run (r : List Pair) : ∀ (c : List Pair) (m : Option Addr) (run : List Pair), c ≠ [] → run.length + c.length = 17 → dLoop (c ++ r) m run = putRun (run ++ c) m >>= fun m' => dLoop r m' []
  | [], _, _, h, _ => absurd rfl h
  | [p], m, run, _, h => by
    show dLoop (p :: r) m run = _
    conv => lhs; unfold dLoop
    rw [if_pos (by simp at h ⊢; omega)]
  | p :: p' :: c, m, run, _, h => by
    show dLoop (p :: ((p' :: c) ++ r)) m run = _
    conv => lhs; unfold dLoop
    rw [if_neg (by simp at h ⊢; omega), dLoop_run r (p' :: c) m (run ++ [p]) (by simp) (by simp at h ⊢; omega), List.append_assoc]
    rfl
theorem dLoop_chunk (c r : List Pair) (m : Option Addr) (h : c.length = 17) : dLoop (c ++ r) m [] = putRun c m >>= fun m' => dLoop r m' [] := by
  have := dLoop_run r c m [] (by intro e; subst e; simp at h) (by simpa using h)
  simpa using this
theorem dLoop_end : ∀ (c : List Pair) (m : Option Addr) (run : List Pair), run.length + c.length < 17 → dLoop c m run = putRun (run ++ c) m >>= fun o => match o with | some d => pure (.ref d) | none => newDict
  | [], m, run, _ => by rw [List.append_nil]; rfl
  | p :: c, m, run, h => by
    conv => lhs; unfold dLoop
    rw [if_neg (by simp at h ⊢; omega), dLoop_end c m (run ++ [p]) (by simp at h ⊢; omega), List.append_assoc]
    rfl
end Mine
end
section
open PySem PySem.W PyProof.Rows
namespace Mine
/-! a small logic of runs: x goes from s to s' and gives a, whatever stands around it -/
section
variable {w : World}
noncomputable abbrev tRun (w : World) := topRun treeTable pw w 28 (some (.ref 6))
noncomputable def Ev {α : Type} (w : World) (n : Nat) (s : Shared) (x : Sem α) (a : α) (s' : Shared) : Prop :=
  ∀ (K : α → Sem Fin) (H : Value → Sem Fin) (gd : Bool → Bool) (lv : List Value → List Value) (c : Code) (pos : Pos) (B : List Frame),
    ∀ N r, tRun w N s' ⟨K a, c, pos, B⟩ = some r → tRun w (n + N) s ⟨x.wrap K H gd lv, c, pos, B⟩ = some r
theorem Ev.mono {α : Type} {s s' : Shared} {x : Sem α} {a : α} {n n' : Nat} (h : Ev w n s x a s') (le : n ≤ n') : Ev w n' s x a s' := fun K H gd lv c pos B N r q => by
  have := topRun_mono (n' - n) _ _ _ _ (h K H gd lv c pos B N r q)
  rw [show n + N + (n' - n) = n' + N by omega] at this
  exact this
theorem Ev.pure {α : Type} {s : Shared} (a : α) : Ev w 0 s (Pure.pure a) a s := fun K H gd lv c pos B N r h => by rw [Nat.zero_add]; exact h
theorem Ev.bind {α β : Type} {s s₁ s₂ : Shared} {x : Sem α} {f : α → Sem β} {a : α} {b : β} {n₁ n₂ : Nat} (h₁ : Ev w n₁ s x a s₁) (h₂ : Ev w n₂ s₁ (f a) b s₂) : Ev w (n₁ + n₂) s (x >>= f) b s₂ := fun K H gd lv c pos B N r h => by
  rw [Sem.bind_eq_wrap', Sem.wrap_wrap, Nat.add_assoc]
  exact h₁ (fun a => (f a).wrap K H gd lv) H gd lv c pos B _ _ (h₂ K H gd lv c pos B _ _ h)
theorem Ev.holding {α : Type} {s s' : Shared} {x : Sem α} {a : α} {n : Nat} (vs : List Value) (h : Ev w n s x a s') : Ev w n s (PySem.holding vs x) a s' := by
  unfold PySem.holding
  split
  · exact h
  · intro K H gd lv c pos B N r q
    rw [Sem.keep_eq_wrap, Sem.wrap_wrap]
    exact h K H gd (fun l => lv (_ ++ l)) c pos B _ _ q
theorem Ev.onRaise {α : Type} {s s' : Shared} {x : Sem α} {a : α} {n : Nat} (g : Value → Sem Unit) (h : Ev w n s x a s') : Ev w n s (x.onRaise g) a s' := by
  intro K H gd lv c pos B N r q
  rw [Sem.onRaise_eq_wrap, Sem.wrap_wrap]
  exact h K (fun e => ((g e).bind fun _ => .raise e).wrap K H gd lv) gd lv c pos B _ _ q
theorem Ev.step {α : Type} {s s₁ s₂ : Shared} {x y : Sem α} {a : α} {n : Nat}
    (h : ∀ (K : α → Sem Fin) (H : Value → Sem Fin) (gd : Bool → Bool) (lv : List Value → List Value) (c : Code) (pos : Pos) (B : List Frame),
      through ⟨x.wrap K H gd lv, c, pos, B⟩ = false ∧ stepOk 28 (some (.ref 6)) ⟨x.wrap K H gd lv, c, pos, B⟩ = true ∧ step (denote treeTable) pw w s ⟨x.wrap K H gd lv, c, pos, B⟩ = .go s₁ ⟨y.wrap K H gd lv, c, pos, B⟩)
    (k : Ev w n s₁ y a s₂) : Ev w (n + 1) s x a s₂ := fun K H gd lv c pos B N r q => by
  have k := k K H gd lv c pos B N r q
  obtain ⟨h1, h2, h3⟩ := h K H gd lv c pos B
  rw [show n + 1 + N = n + N + 1 by omega]
  unfold tRun topRun
  rw [h1, h2, h3]
  exact k
theorem Ev.loadK {α : Type} {s s' : Shared} {b : Addr} {o : Obj} {part : Option Value} {k : Obj → Sem α} {a : α} {n : Nat} (ho : s.heap.get? b = some o) (h : Ev w n s (k o) a s') : Ev w (n + 1) s (.load b part k) a s' :=
  Ev.step (fun K H gd lv c pos B => by
    obtain ⟨heap, gens, drawn, toks, os⟩ := s
    dsimp only at ho
    refine ⟨?_, rfl, ?_⟩
    · unfold through; simp [Sem.wrap]
    · simp only [Sem.wrap, PySem.step, ho]) h
theorem Ev.updateK {α : Type} {s s' : Shared} {b : Addr} {o : Obj} {part : Option Value} {f : Obj → Obj} {k : Unit → Sem α} {a : α} {n : Nat} (ho : s.heap.get? b = some o) (hb : Nat.ble 28 b = true)
    (h : Ev w n { s with heap := s.heap.update b f } (k ()) a s') : Ev w (n + 1) s (.update b part f k) a s' :=
  Ev.step (fun K H gd lv c pos B => by
    obtain ⟨heap, gens, drawn, toks, os⟩ := s
    dsimp only at ho
    refine ⟨?_, ?_, ?_⟩
    · unfold through; simp [Sem.wrap]
    · unfold stepOk; simp only [Sem.wrap]; rw [hb]; rfl
    · simp only [Sem.wrap, PySem.step, ho]; rfl) h
theorem Ev.load {s : Shared} {b : Addr} {o : Obj} {part : Option Value} (ho : s.heap.get? b = some o) : Ev w 1 s (loadPart b part) o s := Ev.loadK ho (Ev.pure o)
theorem Ev.forIn_list {γ : Type} {n : Nat} (body : γ → PUnit → Sem (ForInStep PUnit)) : ∀ (l : List γ) (st : Nat → Shared) (k : Nat), (∀ i (hi : i < l.length), Ev w n (st (k + i)) (body l[i] ⟨⟩) (.yield ⟨⟩) (st (k + i + 1))) →
    Ev w (l.length * n) (st k) (forIn l (⟨⟩ : PUnit) body) ⟨⟩ (st (k + l.length))
  | [], st, k, _ => by rw [List.forIn_nil]; exact Ev.mono (Ev.pure _) (Nat.zero_le _)
  | x :: l, st, k, h => by
    rw [List.forIn_cons]
    refine Ev.mono (Ev.bind (h 0 (Nat.zero_lt_succ _)) ?_) (Nat.le_of_eq (by rw [List.length_cons, Nat.succ_mul, Nat.add_comm]))
    dsimp only
    have := Ev.forIn_list body l st (k + 1) (fun i hi => by have := h (i + 1) (Nat.succ_lt_succ hi); rw [show k + (i + 1) = k + 1 + i by omega] at this; exact this)
    rw [show k + 1 + l.length = k + (x :: l).length by simp; omega] at this
    exact this
end
end Mine
end
section
open PySem PySem.W PyProof.Rows
namespace Mine
section
variable {w : World}
noncomputable abbrev dObj (l : List DictEntry) (n : Nat) : Obj := ⟨.type "dict", none, .dict l.toArray n, #[]⟩
theorem Ev.entries {s : Shared} {d : Addr} {l : List DictEntry} {n : Nat} {part : Option Value} (hd : s.heap.get? d = some (dObj l n)) : Ev w 1 s (dictEntries d part) l.toArray s := by
  unfold dictEntries
  exact Ev.mono (Ev.bind (Ev.load hd) (Ev.pure _)) (Nat.le_refl _)
theorem Ev.epoch {s : Shared} {d : Addr} {l : List DictEntry} {n : Nat} {part : Option Value} (hd : s.heap.get? d = some (dObj l n)) : Ev w 1 s (dictEpoch d part) n s := by
  unfold dictEpoch
  exact Ev.mono (Ev.bind (Ev.load hd) (Ev.pure _)) (Nat.le_refl _)
theorem places_none {l : List DictEntry} {h : Int} (hn : ∀ e ∈ l, e.hash ≠ h) : placesWithHash l.toArray.size (fun i => l.toArray[i]?.map (·.hash)) h = [] := by
  unfold placesWithHash
  rw [List.filter_eq_nil_iff]
  intro i hi
  have hi : i < l.length := by simpa using hi
  have : (l.toArray[i]?.map (·.hash)) = some (l[i].hash) := by simp [hi]
  show ¬ ((l.toArray[i]?.map (·.hash)) == some h) = true
  rw [this]
  simp only [beq_iff_eq, Option.some.injEq]
  exact hn _ (List.getElem_mem hi)
theorem Ev.find {s : Shared} {d : Addr} {l : List DictEntry} {n : Nat} {k : Int} {t : Tok} {h : Int} (hd : s.heap.get? d = some (dObj l n)) (hn : ∀ e ∈ l, e.hash ≠ h) : Ev w 1 s (dictFind d (.int k t) h) none s := by
  unfold dictFind
  refine Ev.holding _ (Ev.mono (Ev.bind (n₂ := 0) (Ev.entries hd) ?_) (Nat.le_refl _))
  dsimp only
  rw [places_none hn]
  exact Ev.pure _
theorem Ev.put {s : Shared} {d : Addr} {l : List DictEntry} {n : Nat} {k : Int} {t : Tok} {h : Int} {v : Value} (hd : s.heap.get? d = some (dObj l n)) (hb : Nat.ble 28 d = true) (hn : ∀ e ∈ l, e.hash ≠ h) (hz : l.length < sizeLine) :
    Ev w 4 s (dictPut d h (.int k t) v) () { s with heap := s.heap.update d (Obj.mapDictKeys (·.push ⟨h, .int k t, v⟩)) } := by
  unfold dictPut
  refine Ev.mono (Ev.bind (n₂ := 3) (Ev.find hd hn) ?_) (Nat.le_refl _)
  dsimp only
  unfold updateDictKeys
  refine Ev.mono (Ev.bind (n₂ := 2) (Ev.load hd) ?_) (Nat.le_refl _)
  dsimp only
  refine Ev.mono (Ev.bind (n₁ := 1) (n₂ := 1) (s₁ := { s with heap := s.heap.update d (Obj.mapDictKeys (·.push ⟨h, .int k t, v⟩)) }) (a := ()) (Ev.updateK hd hb (Ev.pure ())) ?_) (Nat.le_refl _)
  unfold lookBehind
  refine Ev.mono (Ev.bind (n₂ := 0) (Ev.load (o := Obj.mapDictKeys (·.push ⟨h, .int k t, v⟩) (dObj l n)) (Heap.get?_update_self _ hd rfl)) ?_) (Nat.le_refl _)
  have hz' : (Obj.mapDictKeys (·.push ⟨h, .int k t, v⟩) (dObj l n)).data.pastItsLine = none := by
    show (if (l.toArray.push ⟨h, .int k t, v⟩).size > sizeLine + 1 then some "dict:memory" else none) = none
    rw [if_neg (by simp; omega)]
  rw [hz']
  exact Ev.pure _
theorem push_dObj (e : DictEntry) (l : List DictEntry) (n : Nat) : Obj.mapDictKeys (·.push e) (dObj l n) = dObj (l ++ [e]) (n + 1) := by
  show (⟨.type "dict", none, .dict (l.toArray.push e) (n + 1), #[]⟩ : Obj) = _
  simp
/-- the heap behind the first i entries -/
noncomputable def fed (d : Addr) (sub : List DictEntry) (h : Heap) : Heap := sub.foldl (fun h e => h.update d (Obj.mapDictKeys (·.push e))) h
theorem fed_at {d : Addr} : ∀ {sub l : List DictEntry} {n : Nat} {h : Heap}, h.get? d = some (dObj l n) → (fed d sub h).get? d = some (dObj (l ++ sub) (n + sub.length))
  | [], l, n, h, hd => by simpa [fed] using hd
  | e :: sub, l, n, h, hd => by
    have := fed_at (sub := sub) (l := l ++ [e]) (n := n + 1) (h := h.update d (Obj.mapDictKeys (·.push e))) (by rw [Heap.get?_update_self _ hd rfl, push_dObj])
    show (fed d sub _).get? d = _
    rw [this, List.append_assoc, List.length_cons, show n + 1 + sub.length = n + (sub.length + 1) by omega]
    rfl
theorem fed_ne {d a : Addr} (ha : a ≠ d) : ∀ {sub : List DictEntry} {h : Heap}, (fed d sub h).get? a = h.get? a
  | [], h => rfl
  | e :: sub, h => by
    show (fed d sub _).get? a = _
    rw [fed_ne ha, Heap.get?_update_ne _ _ _ _ ha]
theorem fed_snoc (d : Addr) (sub : List DictEntry) (e : DictEntry) (h : Heap) : fed d (sub ++ [e]) h = (fed d sub h).update d (Obj.mapDictKeys (·.push e)) := by
  simp [fed]
theorem Ev.forIn' {γ : Type} {s s' : Shared} {body : γ → PUnit → Sem (ForInStep PUnit)} {l : List γ} (st : Nat → Shared) (e0 : s = st 0) (e1 : s' = st l.length)
    {n : Nat} (h : ∀ i (hi : i < l.length), Ev w n (st i) (body l[i] ⟨⟩) (.yield ⟨⟩) (st (i + 1))) : Ev w (l.length * n) s (forIn l (⟨⟩ : PUnit) body) ⟨⟩ s' := by
  have := Ev.forIn_list body l st 0 (fun i hi => by rw [Nat.zero_add]; exact h i hi)
  rw [Nat.zero_add] at this
  rw [e0, e1]; exact this
/-- a dict of ints' own entries -/
noncomputable def IntKeys (l : List DictEntry) : Prop := ∀ e ∈ l, ∃ t, e.key = .int e.hash t
noncomputable def Apart (l : List DictEntry) : Prop := (l.map (·.hash)).Nodup
theorem is_dict {s : Shared} {a : Addr} {l : List DictEntry} {n : Nat} (ha : s.heap.get? a = some (dObj l n)) : Ev w 1 s (isInstance (.ref a) (.type "dict")) true s := by
  unfold isInstance typeOf
  refine Ev.mono (Ev.bind (n₂ := 0) (Ev.bind (Ev.load ha) (Ev.pure _)) ?_) (Nat.le_refl _)
  have e : isSubtype (dObj l n).cls (.type "dict") = pure true := by
    show isSubtype (.type "dict") (.type "dict") = pure true
    kernel_rfl
  rw [e]
  exact Ev.pure _
theorem iter_dict {s : Shared} {a : Addr} {l : List DictEntry} {n : Nat} (ha : s.heap.get? a = some (dObj l n)) : Ev w 1 s (specialOf (.ref a) "__iter__") (some (.builtin "dict.__iter__")) s := by
  unfold specialOf typeOf
  refine Ev.mono (Ev.bind (n₂ := 0) (Ev.bind (Ev.load ha) (Ev.pure _)) ?_) (Nat.le_refl _)
  have e : typeLookup (dObj l n).cls "__iter__" = pure (some (.builtin "dict.__iter__")) := by
    show typeLookup (.type "dict") "__iter__" = pure _
    kernel_rfl
  rw [e]
  exact Ev.pure _
theorem Ev.merge {s : Shared} {d a : Addr} {l sub : List DictEntry} {n m : Nat} (hd : s.heap.get? d = some (dObj l n)) (ha : s.heap.get? a = some (dObj sub m)) (hb : Nat.ble 28 d = true) (hne : a ≠ d) (hs : (a == sysModules) = false) (hl : l ≠ [])
    (hk : IntKeys sub) (hx : Apart (l ++ sub)) (hz : (l ++ sub).length < sizeLine) :
    Ev w (5 + sub.length * 6) s (mergeMapping d (.ref a) false) () { s with heap := fed d sub s.heap } := by
  unfold mergeMapping
  refine Ev.mono (Ev.bind (n₂ := 4 + sub.length * 6) (is_dict ha) ?_) (by omega)
  dsimp only
  rw [if_pos rfl]
  refine Ev.mono (Ev.bind (n₂ := 3 + sub.length * 6) (iter_dict ha) ?_) (by omega)
  simp only [beq_self_eq_true]
  refine Ev.mono (Ev.bind (n₂ := 3 + sub.length * 6) (Ev.pure _) ?_) (by omega)
  dsimp only
  rw [if_neg (by rw [hs]; exact Bool.false_ne_true)]
  refine Ev.mono (Ev.bind (n₂ := 2 + sub.length * 6) (Ev.entries hd) ?_) (by omega)
  rw [if_neg (by cases l with | nil => exact absurd rfl hl | cons => simp)]
  refine Ev.mono (Ev.bind (n₂ := 1 + sub.length * 6) (Ev.entries ha) ?_) (by omega)
  refine Ev.mono (Ev.bind (n₂ := sub.length * 6) (Ev.epoch ha) ?_) (by omega)
  refine Ev.mono (Ev.bind (a := ⟨⟩) (s₁ := { s with heap := fed d sub s.heap }) (n₁ := sub.length * 6) ?_ (Ev.pure _)) (by omega)
  refine Ev.mono (n := (List.range sub.toArray.size).length * 6) ?_ (by simp)
  refine Ev.forIn' (fun i => { s with heap := fed d (sub.take i) s.heap }) (by simp [fed]) (by simp) ?_
  intro i hi
  have hi' : i < sub.length := by simpa using hi
  simp only [List.getElem_range]
  have a1 : (fed d (sub.take i) s.heap).get? a = some (dObj sub m) := by rw [fed_ne hne]; exact ha
  have a2 : (fed d (sub.take (i + 1)) s.heap).get? a = some (dObj sub m) := by rw [fed_ne hne]; exact ha
  refine Ev.mono (Ev.bind (n₂ := 5) (Ev.entries a1) ?_) (Nat.le_refl _)
  have e1 : sub.toArray[i]? = some sub[i] := by simp [hi']
  rw [e1]
  dsimp only
  obtain ⟨t, ht⟩ := hk _ (List.getElem_mem hi')
  refine Ev.mono (Ev.bind (a := ()) (n₁ := 4) (n₂ := 1) (s₁ := { s with heap := fed d (sub.take (i + 1)) s.heap }) (Ev.holding _ ?_) ?_) (Nat.le_refl _)
  · rw [if_neg Bool.false_ne_true]
    have d1 : (fed d (sub.take i) s.heap).get? d = some (dObj (l ++ sub.take i) (n + (sub.take i).length)) := fed_at hd
    have p := Ev.put (w := w) (s := { s with heap := fed d (sub.take i) s.heap }) (k := sub[i].hash) (t := t) (h := sub[i].hash) (v := sub[i].val) d1 hb ?_ ?_
    · rw [ht]
      rw [List.take_succ_eq_append_getElem hi', fed_snoc]
      have e2 : sub[i] = ⟨sub[i].hash, .int sub[i].hash t, sub[i].val⟩ := by rw [← ht]
      rw [← e2] at p
      exact p
    · intro e he q
      have : (l ++ sub).map (·.hash) = (l ++ sub.take i).map (·.hash) ++ (sub[i].hash :: (sub.drop (i + 1)).map (·.hash)) := by
        rw [← List.map_cons, List.getElem_cons_drop, ← List.map_append, List.append_assoc, List.take_append_drop]
      unfold Apart at hx
      rw [this, List.nodup_append] at hx
      exact hx.2.2 _ (List.mem_map_of_mem he) _ (List.mem_cons_self ..) q
    · have : (l ++ sub.take i).length ≤ (l ++ sub).length := by simp; omega
      omega
  · refine Ev.mono (Ev.bind (n₂ := 0) (Ev.epoch a2) ?_) (Nat.le_refl _)
    rw [if_neg (by simp)]
    exact Ev.pure _
end
end Mine
end
section
open PySem PySem.W PyProof.Rows
namespace Mine
noncomputable def bEnv : Env := { scope := pw.main.scope, locals := mainNs, globals := mainNs, cells := [], code := .ref 30, frame := some 31 }
noncomputable abbrev bCode : Code := .body (behindTheImports pw) bEnv
noncomputable abbrev p0 : Pos := ⟨0, 0, 0, 0⟩
noncomputable abbrev sh (T : Params → BT) (n toks : Nat) (w : World) (os : OsState) : SharedT := ⟨T w.params, n, {}, #[], {}, toks, os⟩
noncomputable abbrev qRun := @PySem.W.Fast.tw10110043849684766642
theorem qRun_eq : @segRunT = @qRun := PySem.W.Fast.te10110043849684766642
noncomputable abbrev qTab := @PySem.W.Fast.tw14364793385576792824
theorem qTab_eq : @treeTable = @qTab := PySem.W.Fast.te14364793385576792824
noncomputable abbrev qExecs := @PySem.W.Fast.tw12563942051412417395
theorem qExecs_eq : @execs = @qExecs := PySem.W.Fast.te12563942051412417395
noncomputable abbrev qEval := @PySem.W.Fast.tw14044960220447912780
theorem qEval_eq : @eval = @qEval := PySem.W.Fast.te14044960220447912780
noncomputable abbrev qSub := @PySem.W.Fast.tw11913375310210876947
theorem qSub_eq : @subDict = @qSub := PySem.W.Fast.te11913375310210876947
/-! the display of b3_exceptions -/
noncomputable def b3T : List PySem.Expr := match stm 14 with | .Assign t _ _ => t | _ => []
noncomputable def b3K : List (Option PySem.Expr) := match stm 14 with | .Assign _ (.Dict k _ _) _ => k | _ => []
noncomputable def b3V : List PySem.Expr := match stm 14 with | .Assign _ (.Dict _ v _) _ => v | _ => []
noncomputable abbrev dPos : Pos := ⟨36, 16, 36, 8704⟩
noncomputable abbrev aPos : Pos := ⟨36, 0, 36, 8704⟩
theorem stm14_eq : stm 14 = .Assign b3T (.Dict b3K b3V dPos) aPos := by kernel_rfl
/-- the pairs of a display, as what evaluates them -/
noncomputable def itemsBy (ev : PySem.Expr → Env → Sem Value) : List (Option PySem.Expr) → List PySem.Expr → List Pair
  | some k :: ks, v :: vs => (ev k bEnv, ev v bEnv >>= fun x => standAt dPos >>= fun _ => pure x) :: itemsBy ev ks vs
  | _, _ => []
noncomputable def rest (ev : PySem.Expr → Env → Sem Value) (j : Nat) : List Pair := itemsBy ev (b3K.drop (17 * j)) (b3V.drop (17 * j))
noncomputable def chunk (ev : PySem.Expr → Env → Sem Value) (j : Nat) : List Pair := itemsBy ev ((b3K.drop (17 * j)).take 17) ((b3V.drop (17 * j)).take 17)
theorem items_eq (env : Env) (henv : env = bEnv) : ∀ (ks : List (Option PySem.Expr)) (vs : List PySem.Expr), ks.all Option.isSome = true →
    (evalEachOpt ks env).zip ((evalEach vs env).map fun v => do let x ← v; standAt dPos; pure x) = (itemsBy eval ks vs).map fun p => (some p.1, p.2)
  | [], _, _ => by cases ‹List PySem.Expr› <;> rfl
  | some k :: ks, [], _ => rfl
  | some k :: ks, v :: vs, h => by
    subst henv
    have ih := items_eq bEnv rfl ks vs (by simpa using h)
    show (evalOpt (some k) bEnv, _) :: List.zip _ _ = _ :: List.map _ _
    rw [ih]
    rfl
  | none :: ks, _, h => by simp at h
theorem items_split (ev : PySem.Expr → Env → Sem Value) : ∀ (n : Nat) (ks : List (Option PySem.Expr)) (vs : List PySem.Expr), ks.all Option.isSome = true → ks.length = vs.length →
    itemsBy ev ks vs = itemsBy ev (ks.take n) (vs.take n) ++ itemsBy ev (ks.drop n) (vs.drop n)
  | 0, ks, vs, _, _ => by simp [itemsBy]
  | n + 1, [], vs, _, _ => by simp [itemsBy]
  | n + 1, some k :: ks, [], _, h => by simp at h
  | n + 1, some k :: ks, v :: vs, h, hl => by
    simp only [List.take_succ_cons, List.drop_succ_cons, itemsBy, List.cons_append]
    rw [items_split ev n ks vs (by simpa using h) (by simpa using hl)]
  | n + 1, none :: ks, _, h, _ => by simp at h
theorem b3K_some : b3K.all Option.isSome = true := by kernel_rfl
theorem b3K_len : b3K.length = 650 := by kernel_rfl
theorem b3V_len : b3V.length = 650 := by kernel_rfl
theorem rest_split (ev : PySem.Expr → Env → Sem Value) (j : Nat) : rest ev j = chunk ev j ++ rest ev (j + 1) := by
  unfold rest chunk
  rw [items_split ev 17 _ _ (by rw [List.all_eq_true]; intro x hx; exact List.all_eq_true.mp b3K_some x (List.mem_of_mem_drop hx)) (by rw [List.length_drop, List.length_drop, b3K_len, b3V_len]), List.drop_drop, List.drop_drop]
  rfl
theorem items_len (ev : PySem.Expr → Env → Sem Value) : ∀ (ks : List (Option PySem.Expr)) (vs : List PySem.Expr), ks.all Option.isSome = true → ks.length = vs.length → (itemsBy ev ks vs).length = ks.length
  | [], vs, _, _ => by simp [itemsBy]
  | some k :: ks, [], _, h => by simp at h
  | some k :: ks, v :: vs, h, hl => by simp only [itemsBy, List.length_cons]; rw [items_len ev ks vs (by simpa using h) (by simpa using hl)]
  | none :: ks, _, h, _ => by simp at h
theorem chunk_len (ev : PySem.Expr → Env → Sem Value) (j : Nat) (h : j < 38) : (chunk ev j).length = 17 := by
  unfold chunk
  rw [items_len]
  · rw [List.length_take, List.length_drop, b3K_len]; omega
  · rw [List.all_eq_true]; intro x hx; exact List.all_eq_true.mp b3K_some x (List.mem_of_mem_drop (List.mem_of_mem_take hx))
  · rw [List.length_take, List.length_drop, List.length_take, List.length_drop, b3K_len, b3V_len]
/-! the dict as it grows -/
noncomputable def fedT (d : Addr) (sub : List DictEntry) (t : BT) : BT := sub.foldl (fun t e => t.set d (Obj.mapDictKeys (·.push e))) t
noncomputable def subL (j n : Nat) : List DictEntry := (b3Entries.drop (17 * j)).take n
theorem fedT_heap {d n : Nat} {life : Life} : ∀ (sub : List DictEntry) (t : BT), (t.get d).isSome = true → fed d sub (absHeap t n life) = absHeap (fedT d sub t) n life
  | [], t, _ => rfl
  | e :: sub, t, h => by
    obtain ⟨o, ho⟩ := Option.isSome_iff_exists.mp h
    show fed d sub ((absHeap t n life).update d _) = absHeap (fedT d sub (t.set d _)) n life
    rw [← absHeap_set ho]
    refine fedT_heap sub _ ?_
    rw [BT.get_set, if_pos rfl, ho]; rfl
/-- strictly rising -/
noncomputable def rising : Int → List DictEntry → Bool
  | _, [] => true
  | k, e :: r => decide (k < e.hash) && rising e.hash r
theorem rising_lt : ∀ {k : Int} {l : List DictEntry}, rising k l = true → ∀ e ∈ l, k < e.hash
  | _, [], _, _, he => nomatch he
  | k, a :: l, h, e, he => by
    obtain ⟨h1, h2⟩ := Bool.and_eq_true_iff.mp h
    have h1 := of_decide_eq_true h1
    rcases List.mem_cons.mp he with rfl | he
    · exact h1
    · exact Int.lt_trans h1 (rising_lt h2 e he)
theorem rising_apart : ∀ {k : Int} {l : List DictEntry}, rising k l = true → Apart l
  | _, [], _ => List.nodup_nil
  | k, a :: l, h => by
    obtain ⟨h1, h2⟩ := Bool.and_eq_true_iff.mp h
    refine List.nodup_cons.mpr ⟨fun hm => ?_, rising_apart h2⟩
    obtain ⟨e, he, q⟩ := List.mem_map.mp hm
    exact absurd q (Ne.symm (Int.ne_of_lt (rising_lt h2 e he)))
theorem b3_rising : rising 0 b3Entries = true := by kernel_rfl
theorem b3_apart (n : Nat) : Apart (b3Entries.take n) := by
  have h := rising_apart b3_rising
  unfold Apart at h ⊢
  rw [List.map_take]
  exact h.sublist (List.take_sublist _ _)
theorem b3Ent_key (i : Nat) (p : Int × Str) : ∃ t, (b3Ent i p).key = .int (b3Ent i p).hash t := ⟨_, rfl⟩
theorem b3_keys : ∀ (i : Nat) (l : List (Int × Str)), IntKeys (b3From i l)
  | _, [], e, he => nomatch he
  | i, p :: l, e, he => by
    rcases List.mem_cons.mp he with rfl | he
    · exact b3Ent_key i p
    · exact b3_keys (i + 1) l e he
theorem sub_keys (j n : Nat) : IntKeys (subL j n) := fun e he => b3_keys 0 b3Pairs e (List.mem_of_mem_drop (List.mem_of_mem_take he))
theorem b3Entries_len : b3Entries.length = 650 := by kernel_rfl
/-- one chunk, from the state behind the one before to the state behind it -/
theorem put_run {w : World} {os : OsState} {T C D : Params → BT} {n tk m toks toks' j cnt : Nat} {N : Nat} {r : Shared} {K : Option Addr → Sem Fin} {H : Value → Sem Fin} {c : List Pair}
    (hsub : segRunT treeTable pw w 28 (some (.ref 6)) 1 n (sh T (111 + j) toks w os) ⟨(holding [.ref 111] (subDict c)).wrap (fun a => .pure (.done (.ret (.ref a)))) deadEnd id id, bCode, dPos, [topFrame p0]⟩ =
      some (.ret (.ref (111 + j)), sh C (112 + j) toks' w os, bCode, dPos)) (hc : c.isEmpty = false)
    (h1 : (C w.params).get 111 = some (b3Dict (17 * j))) (h2 : (C w.params).get (111 + j) = some (b3Sub j cnt)) (hj : 1 ≤ j) (hn : 17 * j + (subL j cnt).length ≤ 650) (hD : fedT 111 (subL j cnt) (C w.params) = D w.params)
    (k : tRun w N (sh D (112 + j) toks' w os).abs ⟨K (some 111), bCode, dPos, [topFrame p0]⟩ = some r) :
    tRun w (n + ((5 + (subL j cnt).length * 6) + N)) (sh T (111 + j) toks w os).abs ⟨(putRun c (some 111)).wrap K H id id, bCode, dPos, [topFrame p0]⟩ = some r := by
  unfold putRun
  rw [hc]
  dsimp only
  rw [if_neg Bool.false_ne_true]
  refine go_bind (res := fun a => .ret (.ref a)) (segRun_of hsub) (fun a e => by injection e with e; injection e) ?_
  have g1 : (absHeap (C w.params) (112 + j) {}).get? 111 = some (dObj (b3Entries.take (17 * j)) (17 * j)) := abs_get (by omega) h1
  have g2 : (absHeap (C w.params) (112 + j) {}).get? (111 + j) = some (dObj (subL j cnt) cnt) := abs_get (by omega) h2
  have ev := Ev.merge (w := w) (s := (sh C (112 + j) toks' w os).abs) g1 g2 rfl (by show ¬ ((111 + j : Nat) = 111); omega) (by
      show ((111 + j : Nat) == sysModules) = false
      refine beq_eq_false_iff_ne.mpr ?_
      show ¬ (111 + j = 1)
      omega) (by
      intro e
      have := congrArg List.length e
      rw [List.length_take, b3Entries_len] at this
      simp at this; omega) (sub_keys j cnt) (by
      have e : b3Entries.take (17 * j) ++ subL j cnt = b3Entries.take (17 * j + (subL j cnt).length) := by
        rw [List.take_add]
        congr 1
        unfold subL
        rw [List.length_take, List.take_eq_take_iff]
        simp
      rw [e]
      exact b3_apart _) (by
      rw [List.length_append, List.length_take, b3Entries_len]
      unfold sizeLine
      omega)
  have ev2 := Ev.onRaise (fun x => holding [.ref 111, x] (runValue (.builtin "proto.let_go" {})) >>= fun _ => pure ()) (Ev.holding [.ref 111, .ref (111 + j)] ev)
  have ev3 := Ev.bind (f := fun _ => pure (some 111 : Option Addr)) ev2 (Ev.pure (some 111 : Option Addr))
  refine ev3 K H id id bCode dPos [topFrame p0] N r ?_
  show tRun w N { (sh C (112 + j) toks' w os).abs with heap := fed 111 (subL j cnt) (absHeap (C w.params) (112 + j) {}) } _ = some r
  rw [fedT_heap _ _ (by rw [h1]; rfl), hD]
  exact k
noncomputable abbrev subTh (w : World) (x : Sem Addr) : Thread := ⟨x.wrap (fun a => .pure (.done (.ret (.ref a)))) deadEnd id id, bCode, dPos, [topFrame p0]⟩
noncomputable def SubEq (T C : Params → BT) (j toks toks' : Nat) (w : World) (os : OsState) : Prop :=
  segRunT treeTable pw w 28 (some (.ref 6)) 1 224 (sh T (111 + j) toks w os) ⟨(holding [.ref 111] (subDict (chunk eval j))).wrap (fun a => .pure (.done (.ret (.ref a)))) deadEnd id id, bCode, dPos, [topFrame p0]⟩ = some (.ret (.ref (111 + j)), sh C (112 + j) toks' w os, bCode, dPos)
noncomputable def SubEqQ (T C : Params → BT) (j toks toks' : Nat) (w : World) (os : OsState) : Prop :=
  qRun qTab pw w 28 (some (.ref 6)) 1 224 (sh T (111 + j) toks w os) ⟨(holding [.ref 111] (qSub (chunk qEval j))).wrap (fun a => .pure (.done (.ret (.ref a)))) deadEnd id id, bCode, dPos, [topFrame p0]⟩ = some (.ret (.ref (111 + j)), sh C (112 + j) toks' w os, bCode, dPos)
theorem SubEq.of {T C : Params → BT} {j toks toks' : Nat} (hf : ∀ (w : World) os, SubEqQ T C j toks toks' (w.withFollow "special-get-raises" false) os) (ht : ∀ (w : World) os, SubEqQ T C j toks toks' (w.withFollow "special-get-raises" true) os)
    (w : World) (os : OsState) : SubEq T C j toks toks' w os := by
  have h := byRow2 "special-get-raises" (P := fun w => ∀ os, SubEqQ T C j toks toks' w os) hf ht w os
  unfold SubEq
  rw [qRun_eq, qTab_eq, qSub_eq, qEval_eq]
  exact h
theorem chunk_step {w : World} {os : OsState} {T C D : Params → BT} {toks toks' j : Nat} {N : Nat} {r : Shared} {F : Value → Sem Flow} {K : Flow → Sem Fin} {H : Value → Sem Fin}
    (hsub : SubEq T C j toks toks' w os) (h1 : (C w.params).get 111 = some (b3Dict (17 * j))) (h2 : (C w.params).get (111 + j) = some (b3Sub j 17)) (hj : 1 ≤ j ∧ j < 38) (hl : (subL j 17).length = 17)
    (hD : fedT 111 (subL j 17) (C w.params) = D w.params)
    (k : tRun w N (sh D (112 + j) toks' w os).abs ⟨(dLoop (rest eval (j + 1)) (some 111) [] >>= F).wrap K H id id, bCode, dPos, [topFrame p0]⟩ = some r) :
    tRun w (331 + N) (sh T (111 + j) toks w os).abs ⟨(dLoop (rest eval j) (some 111) [] >>= F).wrap K H id id, bCode, dPos, [topFrame p0]⟩ = some r := by
  rw [rest_split, dLoop_chunk _ _ _ (chunk_len eval j hj.2), bind_assoc, Sem.bind_eq_wrap', Sem.wrap_wrap]
  have p := put_run (tk := 0) (m := 0) (K := fun a => (dLoop (rest eval (j + 1)) a [] >>= F).wrap K H id id) (H := H) hsub (by
    have := chunk_len eval j hj.2
    cases hc : chunk eval j with
    | nil => rw [hc] at this; cases this
    | cons => rfl) h1 h2 hj.1 (by omega) hD k
  rw [hl] at p
  have e : 224 + (5 + 17 * 6 + N) = 331 + N := by omega
  rw [e] at p
  exact p
theorem chunk_last {w : World} {os : OsState} {T C D : Params → BT} {toks toks' : Nat} {N : Nat} {r : Shared} {F : Value → Sem Flow} {K : Flow → Sem Fin} {H : Value → Sem Fin}
    (hsub : SubEq T C 38 toks toks' w os) (h1 : (C w.params).get 111 = some (b3Dict 646)) (h2 : (C w.params).get 149 = some (b3Sub 38 4)) (hl : (subL 38 4).length = 4)
    (hD : fedT 111 (subL 38 4) (C w.params) = D w.params)
    (k : tRun w N (sh D 150 toks' w os).abs ⟨(F (.ref 111)).wrap K H id id, bCode, dPos, [topFrame p0]⟩ = some r) :
    tRun w (253 + N) (sh T 149 toks w os).abs ⟨(dLoop (rest eval 38) (some 111) [] >>= F).wrap K H id id, bCode, dPos, [topFrame p0]⟩ = some r := by
  have e39 : rest eval 39 = [] := by
    unfold rest
    rw [List.drop_eq_nil_of_le (by rw [b3K_len]; decide)]
    rfl
  have e38 : rest eval 38 = chunk eval 38 := by rw [rest_split, e39, List.append_nil]
  have l38 : (chunk eval 38).length = 4 := by
    unfold chunk
    rw [items_len]
    · rw [List.length_take, List.length_drop, b3K_len]; rfl
    · rw [List.all_eq_true]; intro x hx; exact List.all_eq_true.mp b3K_some x (List.mem_of_mem_drop (List.mem_of_mem_take hx))
    · rw [List.length_take, List.length_drop, List.length_take, List.length_drop, b3K_len, b3V_len]
  rw [e38, dLoop_end _ _ _ (by rw [l38]; decide), List.nil_append, bind_assoc, Sem.bind_eq_wrap', Sem.wrap_wrap]
  have p := put_run (tk := 0) (m := 0) (j := 38) (cnt := 4) (K := fun a => ((match a with | some d => pure (.ref d) | none => newDict) >>= F).wrap K H id id) (H := H) hsub (by
    cases hc : chunk eval 38 with
    | nil => rw [hc] at l38; cases l38
    | cons => rfl) h1 h2 (by decide) (by rw [hl]; decide) hD k
  rw [hl] at p
  have e : 224 + (5 + 4 * 6 + N) = 253 + N := by omega
  rw [e] at p
  exact p
noncomputable def B_0 (P : Params) : BT := (.node (o0s P) (.node (o1s P) (.node (o3_13 P) (.node (o7s P) (.node (o15s P) (.node (o31p P) (.node (o63_4 P) .nil .nil) (.node (o95_12 P) .nil .nil)) (.node (o47_3 P) (.node (o79_7 P) .nil .nil) (.node (b3Dict 17) .nil .nil))) (.node (o23s P) (.node (o39_2 P) (.node (o71_5 P) .nil .nil) (.node (o103_12 P) .nil .nil)) (.node (o55_3 P) (.node (o87_10 P) .nil .nil) .nil))) (.node (o11s P) (.node (o19s P) (.node (o35_2 P) (.node (o67_4 P) .nil .nil) (.node (o99_12 P) .nil .nil)) (.node (o51_3 P) (.node (o83_8 P) .nil .nil) .nil)) (.node (o27s P) (.node (o43_2 P) (.node (o75_5 P) .nil .nil) (.node (o107_13 P) .nil .nil)) (.node (o59_4 P) (.node (o91_10 P) .nil .nil) .nil)))) (.node (o5s P) (.node (o9s P) (.node (o17s P) (.node (o33_2 P) (.node (o65_4 P) .nil .nil) (.node (o97_12 P) .nil .nil)) (.node (o49_3 P) (.node (o81_8 P) .nil .nil) .nil)) (.node (o25s P) (.node (o41_4 P) (.node (o73_5 P) .nil .nil) (.node (o105_13 P) .nil .nil)) (.node (o57_4 P) (.node (o89_10 P) .nil .nil) .nil))) (.node (o13s P) (.node (o21s P) (.node (o37_2 P) (.node (o69_5 P) .nil .nil) (.node (o101_12 P) .nil .nil)) (.node (o53_3 P) (.node (o85_8 P) .nil .nil) .nil)) (.node (o29_13 P) (.node (o45_3 P) (.node (o77_7 P) .nil .nil) (.node (o109_13 P) .nil .nil)) (.node (o61_4 P) (.node (o93_12 P) .nil .nil) .nil))))) (.node (o2_2 P) (.node (o4s P) (.node (o8s P) (.node (o16s P) (.node (o32_2 P) (.node (o64_4 P) .nil .nil) (.node (o96_12 P) .nil .nil)) (.node (o48_3 P) (.node (o80_7 P) .nil .nil) .nil)) (.node (o24s P) (.node (o40_2 P) (.node (o72_5 P) .nil .nil) (.node (o104_13 P) .nil .nil)) (.node (o56_3 P) (.node (o88_10 P) .nil .nil) .nil))) (.node (o12s P) (.node (o20s P) (.node (o36_2 P) (.node (o68_4 P) .nil .nil) (.node (o100_12 P) .nil .nil)) (.node (o52_3 P) (.node (o84_8 P) .nil .nil) .nil)) (.node (o28p P) (.node (o44_2 P) (.node (o76_7 P) .nil .nil) (.node (o108_13 P) .nil .nil)) (.node (o60_4 P) (.node (o92_10 P) .nil .nil) .nil)))) (.node (o6s P) (.node (o10s P) (.node (o18s P) (.node (o34_2 P) (.node (o66_4 P) .nil .nil) (.node (o98_12 P) .nil .nil)) (.node (o50_3 P) (.node (o82_8 P) .nil .nil) .nil)) (.node (o26s P) (.node (o42_2 P) (.node (o74_5 P) .nil .nil) (.node (o106_13 P) .nil .nil)) (.node (o58_4 P) (.node (o90_10 P) .nil .nil) .nil))) (.node (o14s P) (.node (o22s P) (.node (o38_2 P) (.node (o70_5 P) .nil .nil) (.node (o102_12 P) .nil .nil)) (.node (o54_3 P) (.node (o86_10 P) .nil .nil) .nil)) (.node (o30p P) (.node (o46_3 P) (.node (o78_7 P) .nil .nil) (.node (o110_13 P) .nil .nil)) (.node (o62_4 P) (.node (o94_12 P) .nil .nil) .nil))))))
noncomputable def B_1 (P : Params) : BT := (.node (o0s P) (.node (o1s P) (.node (o3_13 P) (.node (o7s P) (.node (o15s P) (.node (o31p P) (.node (o63_4 P) .nil .nil) (.node (o95_12 P) .nil .nil)) (.node (o47_3 P) (.node (o79_7 P) .nil .nil) (.node (b3Dict 34) .nil .nil))) (.node (o23s P) (.node (o39_2 P) (.node (o71_5 P) .nil .nil) (.node (o103_12 P) .nil .nil)) (.node (o55_3 P) (.node (o87_10 P) .nil .nil) .nil))) (.node (o11s P) (.node (o19s P) (.node (o35_2 P) (.node (o67_4 P) .nil .nil) (.node (o99_12 P) .nil .nil)) (.node (o51_3 P) (.node (o83_8 P) .nil .nil) .nil)) (.node (o27s P) (.node (o43_2 P) (.node (o75_5 P) .nil .nil) (.node (o107_13 P) .nil .nil)) (.node (o59_4 P) (.node (o91_10 P) .nil .nil) .nil)))) (.node (o5s P) (.node (o9s P) (.node (o17s P) (.node (o33_2 P) (.node (o65_4 P) .nil .nil) (.node (o97_12 P) .nil .nil)) (.node (o49_3 P) (.node (o81_8 P) .nil .nil) .nil)) (.node (o25s P) (.node (o41_4 P) (.node (o73_5 P) .nil .nil) (.node (o105_13 P) .nil .nil)) (.node (o57_4 P) (.node (o89_10 P) .nil .nil) .nil))) (.node (o13s P) (.node (o21s P) (.node (o37_2 P) (.node (o69_5 P) .nil .nil) (.node (o101_12 P) .nil .nil)) (.node (o53_3 P) (.node (o85_8 P) .nil .nil) .nil)) (.node (o29_13 P) (.node (o45_3 P) (.node (o77_7 P) .nil .nil) (.node (o109_13 P) .nil .nil)) (.node (o61_4 P) (.node (o93_12 P) .nil .nil) .nil))))) (.node (o2_2 P) (.node (o4s P) (.node (o8s P) (.node (o16s P) (.node (o32_2 P) (.node (o64_4 P) .nil .nil) (.node (o96_12 P) .nil .nil)) (.node (o48_3 P) (.node (o80_7 P) .nil .nil) (.node (b3Sub 1 17) .nil .nil))) (.node (o24s P) (.node (o40_2 P) (.node (o72_5 P) .nil .nil) (.node (o104_13 P) .nil .nil)) (.node (o56_3 P) (.node (o88_10 P) .nil .nil) .nil))) (.node (o12s P) (.node (o20s P) (.node (o36_2 P) (.node (o68_4 P) .nil .nil) (.node (o100_12 P) .nil .nil)) (.node (o52_3 P) (.node (o84_8 P) .nil .nil) .nil)) (.node (o28p P) (.node (o44_2 P) (.node (o76_7 P) .nil .nil) (.node (o108_13 P) .nil .nil)) (.node (o60_4 P) (.node (o92_10 P) .nil .nil) .nil)))) (.node (o6s P) (.node (o10s P) (.node (o18s P) (.node (o34_2 P) (.node (o66_4 P) .nil .nil) (.node (o98_12 P) .nil .nil)) (.node (o50_3 P) (.node (o82_8 P) .nil .nil) .nil)) (.node (o26s P) (.node (o42_2 P) (.node (o74_5 P) .nil .nil) (.node (o106_13 P) .nil .nil)) (.node (o58_4 P) (.node (o90_10 P) .nil .nil) .nil))) (.node (o14s P) (.node (o22s P) (.node (o38_2 P) (.node (o70_5 P) .nil .nil) (.node (o102_12 P) .nil .nil)) (.node (o54_3 P) (.node (o86_10 P) .nil .nil) .nil)) (.node (o30p P) (.node (o46_3 P) (.node (o78_7 P) .nil .nil) (.node (o110_13 P) .nil .nil)) (.node (o62_4 P) (.node (o94_12 P) .nil .nil) .nil))))))
noncomputable def B_2 (P : Params) : BT := (.node (o0s P) (.node (o1s P) (.node (o3_13 P) (.node (o7s P) (.node (o15s P) (.node (o31p P) (.node (o63_4 P) .nil .nil) (.node (o95_12 P) .nil .nil)) (.node (o47_3 P) (.node (o79_7 P) .nil .nil) (.node (b3Dict 51) .nil .nil))) (.node (o23s P) (.node (o39_2 P) (.node (o71_5 P) .nil .nil) (.node (o103_12 P) .nil .nil)) (.node (o55_3 P) (.node (o87_10 P) .nil .nil) .nil))) (.node (o11s P) (.node (o19s P) (.node (o35_2 P) (.node (o67_4 P) .nil .nil) (.node (o99_12 P) .nil .nil)) (.node (o51_3 P) (.node (o83_8 P) .nil .nil) .nil)) (.node (o27s P) (.node (o43_2 P) (.node (o75_5 P) .nil .nil) (.node (o107_13 P) .nil .nil)) (.node (o59_4 P) (.node (o91_10 P) .nil .nil) .nil)))) (.node (o5s P) (.node (o9s P) (.node (o17s P) (.node (o33_2 P) (.node (o65_4 P) .nil .nil) (.node (o97_12 P) .nil .nil)) (.node (o49_3 P) (.node (o81_8 P) .nil .nil) (.node (b3Sub 2 17) .nil .nil))) (.node (o25s P) (.node (o41_4 P) (.node (o73_5 P) .nil .nil) (.node (o105_13 P) .nil .nil)) (.node (o57_4 P) (.node (o89_10 P) .nil .nil) .nil))) (.node (o13s P) (.node (o21s P) (.node (o37_2 P) (.node (o69_5 P) .nil .nil) (.node (o101_12 P) .nil .nil)) (.node (o53_3 P) (.node (o85_8 P) .nil .nil) .nil)) (.node (o29_13 P) (.node (o45_3 P) (.node (o77_7 P) .nil .nil) (.node (o109_13 P) .nil .nil)) (.node (o61_4 P) (.node (o93_12 P) .nil .nil) .nil))))) (.node (o2_2 P) (.node (o4s P) (.node (o8s P) (.node (o16s P) (.node (o32_2 P) (.node (o64_4 P) .nil .nil) (.node (o96_12 P) .nil .nil)) (.node (o48_3 P) (.node (o80_7 P) .nil .nil) (.node (b3Sub 1 17) .nil .nil))) (.node (o24s P) (.node (o40_2 P) (.node (o72_5 P) .nil .nil) (.node (o104_13 P) .nil .nil)) (.node (o56_3 P) (.node (o88_10 P) .nil .nil) .nil))) (.node (o12s P) (.node (o20s P) (.node (o36_2 P) (.node (o68_4 P) .nil .nil) (.node (o100_12 P) .nil .nil)) (.node (o52_3 P) (.node (o84_8 P) .nil .nil) .nil)) (.node (o28p P) (.node (o44_2 P) (.node (o76_7 P) .nil .nil) (.node (o108_13 P) .nil .nil)) (.node (o60_4 P) (.node (o92_10 P) .nil .nil) .nil)))) (.node (o6s P) (.node (o10s P) (.node (o18s P) (.node (o34_2 P) (.node (o66_4 P) .nil .nil) (.node (o98_12 P) .nil .nil)) (.node (o50_3 P) (.node (o82_8 P) .nil .nil) .nil)) (.node (o26s P) (.node (o42_2 P) (.node (o74_5 P) .nil .nil) (.node (o106_13 P) .nil .nil)) (.node (o58_4 P) (.node (o90_10 P) .nil .nil) .nil))) (.node (o14s P) (.node (o22s P) (.node (o38_2 P) (.node (o70_5 P) .nil .nil) (.node (o102_12 P) .nil .nil)) (.node (o54_3 P) (.node (o86_10 P) .nil .nil) .nil)) (.node (o30p P) (.node (o46_3 P) (.node (o78_7 P) .nil .nil) (.node (o110_13 P) .nil .nil)) (.node (o62_4 P) (.node (o94_12 P) .nil .nil) .nil))))))
noncomputable def B_3 (P : Params) : BT := (.node (o0s P) (.node (o1s P) (.node (o3_13 P) (.node (o7s P) (.node (o15s P) (.node (o31p P) (.node (o63_4 P) .nil .nil) (.node (o95_12 P) .nil .nil)) (.node (o47_3 P) (.node (o79_7 P) .nil .nil) (.node (b3Dict 68) .nil .nil))) (.node (o23s P) (.node (o39_2 P) (.node (o71_5 P) .nil .nil) (.node (o103_12 P) .nil .nil)) (.node (o55_3 P) (.node (o87_10 P) .nil .nil) .nil))) (.node (o11s P) (.node (o19s P) (.node (o35_2 P) (.node (o67_4 P) .nil .nil) (.node (o99_12 P) .nil .nil)) (.node (o51_3 P) (.node (o83_8 P) .nil .nil) .nil)) (.node (o27s P) (.node (o43_2 P) (.node (o75_5 P) .nil .nil) (.node (o107_13 P) .nil .nil)) (.node (o59_4 P) (.node (o91_10 P) .nil .nil) .nil)))) (.node (o5s P) (.node (o9s P) (.node (o17s P) (.node (o33_2 P) (.node (o65_4 P) .nil .nil) (.node (o97_12 P) .nil .nil)) (.node (o49_3 P) (.node (o81_8 P) .nil .nil) (.node (b3Sub 2 17) .nil .nil))) (.node (o25s P) (.node (o41_4 P) (.node (o73_5 P) .nil .nil) (.node (o105_13 P) .nil .nil)) (.node (o57_4 P) (.node (o89_10 P) .nil .nil) .nil))) (.node (o13s P) (.node (o21s P) (.node (o37_2 P) (.node (o69_5 P) .nil .nil) (.node (o101_12 P) .nil .nil)) (.node (o53_3 P) (.node (o85_8 P) .nil .nil) .nil)) (.node (o29_13 P) (.node (o45_3 P) (.node (o77_7 P) .nil .nil) (.node (o109_13 P) .nil .nil)) (.node (o61_4 P) (.node (o93_12 P) .nil .nil) .nil))))) (.node (o2_2 P) (.node (o4s P) (.node (o8s P) (.node (o16s P) (.node (o32_2 P) (.node (o64_4 P) .nil .nil) (.node (o96_12 P) .nil .nil)) (.node (o48_3 P) (.node (o80_7 P) .nil .nil) (.node (b3Sub 1 17) .nil .nil))) (.node (o24s P) (.node (o40_2 P) (.node (o72_5 P) .nil .nil) (.node (o104_13 P) .nil .nil)) (.node (o56_3 P) (.node (o88_10 P) .nil .nil) .nil))) (.node (o12s P) (.node (o20s P) (.node (o36_2 P) (.node (o68_4 P) .nil .nil) (.node (o100_12 P) .nil .nil)) (.node (o52_3 P) (.node (o84_8 P) .nil .nil) .nil)) (.node (o28p P) (.node (o44_2 P) (.node (o76_7 P) .nil .nil) (.node (o108_13 P) .nil .nil)) (.node (o60_4 P) (.node (o92_10 P) .nil .nil) .nil)))) (.node (o6s P) (.node (o10s P) (.node (o18s P) (.node (o34_2 P) (.node (o66_4 P) .nil .nil) (.node (o98_12 P) .nil .nil)) (.node (o50_3 P) (.node (o82_8 P) .nil .nil) (.node (b3Sub 3 17) .nil .nil))) (.node (o26s P) (.node (o42_2 P) (.node (o74_5 P) .nil .nil) (.node (o106_13 P) .nil .nil)) (.node (o58_4 P) (.node (o90_10 P) .nil .nil) .nil))) (.node (o14s P) (.node (o22s P) (.node (o38_2 P) (.node (o70_5 P) .nil .nil) (.node (o102_12 P) .nil .nil)) (.node (o54_3 P) (.node (o86_10 P) .nil .nil) .nil)) (.node (o30p P) (.node (o46_3 P) (.node (o78_7 P) .nil .nil) (.node (o110_13 P) .nil .nil)) (.node (o62_4 P) (.node (o94_12 P) .nil .nil) .nil))))))
noncomputable def B_4 (P : Params) : BT := (.node (o0s P) (.node (o1s P) (.node (o3_13 P) (.node (o7s P) (.node (o15s P) (.node (o31p P) (.node (o63_4 P) .nil .nil) (.node (o95_12 P) .nil .nil)) (.node (o47_3 P) (.node (o79_7 P) .nil .nil) (.node (b3Dict 85) .nil .nil))) (.node (o23s P) (.node (o39_2 P) (.node (o71_5 P) .nil .nil) (.node (o103_12 P) .nil .nil)) (.node (o55_3 P) (.node (o87_10 P) .nil .nil) .nil))) (.node (o11s P) (.node (o19s P) (.node (o35_2 P) (.node (o67_4 P) .nil .nil) (.node (o99_12 P) .nil .nil)) (.node (o51_3 P) (.node (o83_8 P) .nil .nil) (.node (b3Sub 4 17) .nil .nil))) (.node (o27s P) (.node (o43_2 P) (.node (o75_5 P) .nil .nil) (.node (o107_13 P) .nil .nil)) (.node (o59_4 P) (.node (o91_10 P) .nil .nil) .nil)))) (.node (o5s P) (.node (o9s P) (.node (o17s P) (.node (o33_2 P) (.node (o65_4 P) .nil .nil) (.node (o97_12 P) .nil .nil)) (.node (o49_3 P) (.node (o81_8 P) .nil .nil) (.node (b3Sub 2 17) .nil .nil))) (.node (o25s P) (.node (o41_4 P) (.node (o73_5 P) .nil .nil) (.node (o105_13 P) .nil .nil)) (.node (o57_4 P) (.node (o89_10 P) .nil .nil) .nil))) (.node (o13s P) (.node (o21s P) (.node (o37_2 P) (.node (o69_5 P) .nil .nil) (.node (o101_12 P) .nil .nil)) (.node (o53_3 P) (.node (o85_8 P) .nil .nil) .nil)) (.node (o29_13 P) (.node (o45_3 P) (.node (o77_7 P) .nil .nil) (.node (o109_13 P) .nil .nil)) (.node (o61_4 P) (.node (o93_12 P) .nil .nil) .nil))))) (.node (o2_2 P) (.node (o4s P) (.node (o8s P) (.node (o16s P) (.node (o32_2 P) (.node (o64_4 P) .nil .nil) (.node (o96_12 P) .nil .nil)) (.node (o48_3 P) (.node (o80_7 P) .nil .nil) (.node (b3Sub 1 17) .nil .nil))) (.node (o24s P) (.node (o40_2 P) (.node (o72_5 P) .nil .nil) (.node (o104_13 P) .nil .nil)) (.node (o56_3 P) (.node (o88_10 P) .nil .nil) .nil))) (.node (o12s P) (.node (o20s P) (.node (o36_2 P) (.node (o68_4 P) .nil .nil) (.node (o100_12 P) .nil .nil)) (.node (o52_3 P) (.node (o84_8 P) .nil .nil) .nil)) (.node (o28p P) (.node (o44_2 P) (.node (o76_7 P) .nil .nil) (.node (o108_13 P) .nil .nil)) (.node (o60_4 P) (.node (o92_10 P) .nil .nil) .nil)))) (.node (o6s P) (.node (o10s P) (.node (o18s P) (.node (o34_2 P) (.node (o66_4 P) .nil .nil) (.node (o98_12 P) .nil .nil)) (.node (o50_3 P) (.node (o82_8 P) .nil .nil) (.node (b3Sub 3 17) .nil .nil))) (.node (o26s P) (.node (o42_2 P) (.node (o74_5 P) .nil .nil) (.node (o106_13 P) .nil .nil)) (.node (o58_4 P) (.node (o90_10 P) .nil .nil) .nil))) (.node (o14s P) (.node (o22s P) (.node (o38_2 P) (.node (o70_5 P) .nil .nil) (.node (o102_12 P) .nil .nil)) (.node (o54_3 P) (.node (o86_10 P) .nil .nil) .nil)) (.node (o30p P) (.node (o46_3 P) (.node (o78_7 P) .nil .nil) (.node (o110_13 P) .nil .nil)) (.node (o62_4 P) (.node (o94_12 P) .nil .nil) .nil))))))
noncomputable def B_5 (P : Params) : BT := (.node (o0s P) (.node (o1s P) (.node (o3_13 P) (.node (o7s P) (.node (o15s P) (.node (o31p P) (.node (o63_4 P) .nil .nil) (.node (o95_12 P) .nil .nil)) (.node (o47_3 P) (.node (o79_7 P) .nil .nil) (.node (b3Dict 102) .nil .nil))) (.node (o23s P) (.node (o39_2 P) (.node (o71_5 P) .nil .nil) (.node (o103_12 P) .nil .nil)) (.node (o55_3 P) (.node (o87_10 P) .nil .nil) .nil))) (.node (o11s P) (.node (o19s P) (.node (o35_2 P) (.node (o67_4 P) .nil .nil) (.node (o99_12 P) .nil .nil)) (.node (o51_3 P) (.node (o83_8 P) .nil .nil) (.node (b3Sub 4 17) .nil .nil))) (.node (o27s P) (.node (o43_2 P) (.node (o75_5 P) .nil .nil) (.node (o107_13 P) .nil .nil)) (.node (o59_4 P) (.node (o91_10 P) .nil .nil) .nil)))) (.node (o5s P) (.node (o9s P) (.node (o17s P) (.node (o33_2 P) (.node (o65_4 P) .nil .nil) (.node (o97_12 P) .nil .nil)) (.node (o49_3 P) (.node (o81_8 P) .nil .nil) (.node (b3Sub 2 17) .nil .nil))) (.node (o25s P) (.node (o41_4 P) (.node (o73_5 P) .nil .nil) (.node (o105_13 P) .nil .nil)) (.node (o57_4 P) (.node (o89_10 P) .nil .nil) .nil))) (.node (o13s P) (.node (o21s P) (.node (o37_2 P) (.node (o69_5 P) .nil .nil) (.node (o101_12 P) .nil .nil)) (.node (o53_3 P) (.node (o85_8 P) .nil .nil) .nil)) (.node (o29_13 P) (.node (o45_3 P) (.node (o77_7 P) .nil .nil) (.node (o109_13 P) .nil .nil)) (.node (o61_4 P) (.node (o93_12 P) .nil .nil) .nil))))) (.node (o2_2 P) (.node (o4s P) (.node (o8s P) (.node (o16s P) (.node (o32_2 P) (.node (o64_4 P) .nil .nil) (.node (o96_12 P) .nil .nil)) (.node (o48_3 P) (.node (o80_7 P) .nil .nil) (.node (b3Sub 1 17) .nil .nil))) (.node (o24s P) (.node (o40_2 P) (.node (o72_5 P) .nil .nil) (.node (o104_13 P) .nil .nil)) (.node (o56_3 P) (.node (o88_10 P) .nil .nil) .nil))) (.node (o12s P) (.node (o20s P) (.node (o36_2 P) (.node (o68_4 P) .nil .nil) (.node (o100_12 P) .nil .nil)) (.node (o52_3 P) (.node (o84_8 P) .nil .nil) (.node (b3Sub 5 17) .nil .nil))) (.node (o28p P) (.node (o44_2 P) (.node (o76_7 P) .nil .nil) (.node (o108_13 P) .nil .nil)) (.node (o60_4 P) (.node (o92_10 P) .nil .nil) .nil)))) (.node (o6s P) (.node (o10s P) (.node (o18s P) (.node (o34_2 P) (.node (o66_4 P) .nil .nil) (.node (o98_12 P) .nil .nil)) (.node (o50_3 P) (.node (o82_8 P) .nil .nil) (.node (b3Sub 3 17) .nil .nil))) (.node (o26s P) (.node (o42_2 P) (.node (o74_5 P) .nil .nil) (.node (o106_13 P) .nil .nil)) (.node (o58_4 P) (.node (o90_10 P) .nil .nil) .nil))) (.node (o14s P) (.node (o22s P) (.node (o38_2 P) (.node (o70_5 P) .nil .nil) (.node (o102_12 P) .nil .nil)) (.node (o54_3 P) (.node (o86_10 P) .nil .nil) .nil)) (.node (o30p P) (.node (o46_3 P) (.node (o78_7 P) .nil .nil) (.node (o110_13 P) .nil .nil)) (.node (o62_4 P) (.node (o94_12 P) .nil .nil) .nil))))))
noncomputable def B_6 (P : Params) : BT := (.node (o0s P) (.node (o1s P) (.node (o3_13 P) (.node (o7s P) (.node (o15s P) (.node (o31p P) (.node (o63_4 P) .nil .nil) (.node (o95_12 P) .nil .nil)) (.node (o47_3 P) (.node (o79_7 P) .nil .nil) (.node (b3Dict 119) .nil .nil))) (.node (o23s P) (.node (o39_2 P) (.node (o71_5 P) .nil .nil) (.node (o103_12 P) .nil .nil)) (.node (o55_3 P) (.node (o87_10 P) .nil .nil) .nil))) (.node (o11s P) (.node (o19s P) (.node (o35_2 P) (.node (o67_4 P) .nil .nil) (.node (o99_12 P) .nil .nil)) (.node (o51_3 P) (.node (o83_8 P) .nil .nil) (.node (b3Sub 4 17) .nil .nil))) (.node (o27s P) (.node (o43_2 P) (.node (o75_5 P) .nil .nil) (.node (o107_13 P) .nil .nil)) (.node (o59_4 P) (.node (o91_10 P) .nil .nil) .nil)))) (.node (o5s P) (.node (o9s P) (.node (o17s P) (.node (o33_2 P) (.node (o65_4 P) .nil .nil) (.node (o97_12 P) .nil .nil)) (.node (o49_3 P) (.node (o81_8 P) .nil .nil) (.node (b3Sub 2 17) .nil .nil))) (.node (o25s P) (.node (o41_4 P) (.node (o73_5 P) .nil .nil) (.node (o105_13 P) .nil .nil)) (.node (o57_4 P) (.node (o89_10 P) .nil .nil) .nil))) (.node (o13s P) (.node (o21s P) (.node (o37_2 P) (.node (o69_5 P) .nil .nil) (.node (o101_12 P) .nil .nil)) (.node (o53_3 P) (.node (o85_8 P) .nil .nil) (.node (b3Sub 6 17) .nil .nil))) (.node (o29_13 P) (.node (o45_3 P) (.node (o77_7 P) .nil .nil) (.node (o109_13 P) .nil .nil)) (.node (o61_4 P) (.node (o93_12 P) .nil .nil) .nil))))) (.node (o2_2 P) (.node (o4s P) (.node (o8s P) (.node (o16s P) (.node (o32_2 P) (.node (o64_4 P) .nil .nil) (.node (o96_12 P) .nil .nil)) (.node (o48_3 P) (.node (o80_7 P) .nil .nil) (.node (b3Sub 1 17) .nil .nil))) (.node (o24s P) (.node (o40_2 P) (.node (o72_5 P) .nil .nil) (.node (o104_13 P) .nil .nil)) (.node (o56_3 P) (.node (o88_10 P) .nil .nil) .nil))) (.node (o12s P) (.node (o20s P) (.node (o36_2 P) (.node (o68_4 P) .nil .nil) (.node (o100_12 P) .nil .nil)) (.node (o52_3 P) (.node (o84_8 P) .nil .nil) (.node (b3Sub 5 17) .nil .nil))) (.node (o28p P) (.node (o44_2 P) (.node (o76_7 P) .nil .nil) (.node (o108_13 P) .nil .nil)) (.node (o60_4 P) (.node (o92_10 P) .nil .nil) .nil)))) (.node (o6s P) (.node (o10s P) (.node (o18s P) (.node (o34_2 P) (.node (o66_4 P) .nil .nil) (.node (o98_12 P) .nil .nil)) (.node (o50_3 P) (.node (o82_8 P) .nil .nil) (.node (b3Sub 3 17) .nil .nil))) (.node (o26s P) (.node (o42_2 P) (.node (o74_5 P) .nil .nil) (.node (o106_13 P) .nil .nil)) (.node (o58_4 P) (.node (o90_10 P) .nil .nil) .nil))) (.node (o14s P) (.node (o22s P) (.node (o38_2 P) (.node (o70_5 P) .nil .nil) (.node (o102_12 P) .nil .nil)) (.node (o54_3 P) (.node (o86_10 P) .nil .nil) .nil)) (.node (o30p P) (.node (o46_3 P) (.node (o78_7 P) .nil .nil) (.node (o110_13 P) .nil .nil)) (.node (o62_4 P) (.node (o94_12 P) .nil .nil) .nil))))))
noncomputable def B_7 (P : Params) : BT := (.node (o0s P) (.node (o1s P) (.node (o3_13 P) (.node (o7s P) (.node (o15s P) (.node (o31p P) (.node (o63_4 P) .nil .nil) (.node (o95_12 P) .nil .nil)) (.node (o47_3 P) (.node (o79_7 P) .nil .nil) (.node (b3Dict 136) .nil .nil))) (.node (o23s P) (.node (o39_2 P) (.node (o71_5 P) .nil .nil) (.node (o103_12 P) .nil .nil)) (.node (o55_3 P) (.node (o87_10 P) .nil .nil) .nil))) (.node (o11s P) (.node (o19s P) (.node (o35_2 P) (.node (o67_4 P) .nil .nil) (.node (o99_12 P) .nil .nil)) (.node (o51_3 P) (.node (o83_8 P) .nil .nil) (.node (b3Sub 4 17) .nil .nil))) (.node (o27s P) (.node (o43_2 P) (.node (o75_5 P) .nil .nil) (.node (o107_13 P) .nil .nil)) (.node (o59_4 P) (.node (o91_10 P) .nil .nil) .nil)))) (.node (o5s P) (.node (o9s P) (.node (o17s P) (.node (o33_2 P) (.node (o65_4 P) .nil .nil) (.node (o97_12 P) .nil .nil)) (.node (o49_3 P) (.node (o81_8 P) .nil .nil) (.node (b3Sub 2 17) .nil .nil))) (.node (o25s P) (.node (o41_4 P) (.node (o73_5 P) .nil .nil) (.node (o105_13 P) .nil .nil)) (.node (o57_4 P) (.node (o89_10 P) .nil .nil) .nil))) (.node (o13s P) (.node (o21s P) (.node (o37_2 P) (.node (o69_5 P) .nil .nil) (.node (o101_12 P) .nil .nil)) (.node (o53_3 P) (.node (o85_8 P) .nil .nil) (.node (b3Sub 6 17) .nil .nil))) (.node (o29_13 P) (.node (o45_3 P) (.node (o77_7 P) .nil .nil) (.node (o109_13 P) .nil .nil)) (.node (o61_4 P) (.node (o93_12 P) .nil .nil) .nil))))) (.node (o2_2 P) (.node (o4s P) (.node (o8s P) (.node (o16s P) (.node (o32_2 P) (.node (o64_4 P) .nil .nil) (.node (o96_12 P) .nil .nil)) (.node (o48_3 P) (.node (o80_7 P) .nil .nil) (.node (b3Sub 1 17) .nil .nil))) (.node (o24s P) (.node (o40_2 P) (.node (o72_5 P) .nil .nil) (.node (o104_13 P) .nil .nil)) (.node (o56_3 P) (.node (o88_10 P) .nil .nil) .nil))) (.node (o12s P) (.node (o20s P) (.node (o36_2 P) (.node (o68_4 P) .nil .nil) (.node (o100_12 P) .nil .nil)) (.node (o52_3 P) (.node (o84_8 P) .nil .nil) (.node (b3Sub 5 17) .nil .nil))) (.node (o28p P) (.node (o44_2 P) (.node (o76_7 P) .nil .nil) (.node (o108_13 P) .nil .nil)) (.node (o60_4 P) (.node (o92_10 P) .nil .nil) .nil)))) (.node (o6s P) (.node (o10s P) (.node (o18s P) (.node (o34_2 P) (.node (o66_4 P) .nil .nil) (.node (o98_12 P) .nil .nil)) (.node (o50_3 P) (.node (o82_8 P) .nil .nil) (.node (b3Sub 3 17) .nil .nil))) (.node (o26s P) (.node (o42_2 P) (.node (o74_5 P) .nil .nil) (.node (o106_13 P) .nil .nil)) (.node (o58_4 P) (.node (o90_10 P) .nil .nil) .nil))) (.node (o14s P) (.node (o22s P) (.node (o38_2 P) (.node (o70_5 P) .nil .nil) (.node (o102_12 P) .nil .nil)) (.node (o54_3 P) (.node (o86_10 P) .nil .nil) (.node (b3Sub 7 17) .nil .nil))) (.node (o30p P) (.node (o46_3 P) (.node (o78_7 P) .nil .nil) (.node (o110_13 P) .nil .nil)) (.node (o62_4 P) (.node (o94_12 P) .nil .nil) .nil))))))
noncomputable def B_8 (P : Params) : BT := (.node (o0s P) (.node (o1s P) (.node (o3_13 P) (.node (o7s P) (.node (o15s P) (.node (o31p P) (.node (o63_4 P) .nil .nil) (.node (o95_12 P) .nil .nil)) (.node (o47_3 P) (.node (o79_7 P) .nil .nil) (.node (b3Dict 153) .nil .nil))) (.node (o23s P) (.node (o39_2 P) (.node (o71_5 P) .nil .nil) (.node (o103_12 P) .nil .nil)) (.node (o55_3 P) (.node (o87_10 P) .nil .nil) (.node (b3Sub 8 17) .nil .nil)))) (.node (o11s P) (.node (o19s P) (.node (o35_2 P) (.node (o67_4 P) .nil .nil) (.node (o99_12 P) .nil .nil)) (.node (o51_3 P) (.node (o83_8 P) .nil .nil) (.node (b3Sub 4 17) .nil .nil))) (.node (o27s P) (.node (o43_2 P) (.node (o75_5 P) .nil .nil) (.node (o107_13 P) .nil .nil)) (.node (o59_4 P) (.node (o91_10 P) .nil .nil) .nil)))) (.node (o5s P) (.node (o9s P) (.node (o17s P) (.node (o33_2 P) (.node (o65_4 P) .nil .nil) (.node (o97_12 P) .nil .nil)) (.node (o49_3 P) (.node (o81_8 P) .nil .nil) (.node (b3Sub 2 17) .nil .nil))) (.node (o25s P) (.node (o41_4 P) (.node (o73_5 P) .nil .nil) (.node (o105_13 P) .nil .nil)) (.node (o57_4 P) (.node (o89_10 P) .nil .nil) .nil))) (.node (o13s P) (.node (o21s P) (.node (o37_2 P) (.node (o69_5 P) .nil .nil) (.node (o101_12 P) .nil .nil)) (.node (o53_3 P) (.node (o85_8 P) .nil .nil) (.node (b3Sub 6 17) .nil .nil))) (.node (o29_13 P) (.node (o45_3 P) (.node (o77_7 P) .nil .nil) (.node (o109_13 P) .nil .nil)) (.node (o61_4 P) (.node (o93_12 P) .nil .nil) .nil))))) (.node (o2_2 P) (.node (o4s P) (.node (o8s P) (.node (o16s P) (.node (o32_2 P) (.node (o64_4 P) .nil .nil) (.node (o96_12 P) .nil .nil)) (.node (o48_3 P) (.node (o80_7 P) .nil .nil) (.node (b3Sub 1 17) .nil .nil))) (.node (o24s P) (.node (o40_2 P) (.node (o72_5 P) .nil .nil) (.node (o104_13 P) .nil .nil)) (.node (o56_3 P) (.node (o88_10 P) .nil .nil) .nil))) (.node (o12s P) (.node (o20s P) (.node (o36_2 P) (.node (o68_4 P) .nil .nil) (.node (o100_12 P) .nil .nil)) (.node (o52_3 P) (.node (o84_8 P) .nil .nil) (.node (b3Sub 5 17) .nil .nil))) (.node (o28p P) (.node (o44_2 P) (.node (o76_7 P) .nil .nil) (.node (o108_13 P) .nil .nil)) (.node (o60_4 P) (.node (o92_10 P) .nil .nil) .nil)))) (.node (o6s P) (.node (o10s P) (.node (o18s P) (.node (o34_2 P) (.node (o66_4 P) .nil .nil) (.node (o98_12 P) .nil .nil)) (.node (o50_3 P) (.node (o82_8 P) .nil .nil) (.node (b3Sub 3 17) .nil .nil))) (.node (o26s P) (.node (o42_2 P) (.node (o74_5 P) .nil .nil) (.node (o106_13 P) .nil .nil)) (.node (o58_4 P) (.node (o90_10 P) .nil .nil) .nil))) (.node (o14s P) (.node (o22s P) (.node (o38_2 P) (.node (o70_5 P) .nil .nil) (.node (o102_12 P) .nil .nil)) (.node (o54_3 P) (.node (o86_10 P) .nil .nil) (.node (b3Sub 7 17) .nil .nil))) (.node (o30p P) (.node (o46_3 P) (.node (o78_7 P) .nil .nil) (.node (o110_13 P) .nil .nil)) (.node (o62_4 P) (.node (o94_12 P) .nil .nil) .nil))))))
noncomputable def B_9 (P : Params) : BT := (.node (o0s P) (.node (o1s P) (.node (o3_13 P) (.node (o7s P) (.node (o15s P) (.node (o31p P) (.node (o63_4 P) .nil .nil) (.node (o95_12 P) .nil .nil)) (.node (o47_3 P) (.node (o79_7 P) .nil .nil) (.node (b3Dict 170) .nil .nil))) (.node (o23s P) (.node (o39_2 P) (.node (o71_5 P) .nil .nil) (.node (o103_12 P) .nil .nil)) (.node (o55_3 P) (.node (o87_10 P) .nil .nil) (.node (b3Sub 8 17) .nil .nil)))) (.node (o11s P) (.node (o19s P) (.node (o35_2 P) (.node (o67_4 P) .nil .nil) (.node (o99_12 P) .nil .nil)) (.node (o51_3 P) (.node (o83_8 P) .nil .nil) (.node (b3Sub 4 17) .nil .nil))) (.node (o27s P) (.node (o43_2 P) (.node (o75_5 P) .nil .nil) (.node (o107_13 P) .nil .nil)) (.node (o59_4 P) (.node (o91_10 P) .nil .nil) .nil)))) (.node (o5s P) (.node (o9s P) (.node (o17s P) (.node (o33_2 P) (.node (o65_4 P) .nil .nil) (.node (o97_12 P) .nil .nil)) (.node (o49_3 P) (.node (o81_8 P) .nil .nil) (.node (b3Sub 2 17) .nil .nil))) (.node (o25s P) (.node (o41_4 P) (.node (o73_5 P) .nil .nil) (.node (o105_13 P) .nil .nil)) (.node (o57_4 P) (.node (o89_10 P) .nil .nil) .nil))) (.node (o13s P) (.node (o21s P) (.node (o37_2 P) (.node (o69_5 P) .nil .nil) (.node (o101_12 P) .nil .nil)) (.node (o53_3 P) (.node (o85_8 P) .nil .nil) (.node (b3Sub 6 17) .nil .nil))) (.node (o29_13 P) (.node (o45_3 P) (.node (o77_7 P) .nil .nil) (.node (o109_13 P) .nil .nil)) (.node (o61_4 P) (.node (o93_12 P) .nil .nil) .nil))))) (.node (o2_2 P) (.node (o4s P) (.node (o8s P) (.node (o16s P) (.node (o32_2 P) (.node (o64_4 P) .nil .nil) (.node (o96_12 P) .nil .nil)) (.node (o48_3 P) (.node (o80_7 P) .nil .nil) (.node (b3Sub 1 17) .nil .nil))) (.node (o24s P) (.node (o40_2 P) (.node (o72_5 P) .nil .nil) (.node (o104_13 P) .nil .nil)) (.node (o56_3 P) (.node (o88_10 P) .nil .nil) (.node (b3Sub 9 17) .nil .nil)))) (.node (o12s P) (.node (o20s P) (.node (o36_2 P) (.node (o68_4 P) .nil .nil) (.node (o100_12 P) .nil .nil)) (.node (o52_3 P) (.node (o84_8 P) .nil .nil) (.node (b3Sub 5 17) .nil .nil))) (.node (o28p P) (.node (o44_2 P) (.node (o76_7 P) .nil .nil) (.node (o108_13 P) .nil .nil)) (.node (o60_4 P) (.node (o92_10 P) .nil .nil) .nil)))) (.node (o6s P) (.node (o10s P) (.node (o18s P) (.node (o34_2 P) (.node (o66_4 P) .nil .nil) (.node (o98_12 P) .nil .nil)) (.node (o50_3 P) (.node (o82_8 P) .nil .nil) (.node (b3Sub 3 17) .nil .nil))) (.node (o26s P) (.node (o42_2 P) (.node (o74_5 P) .nil .nil) (.node (o106_13 P) .nil .nil)) (.node (o58_4 P) (.node (o90_10 P) .nil .nil) .nil))) (.node (o14s P) (.node (o22s P) (.node (o38_2 P) (.node (o70_5 P) .nil .nil) (.node (o102_12 P) .nil .nil)) (.node (o54_3 P) (.node (o86_10 P) .nil .nil) (.node (b3Sub 7 17) .nil .nil))) (.node (o30p P) (.node (o46_3 P) (.node (o78_7 P) .nil .nil) (.node (o110_13 P) .nil .nil)) (.node (o62_4 P) (.node (o94_12 P) .nil .nil) .nil))))))
noncomputable def B_10 (P : Params) : BT := (.node (o0s P) (.node (o1s P) (.node (o3_13 P) (.node (o7s P) (.node (o15s P) (.node (o31p P) (.node (o63_4 P) .nil .nil) (.node (o95_12 P) .nil .nil)) (.node (o47_3 P) (.node (o79_7 P) .nil .nil) (.node (b3Dict 187) .nil .nil))) (.node (o23s P) (.node (o39_2 P) (.node (o71_5 P) .nil .nil) (.node (o103_12 P) .nil .nil)) (.node (o55_3 P) (.node (o87_10 P) .nil .nil) (.node (b3Sub 8 17) .nil .nil)))) (.node (o11s P) (.node (o19s P) (.node (o35_2 P) (.node (o67_4 P) .nil .nil) (.node (o99_12 P) .nil .nil)) (.node (o51_3 P) (.node (o83_8 P) .nil .nil) (.node (b3Sub 4 17) .nil .nil))) (.node (o27s P) (.node (o43_2 P) (.node (o75_5 P) .nil .nil) (.node (o107_13 P) .nil .nil)) (.node (o59_4 P) (.node (o91_10 P) .nil .nil) .nil)))) (.node (o5s P) (.node (o9s P) (.node (o17s P) (.node (o33_2 P) (.node (o65_4 P) .nil .nil) (.node (o97_12 P) .nil .nil)) (.node (o49_3 P) (.node (o81_8 P) .nil .nil) (.node (b3Sub 2 17) .nil .nil))) (.node (o25s P) (.node (o41_4 P) (.node (o73_5 P) .nil .nil) (.node (o105_13 P) .nil .nil)) (.node (o57_4 P) (.node (o89_10 P) .nil .nil) (.node (b3Sub 10 17) .nil .nil)))) (.node (o13s P) (.node (o21s P) (.node (o37_2 P) (.node (o69_5 P) .nil .nil) (.node (o101_12 P) .nil .nil)) (.node (o53_3 P) (.node (o85_8 P) .nil .nil) (.node (b3Sub 6 17) .nil .nil))) (.node (o29_13 P) (.node (o45_3 P) (.node (o77_7 P) .nil .nil) (.node (o109_13 P) .nil .nil)) (.node (o61_4 P) (.node (o93_12 P) .nil .nil) .nil))))) (.node (o2_2 P) (.node (o4s P) (.node (o8s P) (.node (o16s P) (.node (o32_2 P) (.node (o64_4 P) .nil .nil) (.node (o96_12 P) .nil .nil)) (.node (o48_3 P) (.node (o80_7 P) .nil .nil) (.node (b3Sub 1 17) .nil .nil))) (.node (o24s P) (.node (o40_2 P) (.node (o72_5 P) .nil .nil) (.node (o104_13 P) .nil .nil)) (.node (o56_3 P) (.node (o88_10 P) .nil .nil) (.node (b3Sub 9 17) .nil .nil)))) (.node (o12s P) (.node (o20s P) (.node (o36_2 P) (.node (o68_4 P) .nil .nil) (.node (o100_12 P) .nil .nil)) (.node (o52_3 P) (.node (o84_8 P) .nil .nil) (.node (b3Sub 5 17) .nil .nil))) (.node (o28p P) (.node (o44_2 P) (.node (o76_7 P) .nil .nil) (.node (o108_13 P) .nil .nil)) (.node (o60_4 P) (.node (o92_10 P) .nil .nil) .nil)))) (.node (o6s P) (.node (o10s P) (.node (o18s P) (.node (o34_2 P) (.node (o66_4 P) .nil .nil) (.node (o98_12 P) .nil .nil)) (.node (o50_3 P) (.node (o82_8 P) .nil .nil) (.node (b3Sub 3 17) .nil .nil))) (.node (o26s P) (.node (o42_2 P) (.node (o74_5 P) .nil .nil) (.node (o106_13 P) .nil .nil)) (.node (o58_4 P) (.node (o90_10 P) .nil .nil) .nil))) (.node (o14s P) (.node (o22s P) (.node (o38_2 P) (.node (o70_5 P) .nil .nil) (.node (o102_12 P) .nil .nil)) (.node (o54_3 P) (.node (o86_10 P) .nil .nil) (.node (b3Sub 7 17) .nil .nil))) (.node (o30p P) (.node (o46_3 P) (.node (o78_7 P) .nil .nil) (.node (o110_13 P) .nil .nil)) (.node (o62_4 P) (.node (o94_12 P) .nil .nil) .nil))))))
noncomputable def B_11 (P : Params) : BT := (.node (o0s P) (.node (o1s P) (.node (o3_13 P) (.node (o7s P) (.node (o15s P) (.node (o31p P) (.node (o63_4 P) .nil .nil) (.node (o95_12 P) .nil .nil)) (.node (o47_3 P) (.node (o79_7 P) .nil .nil) (.node (b3Dict 204) .nil .nil))) (.node (o23s P) (.node (o39_2 P) (.node (o71_5 P) .nil .nil) (.node (o103_12 P) .nil .nil)) (.node (o55_3 P) (.node (o87_10 P) .nil .nil) (.node (b3Sub 8 17) .nil .nil)))) (.node (o11s P) (.node (o19s P) (.node (o35_2 P) (.node (o67_4 P) .nil .nil) (.node (o99_12 P) .nil .nil)) (.node (o51_3 P) (.node (o83_8 P) .nil .nil) (.node (b3Sub 4 17) .nil .nil))) (.node (o27s P) (.node (o43_2 P) (.node (o75_5 P) .nil .nil) (.node (o107_13 P) .nil .nil)) (.node (o59_4 P) (.node (o91_10 P) .nil .nil) .nil)))) (.node (o5s P) (.node (o9s P) (.node (o17s P) (.node (o33_2 P) (.node (o65_4 P) .nil .nil) (.node (o97_12 P) .nil .nil)) (.node (o49_3 P) (.node (o81_8 P) .nil .nil) (.node (b3Sub 2 17) .nil .nil))) (.node (o25s P) (.node (o41_4 P) (.node (o73_5 P) .nil .nil) (.node (o105_13 P) .nil .nil)) (.node (o57_4 P) (.node (o89_10 P) .nil .nil) (.node (b3Sub 10 17) .nil .nil)))) (.node (o13s P) (.node (o21s P) (.node (o37_2 P) (.node (o69_5 P) .nil .nil) (.node (o101_12 P) .nil .nil)) (.node (o53_3 P) (.node (o85_8 P) .nil .nil) (.node (b3Sub 6 17) .nil .nil))) (.node (o29_13 P) (.node (o45_3 P) (.node (o77_7 P) .nil .nil) (.node (o109_13 P) .nil .nil)) (.node (o61_4 P) (.node (o93_12 P) .nil .nil) .nil))))) (.node (o2_2 P) (.node (o4s P) (.node (o8s P) (.node (o16s P) (.node (o32_2 P) (.node (o64_4 P) .nil .nil) (.node (o96_12 P) .nil .nil)) (.node (o48_3 P) (.node (o80_7 P) .nil .nil) (.node (b3Sub 1 17) .nil .nil))) (.node (o24s P) (.node (o40_2 P) (.node (o72_5 P) .nil .nil) (.node (o104_13 P) .nil .nil)) (.node (o56_3 P) (.node (o88_10 P) .nil .nil) (.node (b3Sub 9 17) .nil .nil)))) (.node (o12s P) (.node (o20s P) (.node (o36_2 P) (.node (o68_4 P) .nil .nil) (.node (o100_12 P) .nil .nil)) (.node (o52_3 P) (.node (o84_8 P) .nil .nil) (.node (b3Sub 5 17) .nil .nil))) (.node (o28p P) (.node (o44_2 P) (.node (o76_7 P) .nil .nil) (.node (o108_13 P) .nil .nil)) (.node (o60_4 P) (.node (o92_10 P) .nil .nil) .nil)))) (.node (o6s P) (.node (o10s P) (.node (o18s P) (.node (o34_2 P) (.node (o66_4 P) .nil .nil) (.node (o98_12 P) .nil .nil)) (.node (o50_3 P) (.node (o82_8 P) .nil .nil) (.node (b3Sub 3 17) .nil .nil))) (.node (o26s P) (.node (o42_2 P) (.node (o74_5 P) .nil .nil) (.node (o106_13 P) .nil .nil)) (.node (o58_4 P) (.node (o90_10 P) .nil .nil) (.node (b3Sub 11 17) .nil .nil)))) (.node (o14s P) (.node (o22s P) (.node (o38_2 P) (.node (o70_5 P) .nil .nil) (.node (o102_12 P) .nil .nil)) (.node (o54_3 P) (.node (o86_10 P) .nil .nil) (.node (b3Sub 7 17) .nil .nil))) (.node (o30p P) (.node (o46_3 P) (.node (o78_7 P) .nil .nil) (.node (o110_13 P) .nil .nil)) (.node (o62_4 P) (.node (o94_12 P) .nil .nil) .nil))))))
noncomputable def B_12 (P : Params) : BT := (.node (o0s P) (.node (o1s P) (.node (o3_13 P) (.node (o7s P) (.node (o15s P) (.node (o31p P) (.node (o63_4 P) .nil .nil) (.node (o95_12 P) .nil .nil)) (.node (o47_3 P) (.node (o79_7 P) .nil .nil) (.node (b3Dict 221) .nil .nil))) (.node (o23s P) (.node (o39_2 P) (.node (o71_5 P) .nil .nil) (.node (o103_12 P) .nil .nil)) (.node (o55_3 P) (.node (o87_10 P) .nil .nil) (.node (b3Sub 8 17) .nil .nil)))) (.node (o11s P) (.node (o19s P) (.node (o35_2 P) (.node (o67_4 P) .nil .nil) (.node (o99_12 P) .nil .nil)) (.node (o51_3 P) (.node (o83_8 P) .nil .nil) (.node (b3Sub 4 17) .nil .nil))) (.node (o27s P) (.node (o43_2 P) (.node (o75_5 P) .nil .nil) (.node (o107_13 P) .nil .nil)) (.node (o59_4 P) (.node (o91_10 P) .nil .nil) (.node (b3Sub 12 17) .nil .nil))))) (.node (o5s P) (.node (o9s P) (.node (o17s P) (.node (o33_2 P) (.node (o65_4 P) .nil .nil) (.node (o97_12 P) .nil .nil)) (.node (o49_3 P) (.node (o81_8 P) .nil .nil) (.node (b3Sub 2 17) .nil .nil))) (.node (o25s P) (.node (o41_4 P) (.node (o73_5 P) .nil .nil) (.node (o105_13 P) .nil .nil)) (.node (o57_4 P) (.node (o89_10 P) .nil .nil) (.node (b3Sub 10 17) .nil .nil)))) (.node (o13s P) (.node (o21s P) (.node (o37_2 P) (.node (o69_5 P) .nil .nil) (.node (o101_12 P) .nil .nil)) (.node (o53_3 P) (.node (o85_8 P) .nil .nil) (.node (b3Sub 6 17) .nil .nil))) (.node (o29_13 P) (.node (o45_3 P) (.node (o77_7 P) .nil .nil) (.node (o109_13 P) .nil .nil)) (.node (o61_4 P) (.node (o93_12 P) .nil .nil) .nil))))) (.node (o2_2 P) (.node (o4s P) (.node (o8s P) (.node (o16s P) (.node (o32_2 P) (.node (o64_4 P) .nil .nil) (.node (o96_12 P) .nil .nil)) (.node (o48_3 P) (.node (o80_7 P) .nil .nil) (.node (b3Sub 1 17) .nil .nil))) (.node (o24s P) (.node (o40_2 P) (.node (o72_5 P) .nil .nil) (.node (o104_13 P) .nil .nil)) (.node (o56_3 P) (.node (o88_10 P) .nil .nil) (.node (b3Sub 9 17) .nil .nil)))) (.node (o12s P) (.node (o20s P) (.node (o36_2 P) (.node (o68_4 P) .nil .nil) (.node (o100_12 P) .nil .nil)) (.node (o52_3 P) (.node (o84_8 P) .nil .nil) (.node (b3Sub 5 17) .nil .nil))) (.node (o28p P) (.node (o44_2 P) (.node (o76_7 P) .nil .nil) (.node (o108_13 P) .nil .nil)) (.node (o60_4 P) (.node (o92_10 P) .nil .nil) .nil)))) (.node (o6s P) (.node (o10s P) (.node (o18s P) (.node (o34_2 P) (.node (o66_4 P) .nil .nil) (.node (o98_12 P) .nil .nil)) (.node (o50_3 P) (.node (o82_8 P) .nil .nil) (.node (b3Sub 3 17) .nil .nil))) (.node (o26s P) (.node (o42_2 P) (.node (o74_5 P) .nil .nil) (.node (o106_13 P) .nil .nil)) (.node (o58_4 P) (.node (o90_10 P) .nil .nil) (.node (b3Sub 11 17) .nil .nil)))) (.node (o14s P) (.node (o22s P) (.node (o38_2 P) (.node (o70_5 P) .nil .nil) (.node (o102_12 P) .nil .nil)) (.node (o54_3 P) (.node (o86_10 P) .nil .nil) (.node (b3Sub 7 17) .nil .nil))) (.node (o30p P) (.node (o46_3 P) (.node (o78_7 P) .nil .nil) (.node (o110_13 P) .nil .nil)) (.node (o62_4 P) (.node (o94_12 P) .nil .nil) .nil))))))
noncomputable def B_13 (P : Params) : BT := (.node (o0s P) (.node (o1s P) (.node (o3_13 P) (.node (o7s P) (.node (o15s P) (.node (o31p P) (.node (o63_4 P) .nil .nil) (.node (o95_12 P) .nil .nil)) (.node (o47_3 P) (.node (o79_7 P) .nil .nil) (.node (b3Dict 238) .nil .nil))) (.node (o23s P) (.node (o39_2 P) (.node (o71_5 P) .nil .nil) (.node (o103_12 P) .nil .nil)) (.node (o55_3 P) (.node (o87_10 P) .nil .nil) (.node (b3Sub 8 17) .nil .nil)))) (.node (o11s P) (.node (o19s P) (.node (o35_2 P) (.node (o67_4 P) .nil .nil) (.node (o99_12 P) .nil .nil)) (.node (o51_3 P) (.node (o83_8 P) .nil .nil) (.node (b3Sub 4 17) .nil .nil))) (.node (o27s P) (.node (o43_2 P) (.node (o75_5 P) .nil .nil) (.node (o107_13 P) .nil .nil)) (.node (o59_4 P) (.node (o91_10 P) .nil .nil) (.node (b3Sub 12 17) .nil .nil))))) (.node (o5s P) (.node (o9s P) (.node (o17s P) (.node (o33_2 P) (.node (o65_4 P) .nil .nil) (.node (o97_12 P) .nil .nil)) (.node (o49_3 P) (.node (o81_8 P) .nil .nil) (.node (b3Sub 2 17) .nil .nil))) (.node (o25s P) (.node (o41_4 P) (.node (o73_5 P) .nil .nil) (.node (o105_13 P) .nil .nil)) (.node (o57_4 P) (.node (o89_10 P) .nil .nil) (.node (b3Sub 10 17) .nil .nil)))) (.node (o13s P) (.node (o21s P) (.node (o37_2 P) (.node (o69_5 P) .nil .nil) (.node (o101_12 P) .nil .nil)) (.node (o53_3 P) (.node (o85_8 P) .nil .nil) (.node (b3Sub 6 17) .nil .nil))) (.node (o29_13 P) (.node (o45_3 P) (.node (o77_7 P) .nil .nil) (.node (o109_13 P) .nil .nil)) (.node (o61_4 P) (.node (o93_12 P) .nil .nil) .nil))))) (.node (o2_2 P) (.node (o4s P) (.node (o8s P) (.node (o16s P) (.node (o32_2 P) (.node (o64_4 P) .nil .nil) (.node (o96_12 P) .nil .nil)) (.node (o48_3 P) (.node (o80_7 P) .nil .nil) (.node (b3Sub 1 17) .nil .nil))) (.node (o24s P) (.node (o40_2 P) (.node (o72_5 P) .nil .nil) (.node (o104_13 P) .nil .nil)) (.node (o56_3 P) (.node (o88_10 P) .nil .nil) (.node (b3Sub 9 17) .nil .nil)))) (.node (o12s P) (.node (o20s P) (.node (o36_2 P) (.node (o68_4 P) .nil .nil) (.node (o100_12 P) .nil .nil)) (.node (o52_3 P) (.node (o84_8 P) .nil .nil) (.node (b3Sub 5 17) .nil .nil))) (.node (o28p P) (.node (o44_2 P) (.node (o76_7 P) .nil .nil) (.node (o108_13 P) .nil .nil)) (.node (o60_4 P) (.node (o92_10 P) .nil .nil) (.node (b3Sub 13 17) .nil .nil))))) (.node (o6s P) (.node (o10s P) (.node (o18s P) (.node (o34_2 P) (.node (o66_4 P) .nil .nil) (.node (o98_12 P) .nil .nil)) (.node (o50_3 P) (.node (o82_8 P) .nil .nil) (.node (b3Sub 3 17) .nil .nil))) (.node (o26s P) (.node (o42_2 P) (.node (o74_5 P) .nil .nil) (.node (o106_13 P) .nil .nil)) (.node (o58_4 P) (.node (o90_10 P) .nil .nil) (.node (b3Sub 11 17) .nil .nil)))) (.node (o14s P) (.node (o22s P) (.node (o38_2 P) (.node (o70_5 P) .nil .nil) (.node (o102_12 P) .nil .nil)) (.node (o54_3 P) (.node (o86_10 P) .nil .nil) (.node (b3Sub 7 17) .nil .nil))) (.node (o30p P) (.node (o46_3 P) (.node (o78_7 P) .nil .nil) (.node (o110_13 P) .nil .nil)) (.node (o62_4 P) (.node (o94_12 P) .nil .nil) .nil))))))
noncomputable def B_14 (P : Params) : BT := (.node (o0s P) (.node (o1s P) (.node (o3_13 P) (.node (o7s P) (.node (o15s P) (.node (o31p P) (.node (o63_4 P) .nil .nil) (.node (o95_12 P) .nil .nil)) (.node (o47_3 P) (.node (o79_7 P) .nil .nil) (.node (b3Dict 255) .nil .nil))) (.node (o23s P) (.node (o39_2 P) (.node (o71_5 P) .nil .nil) (.node (o103_12 P) .nil .nil)) (.node (o55_3 P) (.node (o87_10 P) .nil .nil) (.node (b3Sub 8 17) .nil .nil)))) (.node (o11s P) (.node (o19s P) (.node (o35_2 P) (.node (o67_4 P) .nil .nil) (.node (o99_12 P) .nil .nil)) (.node (o51_3 P) (.node (o83_8 P) .nil .nil) (.node (b3Sub 4 17) .nil .nil))) (.node (o27s P) (.node (o43_2 P) (.node (o75_5 P) .nil .nil) (.node (o107_13 P) .nil .nil)) (.node (o59_4 P) (.node (o91_10 P) .nil .nil) (.node (b3Sub 12 17) .nil .nil))))) (.node (o5s P) (.node (o9s P) (.node (o17s P) (.node (o33_2 P) (.node (o65_4 P) .nil .nil) (.node (o97_12 P) .nil .nil)) (.node (o49_3 P) (.node (o81_8 P) .nil .nil) (.node (b3Sub 2 17) .nil .nil))) (.node (o25s P) (.node (o41_4 P) (.node (o73_5 P) .nil .nil) (.node (o105_13 P) .nil .nil)) (.node (o57_4 P) (.node (o89_10 P) .nil .nil) (.node (b3Sub 10 17) .nil .nil)))) (.node (o13s P) (.node (o21s P) (.node (o37_2 P) (.node (o69_5 P) .nil .nil) (.node (o101_12 P) .nil .nil)) (.node (o53_3 P) (.node (o85_8 P) .nil .nil) (.node (b3Sub 6 17) .nil .nil))) (.node (o29_13 P) (.node (o45_3 P) (.node (o77_7 P) .nil .nil) (.node (o109_13 P) .nil .nil)) (.node (o61_4 P) (.node (o93_12 P) .nil .nil) (.node (b3Sub 14 17) .nil .nil)))))) (.node (o2_2 P) (.node (o4s P) (.node (o8s P) (.node (o16s P) (.node (o32_2 P) (.node (o64_4 P) .nil .nil) (.node (o96_12 P) .nil .nil)) (.node (o48_3 P) (.node (o80_7 P) .nil .nil) (.node (b3Sub 1 17) .nil .nil))) (.node (o24s P) (.node (o40_2 P) (.node (o72_5 P) .nil .nil) (.node (o104_13 P) .nil .nil)) (.node (o56_3 P) (.node (o88_10 P) .nil .nil) (.node (b3Sub 9 17) .nil .nil)))) (.node (o12s P) (.node (o20s P) (.node (o36_2 P) (.node (o68_4 P) .nil .nil) (.node (o100_12 P) .nil .nil)) (.node (o52_3 P) (.node (o84_8 P) .nil .nil) (.node (b3Sub 5 17) .nil .nil))) (.node (o28p P) (.node (o44_2 P) (.node (o76_7 P) .nil .nil) (.node (o108_13 P) .nil .nil)) (.node (o60_4 P) (.node (o92_10 P) .nil .nil) (.node (b3Sub 13 17) .nil .nil))))) (.node (o6s P) (.node (o10s P) (.node (o18s P) (.node (o34_2 P) (.node (o66_4 P) .nil .nil) (.node (o98_12 P) .nil .nil)) (.node (o50_3 P) (.node (o82_8 P) .nil .nil) (.node (b3Sub 3 17) .nil .nil))) (.node (o26s P) (.node (o42_2 P) (.node (o74_5 P) .nil .nil) (.node (o106_13 P) .nil .nil)) (.node (o58_4 P) (.node (o90_10 P) .nil .nil) (.node (b3Sub 11 17) .nil .nil)))) (.node (o14s P) (.node (o22s P) (.node (o38_2 P) (.node (o70_5 P) .nil .nil) (.node (o102_12 P) .nil .nil)) (.node (o54_3 P) (.node (o86_10 P) .nil .nil) (.node (b3Sub 7 17) .nil .nil))) (.node (o30p P) (.node (o46_3 P) (.node (o78_7 P) .nil .nil) (.node (o110_13 P) .nil .nil)) (.node (o62_4 P) (.node (o94_12 P) .nil .nil) .nil))))))
noncomputable def B_15 (P : Params) : BT := (.node (o0s P) (.node (o1s P) (.node (o3_13 P) (.node (o7s P) (.node (o15s P) (.node (o31p P) (.node (o63_4 P) .nil .nil) (.node (o95_12 P) .nil .nil)) (.node (o47_3 P) (.node (o79_7 P) .nil .nil) (.node (b3Dict 272) .nil .nil))) (.node (o23s P) (.node (o39_2 P) (.node (o71_5 P) .nil .nil) (.node (o103_12 P) .nil .nil)) (.node (o55_3 P) (.node (o87_10 P) .nil .nil) (.node (b3Sub 8 17) .nil .nil)))) (.node (o11s P) (.node (o19s P) (.node (o35_2 P) (.node (o67_4 P) .nil .nil) (.node (o99_12 P) .nil .nil)) (.node (o51_3 P) (.node (o83_8 P) .nil .nil) (.node (b3Sub 4 17) .nil .nil))) (.node (o27s P) (.node (o43_2 P) (.node (o75_5 P) .nil .nil) (.node (o107_13 P) .nil .nil)) (.node (o59_4 P) (.node (o91_10 P) .nil .nil) (.node (b3Sub 12 17) .nil .nil))))) (.node (o5s P) (.node (o9s P) (.node (o17s P) (.node (o33_2 P) (.node (o65_4 P) .nil .nil) (.node (o97_12 P) .nil .nil)) (.node (o49_3 P) (.node (o81_8 P) .nil .nil) (.node (b3Sub 2 17) .nil .nil))) (.node (o25s P) (.node (o41_4 P) (.node (o73_5 P) .nil .nil) (.node (o105_13 P) .nil .nil)) (.node (o57_4 P) (.node (o89_10 P) .nil .nil) (.node (b3Sub 10 17) .nil .nil)))) (.node (o13s P) (.node (o21s P) (.node (o37_2 P) (.node (o69_5 P) .nil .nil) (.node (o101_12 P) .nil .nil)) (.node (o53_3 P) (.node (o85_8 P) .nil .nil) (.node (b3Sub 6 17) .nil .nil))) (.node (o29_13 P) (.node (o45_3 P) (.node (o77_7 P) .nil .nil) (.node (o109_13 P) .nil .nil)) (.node (o61_4 P) (.node (o93_12 P) .nil .nil) (.node (b3Sub 14 17) .nil .nil)))))) (.node (o2_2 P) (.node (o4s P) (.node (o8s P) (.node (o16s P) (.node (o32_2 P) (.node (o64_4 P) .nil .nil) (.node (o96_12 P) .nil .nil)) (.node (o48_3 P) (.node (o80_7 P) .nil .nil) (.node (b3Sub 1 17) .nil .nil))) (.node (o24s P) (.node (o40_2 P) (.node (o72_5 P) .nil .nil) (.node (o104_13 P) .nil .nil)) (.node (o56_3 P) (.node (o88_10 P) .nil .nil) (.node (b3Sub 9 17) .nil .nil)))) (.node (o12s P) (.node (o20s P) (.node (o36_2 P) (.node (o68_4 P) .nil .nil) (.node (o100_12 P) .nil .nil)) (.node (o52_3 P) (.node (o84_8 P) .nil .nil) (.node (b3Sub 5 17) .nil .nil))) (.node (o28p P) (.node (o44_2 P) (.node (o76_7 P) .nil .nil) (.node (o108_13 P) .nil .nil)) (.node (o60_4 P) (.node (o92_10 P) .nil .nil) (.node (b3Sub 13 17) .nil .nil))))) (.node (o6s P) (.node (o10s P) (.node (o18s P) (.node (o34_2 P) (.node (o66_4 P) .nil .nil) (.node (o98_12 P) .nil .nil)) (.node (o50_3 P) (.node (o82_8 P) .nil .nil) (.node (b3Sub 3 17) .nil .nil))) (.node (o26s P) (.node (o42_2 P) (.node (o74_5 P) .nil .nil) (.node (o106_13 P) .nil .nil)) (.node (o58_4 P) (.node (o90_10 P) .nil .nil) (.node (b3Sub 11 17) .nil .nil)))) (.node (o14s P) (.node (o22s P) (.node (o38_2 P) (.node (o70_5 P) .nil .nil) (.node (o102_12 P) .nil .nil)) (.node (o54_3 P) (.node (o86_10 P) .nil .nil) (.node (b3Sub 7 17) .nil .nil))) (.node (o30p P) (.node (o46_3 P) (.node (o78_7 P) .nil .nil) (.node (o110_13 P) .nil .nil)) (.node (o62_4 P) (.node (o94_12 P) .nil .nil) (.node (b3Sub 15 17) .nil .nil)))))))
noncomputable def B_16 (P : Params) : BT := (.node (o0s P) (.node (o1s P) (.node (o3_13 P) (.node (o7s P) (.node (o15s P) (.node (o31p P) (.node (o63_4 P) (.node (b3Sub 16 17) .nil .nil) .nil) (.node (o95_12 P) .nil .nil)) (.node (o47_3 P) (.node (o79_7 P) .nil .nil) (.node (b3Dict 289) .nil .nil))) (.node (o23s P) (.node (o39_2 P) (.node (o71_5 P) .nil .nil) (.node (o103_12 P) .nil .nil)) (.node (o55_3 P) (.node (o87_10 P) .nil .nil) (.node (b3Sub 8 17) .nil .nil)))) (.node (o11s P) (.node (o19s P) (.node (o35_2 P) (.node (o67_4 P) .nil .nil) (.node (o99_12 P) .nil .nil)) (.node (o51_3 P) (.node (o83_8 P) .nil .nil) (.node (b3Sub 4 17) .nil .nil))) (.node (o27s P) (.node (o43_2 P) (.node (o75_5 P) .nil .nil) (.node (o107_13 P) .nil .nil)) (.node (o59_4 P) (.node (o91_10 P) .nil .nil) (.node (b3Sub 12 17) .nil .nil))))) (.node (o5s P) (.node (o9s P) (.node (o17s P) (.node (o33_2 P) (.node (o65_4 P) .nil .nil) (.node (o97_12 P) .nil .nil)) (.node (o49_3 P) (.node (o81_8 P) .nil .nil) (.node (b3Sub 2 17) .nil .nil))) (.node (o25s P) (.node (o41_4 P) (.node (o73_5 P) .nil .nil) (.node (o105_13 P) .nil .nil)) (.node (o57_4 P) (.node (o89_10 P) .nil .nil) (.node (b3Sub 10 17) .nil .nil)))) (.node (o13s P) (.node (o21s P) (.node (o37_2 P) (.node (o69_5 P) .nil .nil) (.node (o101_12 P) .nil .nil)) (.node (o53_3 P) (.node (o85_8 P) .nil .nil) (.node (b3Sub 6 17) .nil .nil))) (.node (o29_13 P) (.node (o45_3 P) (.node (o77_7 P) .nil .nil) (.node (o109_13 P) .nil .nil)) (.node (o61_4 P) (.node (o93_12 P) .nil .nil) (.node (b3Sub 14 17) .nil .nil)))))) (.node (o2_2 P) (.node (o4s P) (.node (o8s P) (.node (o16s P) (.node (o32_2 P) (.node (o64_4 P) .nil .nil) (.node (o96_12 P) .nil .nil)) (.node (o48_3 P) (.node (o80_7 P) .nil .nil) (.node (b3Sub 1 17) .nil .nil))) (.node (o24s P) (.node (o40_2 P) (.node (o72_5 P) .nil .nil) (.node (o104_13 P) .nil .nil)) (.node (o56_3 P) (.node (o88_10 P) .nil .nil) (.node (b3Sub 9 17) .nil .nil)))) (.node (o12s P) (.node (o20s P) (.node (o36_2 P) (.node (o68_4 P) .nil .nil) (.node (o100_12 P) .nil .nil)) (.node (o52_3 P) (.node (o84_8 P) .nil .nil) (.node (b3Sub 5 17) .nil .nil))) (.node (o28p P) (.node (o44_2 P) (.node (o76_7 P) .nil .nil) (.node (o108_13 P) .nil .nil)) (.node (o60_4 P) (.node (o92_10 P) .nil .nil) (.node (b3Sub 13 17) .nil .nil))))) (.node (o6s P) (.node (o10s P) (.node (o18s P) (.node (o34_2 P) (.node (o66_4 P) .nil .nil) (.node (o98_12 P) .nil .nil)) (.node (o50_3 P) (.node (o82_8 P) .nil .nil) (.node (b3Sub 3 17) .nil .nil))) (.node (o26s P) (.node (o42_2 P) (.node (o74_5 P) .nil .nil) (.node (o106_13 P) .nil .nil)) (.node (o58_4 P) (.node (o90_10 P) .nil .nil) (.node (b3Sub 11 17) .nil .nil)))) (.node (o14s P) (.node (o22s P) (.node (o38_2 P) (.node (o70_5 P) .nil .nil) (.node (o102_12 P) .nil .nil)) (.node (o54_3 P) (.node (o86_10 P) .nil .nil) (.node (b3Sub 7 17) .nil .nil))) (.node (o30p P) (.node (o46_3 P) (.node (o78_7 P) .nil .nil) (.node (o110_13 P) .nil .nil)) (.node (o62_4 P) (.node (o94_12 P) .nil .nil) (.node (b3Sub 15 17) .nil .nil)))))))
noncomputable def B_17 (P : Params) : BT := (.node (o0s P) (.node (o1s P) (.node (o3_13 P) (.node (o7s P) (.node (o15s P) (.node (o31p P) (.node (o63_4 P) (.node (b3Sub 16 17) .nil .nil) .nil) (.node (o95_12 P) .nil .nil)) (.node (o47_3 P) (.node (o79_7 P) .nil .nil) (.node (b3Dict 306) .nil .nil))) (.node (o23s P) (.node (o39_2 P) (.node (o71_5 P) .nil .nil) (.node (o103_12 P) .nil .nil)) (.node (o55_3 P) (.node (o87_10 P) .nil .nil) (.node (b3Sub 8 17) .nil .nil)))) (.node (o11s P) (.node (o19s P) (.node (o35_2 P) (.node (o67_4 P) .nil .nil) (.node (o99_12 P) .nil .nil)) (.node (o51_3 P) (.node (o83_8 P) .nil .nil) (.node (b3Sub 4 17) .nil .nil))) (.node (o27s P) (.node (o43_2 P) (.node (o75_5 P) .nil .nil) (.node (o107_13 P) .nil .nil)) (.node (o59_4 P) (.node (o91_10 P) .nil .nil) (.node (b3Sub 12 17) .nil .nil))))) (.node (o5s P) (.node (o9s P) (.node (o17s P) (.node (o33_2 P) (.node (o65_4 P) .nil .nil) (.node (o97_12 P) .nil .nil)) (.node (o49_3 P) (.node (o81_8 P) .nil .nil) (.node (b3Sub 2 17) .nil .nil))) (.node (o25s P) (.node (o41_4 P) (.node (o73_5 P) .nil .nil) (.node (o105_13 P) .nil .nil)) (.node (o57_4 P) (.node (o89_10 P) .nil .nil) (.node (b3Sub 10 17) .nil .nil)))) (.node (o13s P) (.node (o21s P) (.node (o37_2 P) (.node (o69_5 P) .nil .nil) (.node (o101_12 P) .nil .nil)) (.node (o53_3 P) (.node (o85_8 P) .nil .nil) (.node (b3Sub 6 17) .nil .nil))) (.node (o29_13 P) (.node (o45_3 P) (.node (o77_7 P) .nil .nil) (.node (o109_13 P) .nil .nil)) (.node (o61_4 P) (.node (o93_12 P) .nil .nil) (.node (b3Sub 14 17) .nil .nil)))))) (.node (o2_2 P) (.node (o4s P) (.node (o8s P) (.node (o16s P) (.node (o32_2 P) (.node (o64_4 P) (.node (b3Sub 17 17) .nil .nil) .nil) (.node (o96_12 P) .nil .nil)) (.node (o48_3 P) (.node (o80_7 P) .nil .nil) (.node (b3Sub 1 17) .nil .nil))) (.node (o24s P) (.node (o40_2 P) (.node (o72_5 P) .nil .nil) (.node (o104_13 P) .nil .nil)) (.node (o56_3 P) (.node (o88_10 P) .nil .nil) (.node (b3Sub 9 17) .nil .nil)))) (.node (o12s P) (.node (o20s P) (.node (o36_2 P) (.node (o68_4 P) .nil .nil) (.node (o100_12 P) .nil .nil)) (.node (o52_3 P) (.node (o84_8 P) .nil .nil) (.node (b3Sub 5 17) .nil .nil))) (.node (o28p P) (.node (o44_2 P) (.node (o76_7 P) .nil .nil) (.node (o108_13 P) .nil .nil)) (.node (o60_4 P) (.node (o92_10 P) .nil .nil) (.node (b3Sub 13 17) .nil .nil))))) (.node (o6s P) (.node (o10s P) (.node (o18s P) (.node (o34_2 P) (.node (o66_4 P) .nil .nil) (.node (o98_12 P) .nil .nil)) (.node (o50_3 P) (.node (o82_8 P) .nil .nil) (.node (b3Sub 3 17) .nil .nil))) (.node (o26s P) (.node (o42_2 P) (.node (o74_5 P) .nil .nil) (.node (o106_13 P) .nil .nil)) (.node (o58_4 P) (.node (o90_10 P) .nil .nil) (.node (b3Sub 11 17) .nil .nil)))) (.node (o14s P) (.node (o22s P) (.node (o38_2 P) (.node (o70_5 P) .nil .nil) (.node (o102_12 P) .nil .nil)) (.node (o54_3 P) (.node (o86_10 P) .nil .nil) (.node (b3Sub 7 17) .nil .nil))) (.node (o30p P) (.node (o46_3 P) (.node (o78_7 P) .nil .nil) (.node (o110_13 P) .nil .nil)) (.node (o62_4 P) (.node (o94_12 P) .nil .nil) (.node (b3Sub 15 17) .nil .nil)))))))
noncomputable def B_18 (P : Params) : BT := (.node (o0s P) (.node (o1s P) (.node (o3_13 P) (.node (o7s P) (.node (o15s P) (.node (o31p P) (.node (o63_4 P) (.node (b3Sub 16 17) .nil .nil) .nil) (.node (o95_12 P) .nil .nil)) (.node (o47_3 P) (.node (o79_7 P) .nil .nil) (.node (b3Dict 323) .nil .nil))) (.node (o23s P) (.node (o39_2 P) (.node (o71_5 P) .nil .nil) (.node (o103_12 P) .nil .nil)) (.node (o55_3 P) (.node (o87_10 P) .nil .nil) (.node (b3Sub 8 17) .nil .nil)))) (.node (o11s P) (.node (o19s P) (.node (o35_2 P) (.node (o67_4 P) .nil .nil) (.node (o99_12 P) .nil .nil)) (.node (o51_3 P) (.node (o83_8 P) .nil .nil) (.node (b3Sub 4 17) .nil .nil))) (.node (o27s P) (.node (o43_2 P) (.node (o75_5 P) .nil .nil) (.node (o107_13 P) .nil .nil)) (.node (o59_4 P) (.node (o91_10 P) .nil .nil) (.node (b3Sub 12 17) .nil .nil))))) (.node (o5s P) (.node (o9s P) (.node (o17s P) (.node (o33_2 P) (.node (o65_4 P) (.node (b3Sub 18 17) .nil .nil) .nil) (.node (o97_12 P) .nil .nil)) (.node (o49_3 P) (.node (o81_8 P) .nil .nil) (.node (b3Sub 2 17) .nil .nil))) (.node (o25s P) (.node (o41_4 P) (.node (o73_5 P) .nil .nil) (.node (o105_13 P) .nil .nil)) (.node (o57_4 P) (.node (o89_10 P) .nil .nil) (.node (b3Sub 10 17) .nil .nil)))) (.node (o13s P) (.node (o21s P) (.node (o37_2 P) (.node (o69_5 P) .nil .nil) (.node (o101_12 P) .nil .nil)) (.node (o53_3 P) (.node (o85_8 P) .nil .nil) (.node (b3Sub 6 17) .nil .nil))) (.node (o29_13 P) (.node (o45_3 P) (.node (o77_7 P) .nil .nil) (.node (o109_13 P) .nil .nil)) (.node (o61_4 P) (.node (o93_12 P) .nil .nil) (.node (b3Sub 14 17) .nil .nil)))))) (.node (o2_2 P) (.node (o4s P) (.node (o8s P) (.node (o16s P) (.node (o32_2 P) (.node (o64_4 P) (.node (b3Sub 17 17) .nil .nil) .nil) (.node (o96_12 P) .nil .nil)) (.node (o48_3 P) (.node (o80_7 P) .nil .nil) (.node (b3Sub 1 17) .nil .nil))) (.node (o24s P) (.node (o40_2 P) (.node (o72_5 P) .nil .nil) (.node (o104_13 P) .nil .nil)) (.node (o56_3 P) (.node (o88_10 P) .nil .nil) (.node (b3Sub 9 17) .nil .nil)))) (.node (o12s P) (.node (o20s P) (.node (o36_2 P) (.node (o68_4 P) .nil .nil) (.node (o100_12 P) .nil .nil)) (.node (o52_3 P) (.node (o84_8 P) .nil .nil) (.node (b3Sub 5 17) .nil .nil))) (.node (o28p P) (.node (o44_2 P) (.node (o76_7 P) .nil .nil) (.node (o108_13 P) .nil .nil)) (.node (o60_4 P) (.node (o92_10 P) .nil .nil) (.node (b3Sub 13 17) .nil .nil))))) (.node (o6s P) (.node (o10s P) (.node (o18s P) (.node (o34_2 P) (.node (o66_4 P) .nil .nil) (.node (o98_12 P) .nil .nil)) (.node (o50_3 P) (.node (o82_8 P) .nil .nil) (.node (b3Sub 3 17) .nil .nil))) (.node (o26s P) (.node (o42_2 P) (.node (o74_5 P) .nil .nil) (.node (o106_13 P) .nil .nil)) (.node (o58_4 P) (.node (o90_10 P) .nil .nil) (.node (b3Sub 11 17) .nil .nil)))) (.node (o14s P) (.node (o22s P) (.node (o38_2 P) (.node (o70_5 P) .nil .nil) (.node (o102_12 P) .nil .nil)) (.node (o54_3 P) (.node (o86_10 P) .nil .nil) (.node (b3Sub 7 17) .nil .nil))) (.node (o30p P) (.node (o46_3 P) (.node (o78_7 P) .nil .nil) (.node (o110_13 P) .nil .nil)) (.node (o62_4 P) (.node (o94_12 P) .nil .nil) (.node (b3Sub 15 17) .nil .nil)))))))
noncomputable def B_19 (P : Params) : BT := (.node (o0s P) (.node (o1s P) (.node (o3_13 P) (.node (o7s P) (.node (o15s P) (.node (o31p P) (.node (o63_4 P) (.node (b3Sub 16 17) .nil .nil) .nil) (.node (o95_12 P) .nil .nil)) (.node (o47_3 P) (.node (o79_7 P) .nil .nil) (.node (b3Dict 340) .nil .nil))) (.node (o23s P) (.node (o39_2 P) (.node (o71_5 P) .nil .nil) (.node (o103_12 P) .nil .nil)) (.node (o55_3 P) (.node (o87_10 P) .nil .nil) (.node (b3Sub 8 17) .nil .nil)))) (.node (o11s P) (.node (o19s P) (.node (o35_2 P) (.node (o67_4 P) .nil .nil) (.node (o99_12 P) .nil .nil)) (.node (o51_3 P) (.node (o83_8 P) .nil .nil) (.node (b3Sub 4 17) .nil .nil))) (.node (o27s P) (.node (o43_2 P) (.node (o75_5 P) .nil .nil) (.node (o107_13 P) .nil .nil)) (.node (o59_4 P) (.node (o91_10 P) .nil .nil) (.node (b3Sub 12 17) .nil .nil))))) (.node (o5s P) (.node (o9s P) (.node (o17s P) (.node (o33_2 P) (.node (o65_4 P) (.node (b3Sub 18 17) .nil .nil) .nil) (.node (o97_12 P) .nil .nil)) (.node (o49_3 P) (.node (o81_8 P) .nil .nil) (.node (b3Sub 2 17) .nil .nil))) (.node (o25s P) (.node (o41_4 P) (.node (o73_5 P) .nil .nil) (.node (o105_13 P) .nil .nil)) (.node (o57_4 P) (.node (o89_10 P) .nil .nil) (.node (b3Sub 10 17) .nil .nil)))) (.node (o13s P) (.node (o21s P) (.node (o37_2 P) (.node (o69_5 P) .nil .nil) (.node (o101_12 P) .nil .nil)) (.node (o53_3 P) (.node (o85_8 P) .nil .nil) (.node (b3Sub 6 17) .nil .nil))) (.node (o29_13 P) (.node (o45_3 P) (.node (o77_7 P) .nil .nil) (.node (o109_13 P) .nil .nil)) (.node (o61_4 P) (.node (o93_12 P) .nil .nil) (.node (b3Sub 14 17) .nil .nil)))))) (.node (o2_2 P) (.node (o4s P) (.node (o8s P) (.node (o16s P) (.node (o32_2 P) (.node (o64_4 P) (.node (b3Sub 17 17) .nil .nil) .nil) (.node (o96_12 P) .nil .nil)) (.node (o48_3 P) (.node (o80_7 P) .nil .nil) (.node (b3Sub 1 17) .nil .nil))) (.node (o24s P) (.node (o40_2 P) (.node (o72_5 P) .nil .nil) (.node (o104_13 P) .nil .nil)) (.node (o56_3 P) (.node (o88_10 P) .nil .nil) (.node (b3Sub 9 17) .nil .nil)))) (.node (o12s P) (.node (o20s P) (.node (o36_2 P) (.node (o68_4 P) .nil .nil) (.node (o100_12 P) .nil .nil)) (.node (o52_3 P) (.node (o84_8 P) .nil .nil) (.node (b3Sub 5 17) .nil .nil))) (.node (o28p P) (.node (o44_2 P) (.node (o76_7 P) .nil .nil) (.node (o108_13 P) .nil .nil)) (.node (o60_4 P) (.node (o92_10 P) .nil .nil) (.node (b3Sub 13 17) .nil .nil))))) (.node (o6s P) (.node (o10s P) (.node (o18s P) (.node (o34_2 P) (.node (o66_4 P) (.node (b3Sub 19 17) .nil .nil) .nil) (.node (o98_12 P) .nil .nil)) (.node (o50_3 P) (.node (o82_8 P) .nil .nil) (.node (b3Sub 3 17) .nil .nil))) (.node (o26s P) (.node (o42_2 P) (.node (o74_5 P) .nil .nil) (.node (o106_13 P) .nil .nil)) (.node (o58_4 P) (.node (o90_10 P) .nil .nil) (.node (b3Sub 11 17) .nil .nil)))) (.node (o14s P) (.node (o22s P) (.node (o38_2 P) (.node (o70_5 P) .nil .nil) (.node (o102_12 P) .nil .nil)) (.node (o54_3 P) (.node (o86_10 P) .nil .nil) (.node (b3Sub 7 17) .nil .nil))) (.node (o30p P) (.node (o46_3 P) (.node (o78_7 P) .nil .nil) (.node (o110_13 P) .nil .nil)) (.node (o62_4 P) (.node (o94_12 P) .nil .nil) (.node (b3Sub 15 17) .nil .nil)))))))
noncomputable def B_20 (P : Params) : BT := (.node (o0s P) (.node (o1s P) (.node (o3_13 P) (.node (o7s P) (.node (o15s P) (.node (o31p P) (.node (o63_4 P) (.node (b3Sub 16 17) .nil .nil) .nil) (.node (o95_12 P) .nil .nil)) (.node (o47_3 P) (.node (o79_7 P) .nil .nil) (.node (b3Dict 357) .nil .nil))) (.node (o23s P) (.node (o39_2 P) (.node (o71_5 P) .nil .nil) (.node (o103_12 P) .nil .nil)) (.node (o55_3 P) (.node (o87_10 P) .nil .nil) (.node (b3Sub 8 17) .nil .nil)))) (.node (o11s P) (.node (o19s P) (.node (o35_2 P) (.node (o67_4 P) (.node (b3Sub 20 17) .nil .nil) .nil) (.node (o99_12 P) .nil .nil)) (.node (o51_3 P) (.node (o83_8 P) .nil .nil) (.node (b3Sub 4 17) .nil .nil))) (.node (o27s P) (.node (o43_2 P) (.node (o75_5 P) .nil .nil) (.node (o107_13 P) .nil .nil)) (.node (o59_4 P) (.node (o91_10 P) .nil .nil) (.node (b3Sub 12 17) .nil .nil))))) (.node (o5s P) (.node (o9s P) (.node (o17s P) (.node (o33_2 P) (.node (o65_4 P) (.node (b3Sub 18 17) .nil .nil) .nil) (.node (o97_12 P) .nil .nil)) (.node (o49_3 P) (.node (o81_8 P) .nil .nil) (.node (b3Sub 2 17) .nil .nil))) (.node (o25s P) (.node (o41_4 P) (.node (o73_5 P) .nil .nil) (.node (o105_13 P) .nil .nil)) (.node (o57_4 P) (.node (o89_10 P) .nil .nil) (.node (b3Sub 10 17) .nil .nil)))) (.node (o13s P) (.node (o21s P) (.node (o37_2 P) (.node (o69_5 P) .nil .nil) (.node (o101_12 P) .nil .nil)) (.node (o53_3 P) (.node (o85_8 P) .nil .nil) (.node (b3Sub 6 17) .nil .nil))) (.node (o29_13 P) (.node (o45_3 P) (.node (o77_7 P) .nil .nil) (.node (o109_13 P) .nil .nil)) (.node (o61_4 P) (.node (o93_12 P) .nil .nil) (.node (b3Sub 14 17) .nil .nil)))))) (.node (o2_2 P) (.node (o4s P) (.node (o8s P) (.node (o16s P) (.node (o32_2 P) (.node (o64_4 P) (.node (b3Sub 17 17) .nil .nil) .nil) (.node (o96_12 P) .nil .nil)) (.node (o48_3 P) (.node (o80_7 P) .nil .nil) (.node (b3Sub 1 17) .nil .nil))) (.node (o24s P) (.node (o40_2 P) (.node (o72_5 P) .nil .nil) (.node (o104_13 P) .nil .nil)) (.node (o56_3 P) (.node (o88_10 P) .nil .nil) (.node (b3Sub 9 17) .nil .nil)))) (.node (o12s P) (.node (o20s P) (.node (o36_2 P) (.node (o68_4 P) .nil .nil) (.node (o100_12 P) .nil .nil)) (.node (o52_3 P) (.node (o84_8 P) .nil .nil) (.node (b3Sub 5 17) .nil .nil))) (.node (o28p P) (.node (o44_2 P) (.node (o76_7 P) .nil .nil) (.node (o108_13 P) .nil .nil)) (.node (o60_4 P) (.node (o92_10 P) .nil .nil) (.node (b3Sub 13 17) .nil .nil))))) (.node (o6s P) (.node (o10s P) (.node (o18s P) (.node (o34_2 P) (.node (o66_4 P) (.node (b3Sub 19 17) .nil .nil) .nil) (.node (o98_12 P) .nil .nil)) (.node (o50_3 P) (.node (o82_8 P) .nil .nil) (.node (b3Sub 3 17) .nil .nil))) (.node (o26s P) (.node (o42_2 P) (.node (o74_5 P) .nil .nil) (.node (o106_13 P) .nil .nil)) (.node (o58_4 P) (.node (o90_10 P) .nil .nil) (.node (b3Sub 11 17) .nil .nil)))) (.node (o14s P) (.node (o22s P) (.node (o38_2 P) (.node (o70_5 P) .nil .nil) (.node (o102_12 P) .nil .nil)) (.node (o54_3 P) (.node (o86_10 P) .nil .nil) (.node (b3Sub 7 17) .nil .nil))) (.node (o30p P) (.node (o46_3 P) (.node (o78_7 P) .nil .nil) (.node (o110_13 P) .nil .nil)) (.node (o62_4 P) (.node (o94_12 P) .nil .nil) (.node (b3Sub 15 17) .nil .nil)))))))
noncomputable def B_21 (P : Params) : BT := (.node (o0s P) (.node (o1s P) (.node (o3_13 P) (.node (o7s P) (.node (o15s P) (.node (o31p P) (.node (o63_4 P) (.node (b3Sub 16 17) .nil .nil) .nil) (.node (o95_12 P) .nil .nil)) (.node (o47_3 P) (.node (o79_7 P) .nil .nil) (.node (b3Dict 374) .nil .nil))) (.node (o23s P) (.node (o39_2 P) (.node (o71_5 P) .nil .nil) (.node (o103_12 P) .nil .nil)) (.node (o55_3 P) (.node (o87_10 P) .nil .nil) (.node (b3Sub 8 17) .nil .nil)))) (.node (o11s P) (.node (o19s P) (.node (o35_2 P) (.node (o67_4 P) (.node (b3Sub 20 17) .nil .nil) .nil) (.node (o99_12 P) .nil .nil)) (.node (o51_3 P) (.node (o83_8 P) .nil .nil) (.node (b3Sub 4 17) .nil .nil))) (.node (o27s P) (.node (o43_2 P) (.node (o75_5 P) .nil .nil) (.node (o107_13 P) .nil .nil)) (.node (o59_4 P) (.node (o91_10 P) .nil .nil) (.node (b3Sub 12 17) .nil .nil))))) (.node (o5s P) (.node (o9s P) (.node (o17s P) (.node (o33_2 P) (.node (o65_4 P) (.node (b3Sub 18 17) .nil .nil) .nil) (.node (o97_12 P) .nil .nil)) (.node (o49_3 P) (.node (o81_8 P) .nil .nil) (.node (b3Sub 2 17) .nil .nil))) (.node (o25s P) (.node (o41_4 P) (.node (o73_5 P) .nil .nil) (.node (o105_13 P) .nil .nil)) (.node (o57_4 P) (.node (o89_10 P) .nil .nil) (.node (b3Sub 10 17) .nil .nil)))) (.node (o13s P) (.node (o21s P) (.node (o37_2 P) (.node (o69_5 P) .nil .nil) (.node (o101_12 P) .nil .nil)) (.node (o53_3 P) (.node (o85_8 P) .nil .nil) (.node (b3Sub 6 17) .nil .nil))) (.node (o29_13 P) (.node (o45_3 P) (.node (o77_7 P) .nil .nil) (.node (o109_13 P) .nil .nil)) (.node (o61_4 P) (.node (o93_12 P) .nil .nil) (.node (b3Sub 14 17) .nil .nil)))))) (.node (o2_2 P) (.node (o4s P) (.node (o8s P) (.node (o16s P) (.node (o32_2 P) (.node (o64_4 P) (.node (b3Sub 17 17) .nil .nil) .nil) (.node (o96_12 P) .nil .nil)) (.node (o48_3 P) (.node (o80_7 P) .nil .nil) (.node (b3Sub 1 17) .nil .nil))) (.node (o24s P) (.node (o40_2 P) (.node (o72_5 P) .nil .nil) (.node (o104_13 P) .nil .nil)) (.node (o56_3 P) (.node (o88_10 P) .nil .nil) (.node (b3Sub 9 17) .nil .nil)))) (.node (o12s P) (.node (o20s P) (.node (o36_2 P) (.node (o68_4 P) (.node (b3Sub 21 17) .nil .nil) .nil) (.node (o100_12 P) .nil .nil)) (.node (o52_3 P) (.node (o84_8 P) .nil .nil) (.node (b3Sub 5 17) .nil .nil))) (.node (o28p P) (.node (o44_2 P) (.node (o76_7 P) .nil .nil) (.node (o108_13 P) .nil .nil)) (.node (o60_4 P) (.node (o92_10 P) .nil .nil) (.node (b3Sub 13 17) .nil .nil))))) (.node (o6s P) (.node (o10s P) (.node (o18s P) (.node (o34_2 P) (.node (o66_4 P) (.node (b3Sub 19 17) .nil .nil) .nil) (.node (o98_12 P) .nil .nil)) (.node (o50_3 P) (.node (o82_8 P) .nil .nil) (.node (b3Sub 3 17) .nil .nil))) (.node (o26s P) (.node (o42_2 P) (.node (o74_5 P) .nil .nil) (.node (o106_13 P) .nil .nil)) (.node (o58_4 P) (.node (o90_10 P) .nil .nil) (.node (b3Sub 11 17) .nil .nil)))) (.node (o14s P) (.node (o22s P) (.node (o38_2 P) (.node (o70_5 P) .nil .nil) (.node (o102_12 P) .nil .nil)) (.node (o54_3 P) (.node (o86_10 P) .nil .nil) (.node (b3Sub 7 17) .nil .nil))) (.node (o30p P) (.node (o46_3 P) (.node (o78_7 P) .nil .nil) (.node (o110_13 P) .nil .nil)) (.node (o62_4 P) (.node (o94_12 P) .nil .nil) (.node (b3Sub 15 17) .nil .nil)))))))
noncomputable def B_22 (P : Params) : BT := (.node (o0s P) (.node (o1s P) (.node (o3_13 P) (.node (o7s P) (.node (o15s P) (.node (o31p P) (.node (o63_4 P) (.node (b3Sub 16 17) .nil .nil) .nil) (.node (o95_12 P) .nil .nil)) (.node (o47_3 P) (.node (o79_7 P) .nil .nil) (.node (b3Dict 391) .nil .nil))) (.node (o23s P) (.node (o39_2 P) (.node (o71_5 P) .nil .nil) (.node (o103_12 P) .nil .nil)) (.node (o55_3 P) (.node (o87_10 P) .nil .nil) (.node (b3Sub 8 17) .nil .nil)))) (.node (o11s P) (.node (o19s P) (.node (o35_2 P) (.node (o67_4 P) (.node (b3Sub 20 17) .nil .nil) .nil) (.node (o99_12 P) .nil .nil)) (.node (o51_3 P) (.node (o83_8 P) .nil .nil) (.node (b3Sub 4 17) .nil .nil))) (.node (o27s P) (.node (o43_2 P) (.node (o75_5 P) .nil .nil) (.node (o107_13 P) .nil .nil)) (.node (o59_4 P) (.node (o91_10 P) .nil .nil) (.node (b3Sub 12 17) .nil .nil))))) (.node (o5s P) (.node (o9s P) (.node (o17s P) (.node (o33_2 P) (.node (o65_4 P) (.node (b3Sub 18 17) .nil .nil) .nil) (.node (o97_12 P) .nil .nil)) (.node (o49_3 P) (.node (o81_8 P) .nil .nil) (.node (b3Sub 2 17) .nil .nil))) (.node (o25s P) (.node (o41_4 P) (.node (o73_5 P) .nil .nil) (.node (o105_13 P) .nil .nil)) (.node (o57_4 P) (.node (o89_10 P) .nil .nil) (.node (b3Sub 10 17) .nil .nil)))) (.node (o13s P) (.node (o21s P) (.node (o37_2 P) (.node (o69_5 P) (.node (b3Sub 22 17) .nil .nil) .nil) (.node (o101_12 P) .nil .nil)) (.node (o53_3 P) (.node (o85_8 P) .nil .nil) (.node (b3Sub 6 17) .nil .nil))) (.node (o29_13 P) (.node (o45_3 P) (.node (o77_7 P) .nil .nil) (.node (o109_13 P) .nil .nil)) (.node (o61_4 P) (.node (o93_12 P) .nil .nil) (.node (b3Sub 14 17) .nil .nil)))))) (.node (o2_2 P) (.node (o4s P) (.node (o8s P) (.node (o16s P) (.node (o32_2 P) (.node (o64_4 P) (.node (b3Sub 17 17) .nil .nil) .nil) (.node (o96_12 P) .nil .nil)) (.node (o48_3 P) (.node (o80_7 P) .nil .nil) (.node (b3Sub 1 17) .nil .nil))) (.node (o24s P) (.node (o40_2 P) (.node (o72_5 P) .nil .nil) (.node (o104_13 P) .nil .nil)) (.node (o56_3 P) (.node (o88_10 P) .nil .nil) (.node (b3Sub 9 17) .nil .nil)))) (.node (o12s P) (.node (o20s P) (.node (o36_2 P) (.node (o68_4 P) (.node (b3Sub 21 17) .nil .nil) .nil) (.node (o100_12 P) .nil .nil)) (.node (o52_3 P) (.node (o84_8 P) .nil .nil) (.node (b3Sub 5 17) .nil .nil))) (.node (o28p P) (.node (o44_2 P) (.node (o76_7 P) .nil .nil) (.node (o108_13 P) .nil .nil)) (.node (o60_4 P) (.node (o92_10 P) .nil .nil) (.node (b3Sub 13 17) .nil .nil))))) (.node (o6s P) (.node (o10s P) (.node (o18s P) (.node (o34_2 P) (.node (o66_4 P) (.node (b3Sub 19 17) .nil .nil) .nil) (.node (o98_12 P) .nil .nil)) (.node (o50_3 P) (.node (o82_8 P) .nil .nil) (.node (b3Sub 3 17) .nil .nil))) (.node (o26s P) (.node (o42_2 P) (.node (o74_5 P) .nil .nil) (.node (o106_13 P) .nil .nil)) (.node (o58_4 P) (.node (o90_10 P) .nil .nil) (.node (b3Sub 11 17) .nil .nil)))) (.node (o14s P) (.node (o22s P) (.node (o38_2 P) (.node (o70_5 P) .nil .nil) (.node (o102_12 P) .nil .nil)) (.node (o54_3 P) (.node (o86_10 P) .nil .nil) (.node (b3Sub 7 17) .nil .nil))) (.node (o30p P) (.node (o46_3 P) (.node (o78_7 P) .nil .nil) (.node (o110_13 P) .nil .nil)) (.node (o62_4 P) (.node (o94_12 P) .nil .nil) (.node (b3Sub 15 17) .nil .nil)))))))
noncomputable def B_23 (P : Params) : BT := (.node (o0s P) (.node (o1s P) (.node (o3_13 P) (.node (o7s P) (.node (o15s P) (.node (o31p P) (.node (o63_4 P) (.node (b3Sub 16 17) .nil .nil) .nil) (.node (o95_12 P) .nil .nil)) (.node (o47_3 P) (.node (o79_7 P) .nil .nil) (.node (b3Dict 408) .nil .nil))) (.node (o23s P) (.node (o39_2 P) (.node (o71_5 P) .nil .nil) (.node (o103_12 P) .nil .nil)) (.node (o55_3 P) (.node (o87_10 P) .nil .nil) (.node (b3Sub 8 17) .nil .nil)))) (.node (o11s P) (.node (o19s P) (.node (o35_2 P) (.node (o67_4 P) (.node (b3Sub 20 17) .nil .nil) .nil) (.node (o99_12 P) .nil .nil)) (.node (o51_3 P) (.node (o83_8 P) .nil .nil) (.node (b3Sub 4 17) .nil .nil))) (.node (o27s P) (.node (o43_2 P) (.node (o75_5 P) .nil .nil) (.node (o107_13 P) .nil .nil)) (.node (o59_4 P) (.node (o91_10 P) .nil .nil) (.node (b3Sub 12 17) .nil .nil))))) (.node (o5s P) (.node (o9s P) (.node (o17s P) (.node (o33_2 P) (.node (o65_4 P) (.node (b3Sub 18 17) .nil .nil) .nil) (.node (o97_12 P) .nil .nil)) (.node (o49_3 P) (.node (o81_8 P) .nil .nil) (.node (b3Sub 2 17) .nil .nil))) (.node (o25s P) (.node (o41_4 P) (.node (o73_5 P) .nil .nil) (.node (o105_13 P) .nil .nil)) (.node (o57_4 P) (.node (o89_10 P) .nil .nil) (.node (b3Sub 10 17) .nil .nil)))) (.node (o13s P) (.node (o21s P) (.node (o37_2 P) (.node (o69_5 P) (.node (b3Sub 22 17) .nil .nil) .nil) (.node (o101_12 P) .nil .nil)) (.node (o53_3 P) (.node (o85_8 P) .nil .nil) (.node (b3Sub 6 17) .nil .nil))) (.node (o29_13 P) (.node (o45_3 P) (.node (o77_7 P) .nil .nil) (.node (o109_13 P) .nil .nil)) (.node (o61_4 P) (.node (o93_12 P) .nil .nil) (.node (b3Sub 14 17) .nil .nil)))))) (.node (o2_2 P) (.node (o4s P) (.node (o8s P) (.node (o16s P) (.node (o32_2 P) (.node (o64_4 P) (.node (b3Sub 17 17) .nil .nil) .nil) (.node (o96_12 P) .nil .nil)) (.node (o48_3 P) (.node (o80_7 P) .nil .nil) (.node (b3Sub 1 17) .nil .nil))) (.node (o24s P) (.node (o40_2 P) (.node (o72_5 P) .nil .nil) (.node (o104_13 P) .nil .nil)) (.node (o56_3 P) (.node (o88_10 P) .nil .nil) (.node (b3Sub 9 17) .nil .nil)))) (.node (o12s P) (.node (o20s P) (.node (o36_2 P) (.node (o68_4 P) (.node (b3Sub 21 17) .nil .nil) .nil) (.node (o100_12 P) .nil .nil)) (.node (o52_3 P) (.node (o84_8 P) .nil .nil) (.node (b3Sub 5 17) .nil .nil))) (.node (o28p P) (.node (o44_2 P) (.node (o76_7 P) .nil .nil) (.node (o108_13 P) .nil .nil)) (.node (o60_4 P) (.node (o92_10 P) .nil .nil) (.node (b3Sub 13 17) .nil .nil))))) (.node (o6s P) (.node (o10s P) (.node (o18s P) (.node (o34_2 P) (.node (o66_4 P) (.node (b3Sub 19 17) .nil .nil) .nil) (.node (o98_12 P) .nil .nil)) (.node (o50_3 P) (.node (o82_8 P) .nil .nil) (.node (b3Sub 3 17) .nil .nil))) (.node (o26s P) (.node (o42_2 P) (.node (o74_5 P) .nil .nil) (.node (o106_13 P) .nil .nil)) (.node (o58_4 P) (.node (o90_10 P) .nil .nil) (.node (b3Sub 11 17) .nil .nil)))) (.node (o14s P) (.node (o22s P) (.node (o38_2 P) (.node (o70_5 P) (.node (b3Sub 23 17) .nil .nil) .nil) (.node (o102_12 P) .nil .nil)) (.node (o54_3 P) (.node (o86_10 P) .nil .nil) (.node (b3Sub 7 17) .nil .nil))) (.node (o30p P) (.node (o46_3 P) (.node (o78_7 P) .nil .nil) (.node (o110_13 P) .nil .nil)) (.node (o62_4 P) (.node (o94_12 P) .nil .nil) (.node (b3Sub 15 17) .nil .nil)))))))
noncomputable def B_24 (P : Params) : BT := (.node (o0s P) (.node (o1s P) (.node (o3_13 P) (.node (o7s P) (.node (o15s P) (.node (o31p P) (.node (o63_4 P) (.node (b3Sub 16 17) .nil .nil) .nil) (.node (o95_12 P) .nil .nil)) (.node (o47_3 P) (.node (o79_7 P) .nil .nil) (.node (b3Dict 425) .nil .nil))) (.node (o23s P) (.node (o39_2 P) (.node (o71_5 P) (.node (b3Sub 24 17) .nil .nil) .nil) (.node (o103_12 P) .nil .nil)) (.node (o55_3 P) (.node (o87_10 P) .nil .nil) (.node (b3Sub 8 17) .nil .nil)))) (.node (o11s P) (.node (o19s P) (.node (o35_2 P) (.node (o67_4 P) (.node (b3Sub 20 17) .nil .nil) .nil) (.node (o99_12 P) .nil .nil)) (.node (o51_3 P) (.node (o83_8 P) .nil .nil) (.node (b3Sub 4 17) .nil .nil))) (.node (o27s P) (.node (o43_2 P) (.node (o75_5 P) .nil .nil) (.node (o107_13 P) .nil .nil)) (.node (o59_4 P) (.node (o91_10 P) .nil .nil) (.node (b3Sub 12 17) .nil .nil))))) (.node (o5s P) (.node (o9s P) (.node (o17s P) (.node (o33_2 P) (.node (o65_4 P) (.node (b3Sub 18 17) .nil .nil) .nil) (.node (o97_12 P) .nil .nil)) (.node (o49_3 P) (.node (o81_8 P) .nil .nil) (.node (b3Sub 2 17) .nil .nil))) (.node (o25s P) (.node (o41_4 P) (.node (o73_5 P) .nil .nil) (.node (o105_13 P) .nil .nil)) (.node (o57_4 P) (.node (o89_10 P) .nil .nil) (.node (b3Sub 10 17) .nil .nil)))) (.node (o13s P) (.node (o21s P) (.node (o37_2 P) (.node (o69_5 P) (.node (b3Sub 22 17) .nil .nil) .nil) (.node (o101_12 P) .nil .nil)) (.node (o53_3 P) (.node (o85_8 P) .nil .nil) (.node (b3Sub 6 17) .nil .nil))) (.node (o29_13 P) (.node (o45_3 P) (.node (o77_7 P) .nil .nil) (.node (o109_13 P) .nil .nil)) (.node (o61_4 P) (.node (o93_12 P) .nil .nil) (.node (b3Sub 14 17) .nil .nil)))))) (.node (o2_2 P) (.node (o4s P) (.node (o8s P) (.node (o16s P) (.node (o32_2 P) (.node (o64_4 P) (.node (b3Sub 17 17) .nil .nil) .nil) (.node (o96_12 P) .nil .nil)) (.node (o48_3 P) (.node (o80_7 P) .nil .nil) (.node (b3Sub 1 17) .nil .nil))) (.node (o24s P) (.node (o40_2 P) (.node (o72_5 P) .nil .nil) (.node (o104_13 P) .nil .nil)) (.node (o56_3 P) (.node (o88_10 P) .nil .nil) (.node (b3Sub 9 17) .nil .nil)))) (.node (o12s P) (.node (o20s P) (.node (o36_2 P) (.node (o68_4 P) (.node (b3Sub 21 17) .nil .nil) .nil) (.node (o100_12 P) .nil .nil)) (.node (o52_3 P) (.node (o84_8 P) .nil .nil) (.node (b3Sub 5 17) .nil .nil))) (.node (o28p P) (.node (o44_2 P) (.node (o76_7 P) .nil .nil) (.node (o108_13 P) .nil .nil)) (.node (o60_4 P) (.node (o92_10 P) .nil .nil) (.node (b3Sub 13 17) .nil .nil))))) (.node (o6s P) (.node (o10s P) (.node (o18s P) (.node (o34_2 P) (.node (o66_4 P) (.node (b3Sub 19 17) .nil .nil) .nil) (.node (o98_12 P) .nil .nil)) (.node (o50_3 P) (.node (o82_8 P) .nil .nil) (.node (b3Sub 3 17) .nil .nil))) (.node (o26s P) (.node (o42_2 P) (.node (o74_5 P) .nil .nil) (.node (o106_13 P) .nil .nil)) (.node (o58_4 P) (.node (o90_10 P) .nil .nil) (.node (b3Sub 11 17) .nil .nil)))) (.node (o14s P) (.node (o22s P) (.node (o38_2 P) (.node (o70_5 P) (.node (b3Sub 23 17) .nil .nil) .nil) (.node (o102_12 P) .nil .nil)) (.node (o54_3 P) (.node (o86_10 P) .nil .nil) (.node (b3Sub 7 17) .nil .nil))) (.node (o30p P) (.node (o46_3 P) (.node (o78_7 P) .nil .nil) (.node (o110_13 P) .nil .nil)) (.node (o62_4 P) (.node (o94_12 P) .nil .nil) (.node (b3Sub 15 17) .nil .nil)))))))
noncomputable def B_25 (P : Params) : BT := (.node (o0s P) (.node (o1s P) (.node (o3_13 P) (.node (o7s P) (.node (o15s P) (.node (o31p P) (.node (o63_4 P) (.node (b3Sub 16 17) .nil .nil) .nil) (.node (o95_12 P) .nil .nil)) (.node (o47_3 P) (.node (o79_7 P) .nil .nil) (.node (b3Dict 442) .nil .nil))) (.node (o23s P) (.node (o39_2 P) (.node (o71_5 P) (.node (b3Sub 24 17) .nil .nil) .nil) (.node (o103_12 P) .nil .nil)) (.node (o55_3 P) (.node (o87_10 P) .nil .nil) (.node (b3Sub 8 17) .nil .nil)))) (.node (o11s P) (.node (o19s P) (.node (o35_2 P) (.node (o67_4 P) (.node (b3Sub 20 17) .nil .nil) .nil) (.node (o99_12 P) .nil .nil)) (.node (o51_3 P) (.node (o83_8 P) .nil .nil) (.node (b3Sub 4 17) .nil .nil))) (.node (o27s P) (.node (o43_2 P) (.node (o75_5 P) .nil .nil) (.node (o107_13 P) .nil .nil)) (.node (o59_4 P) (.node (o91_10 P) .nil .nil) (.node (b3Sub 12 17) .nil .nil))))) (.node (o5s P) (.node (o9s P) (.node (o17s P) (.node (o33_2 P) (.node (o65_4 P) (.node (b3Sub 18 17) .nil .nil) .nil) (.node (o97_12 P) .nil .nil)) (.node (o49_3 P) (.node (o81_8 P) .nil .nil) (.node (b3Sub 2 17) .nil .nil))) (.node (o25s P) (.node (o41_4 P) (.node (o73_5 P) .nil .nil) (.node (o105_13 P) .nil .nil)) (.node (o57_4 P) (.node (o89_10 P) .nil .nil) (.node (b3Sub 10 17) .nil .nil)))) (.node (o13s P) (.node (o21s P) (.node (o37_2 P) (.node (o69_5 P) (.node (b3Sub 22 17) .nil .nil) .nil) (.node (o101_12 P) .nil .nil)) (.node (o53_3 P) (.node (o85_8 P) .nil .nil) (.node (b3Sub 6 17) .nil .nil))) (.node (o29_13 P) (.node (o45_3 P) (.node (o77_7 P) .nil .nil) (.node (o109_13 P) .nil .nil)) (.node (o61_4 P) (.node (o93_12 P) .nil .nil) (.node (b3Sub 14 17) .nil .nil)))))) (.node (o2_2 P) (.node (o4s P) (.node (o8s P) (.node (o16s P) (.node (o32_2 P) (.node (o64_4 P) (.node (b3Sub 17 17) .nil .nil) .nil) (.node (o96_12 P) .nil .nil)) (.node (o48_3 P) (.node (o80_7 P) .nil .nil) (.node (b3Sub 1 17) .nil .nil))) (.node (o24s P) (.node (o40_2 P) (.node (o72_5 P) (.node (b3Sub 25 17) .nil .nil) .nil) (.node (o104_13 P) .nil .nil)) (.node (o56_3 P) (.node (o88_10 P) .nil .nil) (.node (b3Sub 9 17) .nil .nil)))) (.node (o12s P) (.node (o20s P) (.node (o36_2 P) (.node (o68_4 P) (.node (b3Sub 21 17) .nil .nil) .nil) (.node (o100_12 P) .nil .nil)) (.node (o52_3 P) (.node (o84_8 P) .nil .nil) (.node (b3Sub 5 17) .nil .nil))) (.node (o28p P) (.node (o44_2 P) (.node (o76_7 P) .nil .nil) (.node (o108_13 P) .nil .nil)) (.node (o60_4 P) (.node (o92_10 P) .nil .nil) (.node (b3Sub 13 17) .nil .nil))))) (.node (o6s P) (.node (o10s P) (.node (o18s P) (.node (o34_2 P) (.node (o66_4 P) (.node (b3Sub 19 17) .nil .nil) .nil) (.node (o98_12 P) .nil .nil)) (.node (o50_3 P) (.node (o82_8 P) .nil .nil) (.node (b3Sub 3 17) .nil .nil))) (.node (o26s P) (.node (o42_2 P) (.node (o74_5 P) .nil .nil) (.node (o106_13 P) .nil .nil)) (.node (o58_4 P) (.node (o90_10 P) .nil .nil) (.node (b3Sub 11 17) .nil .nil)))) (.node (o14s P) (.node (o22s P) (.node (o38_2 P) (.node (o70_5 P) (.node (b3Sub 23 17) .nil .nil) .nil) (.node (o102_12 P) .nil .nil)) (.node (o54_3 P) (.node (o86_10 P) .nil .nil) (.node (b3Sub 7 17) .nil .nil))) (.node (o30p P) (.node (o46_3 P) (.node (o78_7 P) .nil .nil) (.node (o110_13 P) .nil .nil)) (.node (o62_4 P) (.node (o94_12 P) .nil .nil) (.node (b3Sub 15 17) .nil .nil)))))))
noncomputable def B_26 (P : Params) : BT := (.node (o0s P) (.node (o1s P) (.node (o3_13 P) (.node (o7s P) (.node (o15s P) (.node (o31p P) (.node (o63_4 P) (.node (b3Sub 16 17) .nil .nil) .nil) (.node (o95_12 P) .nil .nil)) (.node (o47_3 P) (.node (o79_7 P) .nil .nil) (.node (b3Dict 459) .nil .nil))) (.node (o23s P) (.node (o39_2 P) (.node (o71_5 P) (.node (b3Sub 24 17) .nil .nil) .nil) (.node (o103_12 P) .nil .nil)) (.node (o55_3 P) (.node (o87_10 P) .nil .nil) (.node (b3Sub 8 17) .nil .nil)))) (.node (o11s P) (.node (o19s P) (.node (o35_2 P) (.node (o67_4 P) (.node (b3Sub 20 17) .nil .nil) .nil) (.node (o99_12 P) .nil .nil)) (.node (o51_3 P) (.node (o83_8 P) .nil .nil) (.node (b3Sub 4 17) .nil .nil))) (.node (o27s P) (.node (o43_2 P) (.node (o75_5 P) .nil .nil) (.node (o107_13 P) .nil .nil)) (.node (o59_4 P) (.node (o91_10 P) .nil .nil) (.node (b3Sub 12 17) .nil .nil))))) (.node (o5s P) (.node (o9s P) (.node (o17s P) (.node (o33_2 P) (.node (o65_4 P) (.node (b3Sub 18 17) .nil .nil) .nil) (.node (o97_12 P) .nil .nil)) (.node (o49_3 P) (.node (o81_8 P) .nil .nil) (.node (b3Sub 2 17) .nil .nil))) (.node (o25s P) (.node (o41_4 P) (.node (o73_5 P) (.node (b3Sub 26 17) .nil .nil) .nil) (.node (o105_13 P) .nil .nil)) (.node (o57_4 P) (.node (o89_10 P) .nil .nil) (.node (b3Sub 10 17) .nil .nil)))) (.node (o13s P) (.node (o21s P) (.node (o37_2 P) (.node (o69_5 P) (.node (b3Sub 22 17) .nil .nil) .nil) (.node (o101_12 P) .nil .nil)) (.node (o53_3 P) (.node (o85_8 P) .nil .nil) (.node (b3Sub 6 17) .nil .nil))) (.node (o29_13 P) (.node (o45_3 P) (.node (o77_7 P) .nil .nil) (.node (o109_13 P) .nil .nil)) (.node (o61_4 P) (.node (o93_12 P) .nil .nil) (.node (b3Sub 14 17) .nil .nil)))))) (.node (o2_2 P) (.node (o4s P) (.node (o8s P) (.node (o16s P) (.node (o32_2 P) (.node (o64_4 P) (.node (b3Sub 17 17) .nil .nil) .nil) (.node (o96_12 P) .nil .nil)) (.node (o48_3 P) (.node (o80_7 P) .nil .nil) (.node (b3Sub 1 17) .nil .nil))) (.node (o24s P) (.node (o40_2 P) (.node (o72_5 P) (.node (b3Sub 25 17) .nil .nil) .nil) (.node (o104_13 P) .nil .nil)) (.node (o56_3 P) (.node (o88_10 P) .nil .nil) (.node (b3Sub 9 17) .nil .nil)))) (.node (o12s P) (.node (o20s P) (.node (o36_2 P) (.node (o68_4 P) (.node (b3Sub 21 17) .nil .nil) .nil) (.node (o100_12 P) .nil .nil)) (.node (o52_3 P) (.node (o84_8 P) .nil .nil) (.node (b3Sub 5 17) .nil .nil))) (.node (o28p P) (.node (o44_2 P) (.node (o76_7 P) .nil .nil) (.node (o108_13 P) .nil .nil)) (.node (o60_4 P) (.node (o92_10 P) .nil .nil) (.node (b3Sub 13 17) .nil .nil))))) (.node (o6s P) (.node (o10s P) (.node (o18s P) (.node (o34_2 P) (.node (o66_4 P) (.node (b3Sub 19 17) .nil .nil) .nil) (.node (o98_12 P) .nil .nil)) (.node (o50_3 P) (.node (o82_8 P) .nil .nil) (.node (b3Sub 3 17) .nil .nil))) (.node (o26s P) (.node (o42_2 P) (.node (o74_5 P) .nil .nil) (.node (o106_13 P) .nil .nil)) (.node (o58_4 P) (.node (o90_10 P) .nil .nil) (.node (b3Sub 11 17) .nil .nil)))) (.node (o14s P) (.node (o22s P) (.node (o38_2 P) (.node (o70_5 P) (.node (b3Sub 23 17) .nil .nil) .nil) (.node (o102_12 P) .nil .nil)) (.node (o54_3 P) (.node (o86_10 P) .nil .nil) (.node (b3Sub 7 17) .nil .nil))) (.node (o30p P) (.node (o46_3 P) (.node (o78_7 P) .nil .nil) (.node (o110_13 P) .nil .nil)) (.node (o62_4 P) (.node (o94_12 P) .nil .nil) (.node (b3Sub 15 17) .nil .nil)))))))
noncomputable def B_27 (P : Params) : BT := (.node (o0s P) (.node (o1s P) (.node (o3_13 P) (.node (o7s P) (.node (o15s P) (.node (o31p P) (.node (o63_4 P) (.node (b3Sub 16 17) .nil .nil) .nil) (.node (o95_12 P) .nil .nil)) (.node (o47_3 P) (.node (o79_7 P) .nil .nil) (.node (b3Dict 476) .nil .nil))) (.node (o23s P) (.node (o39_2 P) (.node (o71_5 P) (.node (b3Sub 24 17) .nil .nil) .nil) (.node (o103_12 P) .nil .nil)) (.node (o55_3 P) (.node (o87_10 P) .nil .nil) (.node (b3Sub 8 17) .nil .nil)))) (.node (o11s P) (.node (o19s P) (.node (o35_2 P) (.node (o67_4 P) (.node (b3Sub 20 17) .nil .nil) .nil) (.node (o99_12 P) .nil .nil)) (.node (o51_3 P) (.node (o83_8 P) .nil .nil) (.node (b3Sub 4 17) .nil .nil))) (.node (o27s P) (.node (o43_2 P) (.node (o75_5 P) .nil .nil) (.node (o107_13 P) .nil .nil)) (.node (o59_4 P) (.node (o91_10 P) .nil .nil) (.node (b3Sub 12 17) .nil .nil))))) (.node (o5s P) (.node (o9s P) (.node (o17s P) (.node (o33_2 P) (.node (o65_4 P) (.node (b3Sub 18 17) .nil .nil) .nil) (.node (o97_12 P) .nil .nil)) (.node (o49_3 P) (.node (o81_8 P) .nil .nil) (.node (b3Sub 2 17) .nil .nil))) (.node (o25s P) (.node (o41_4 P) (.node (o73_5 P) (.node (b3Sub 26 17) .nil .nil) .nil) (.node (o105_13 P) .nil .nil)) (.node (o57_4 P) (.node (o89_10 P) .nil .nil) (.node (b3Sub 10 17) .nil .nil)))) (.node (o13s P) (.node (o21s P) (.node (o37_2 P) (.node (o69_5 P) (.node (b3Sub 22 17) .nil .nil) .nil) (.node (o101_12 P) .nil .nil)) (.node (o53_3 P) (.node (o85_8 P) .nil .nil) (.node (b3Sub 6 17) .nil .nil))) (.node (o29_13 P) (.node (o45_3 P) (.node (o77_7 P) .nil .nil) (.node (o109_13 P) .nil .nil)) (.node (o61_4 P) (.node (o93_12 P) .nil .nil) (.node (b3Sub 14 17) .nil .nil)))))) (.node (o2_2 P) (.node (o4s P) (.node (o8s P) (.node (o16s P) (.node (o32_2 P) (.node (o64_4 P) (.node (b3Sub 17 17) .nil .nil) .nil) (.node (o96_12 P) .nil .nil)) (.node (o48_3 P) (.node (o80_7 P) .nil .nil) (.node (b3Sub 1 17) .nil .nil))) (.node (o24s P) (.node (o40_2 P) (.node (o72_5 P) (.node (b3Sub 25 17) .nil .nil) .nil) (.node (o104_13 P) .nil .nil)) (.node (o56_3 P) (.node (o88_10 P) .nil .nil) (.node (b3Sub 9 17) .nil .nil)))) (.node (o12s P) (.node (o20s P) (.node (o36_2 P) (.node (o68_4 P) (.node (b3Sub 21 17) .nil .nil) .nil) (.node (o100_12 P) .nil .nil)) (.node (o52_3 P) (.node (o84_8 P) .nil .nil) (.node (b3Sub 5 17) .nil .nil))) (.node (o28p P) (.node (o44_2 P) (.node (o76_7 P) .nil .nil) (.node (o108_13 P) .nil .nil)) (.node (o60_4 P) (.node (o92_10 P) .nil .nil) (.node (b3Sub 13 17) .nil .nil))))) (.node (o6s P) (.node (o10s P) (.node (o18s P) (.node (o34_2 P) (.node (o66_4 P) (.node (b3Sub 19 17) .nil .nil) .nil) (.node (o98_12 P) .nil .nil)) (.node (o50_3 P) (.node (o82_8 P) .nil .nil) (.node (b3Sub 3 17) .nil .nil))) (.node (o26s P) (.node (o42_2 P) (.node (o74_5 P) (.node (b3Sub 27 17) .nil .nil) .nil) (.node (o106_13 P) .nil .nil)) (.node (o58_4 P) (.node (o90_10 P) .nil .nil) (.node (b3Sub 11 17) .nil .nil)))) (.node (o14s P) (.node (o22s P) (.node (o38_2 P) (.node (o70_5 P) (.node (b3Sub 23 17) .nil .nil) .nil) (.node (o102_12 P) .nil .nil)) (.node (o54_3 P) (.node (o86_10 P) .nil .nil) (.node (b3Sub 7 17) .nil .nil))) (.node (o30p P) (.node (o46_3 P) (.node (o78_7 P) .nil .nil) (.node (o110_13 P) .nil .nil)) (.node (o62_4 P) (.node (o94_12 P) .nil .nil) (.node (b3Sub 15 17) .nil .nil)))))))
noncomputable def B_28 (P : Params) : BT := (.node (o0s P) (.node (o1s P) (.node (o3_13 P) (.node (o7s P) (.node (o15s P) (.node (o31p P) (.node (o63_4 P) (.node (b3Sub 16 17) .nil .nil) .nil) (.node (o95_12 P) .nil .nil)) (.node (o47_3 P) (.node (o79_7 P) .nil .nil) (.node (b3Dict 493) .nil .nil))) (.node (o23s P) (.node (o39_2 P) (.node (o71_5 P) (.node (b3Sub 24 17) .nil .nil) .nil) (.node (o103_12 P) .nil .nil)) (.node (o55_3 P) (.node (o87_10 P) .nil .nil) (.node (b3Sub 8 17) .nil .nil)))) (.node (o11s P) (.node (o19s P) (.node (o35_2 P) (.node (o67_4 P) (.node (b3Sub 20 17) .nil .nil) .nil) (.node (o99_12 P) .nil .nil)) (.node (o51_3 P) (.node (o83_8 P) .nil .nil) (.node (b3Sub 4 17) .nil .nil))) (.node (o27s P) (.node (o43_2 P) (.node (o75_5 P) (.node (b3Sub 28 17) .nil .nil) .nil) (.node (o107_13 P) .nil .nil)) (.node (o59_4 P) (.node (o91_10 P) .nil .nil) (.node (b3Sub 12 17) .nil .nil))))) (.node (o5s P) (.node (o9s P) (.node (o17s P) (.node (o33_2 P) (.node (o65_4 P) (.node (b3Sub 18 17) .nil .nil) .nil) (.node (o97_12 P) .nil .nil)) (.node (o49_3 P) (.node (o81_8 P) .nil .nil) (.node (b3Sub 2 17) .nil .nil))) (.node (o25s P) (.node (o41_4 P) (.node (o73_5 P) (.node (b3Sub 26 17) .nil .nil) .nil) (.node (o105_13 P) .nil .nil)) (.node (o57_4 P) (.node (o89_10 P) .nil .nil) (.node (b3Sub 10 17) .nil .nil)))) (.node (o13s P) (.node (o21s P) (.node (o37_2 P) (.node (o69_5 P) (.node (b3Sub 22 17) .nil .nil) .nil) (.node (o101_12 P) .nil .nil)) (.node (o53_3 P) (.node (o85_8 P) .nil .nil) (.node (b3Sub 6 17) .nil .nil))) (.node (o29_13 P) (.node (o45_3 P) (.node (o77_7 P) .nil .nil) (.node (o109_13 P) .nil .nil)) (.node (o61_4 P) (.node (o93_12 P) .nil .nil) (.node (b3Sub 14 17) .nil .nil)))))) (.node (o2_2 P) (.node (o4s P) (.node (o8s P) (.node (o16s P) (.node (o32_2 P) (.node (o64_4 P) (.node (b3Sub 17 17) .nil .nil) .nil) (.node (o96_12 P) .nil .nil)) (.node (o48_3 P) (.node (o80_7 P) .nil .nil) (.node (b3Sub 1 17) .nil .nil))) (.node (o24s P) (.node (o40_2 P) (.node (o72_5 P) (.node (b3Sub 25 17) .nil .nil) .nil) (.node (o104_13 P) .nil .nil)) (.node (o56_3 P) (.node (o88_10 P) .nil .nil) (.node (b3Sub 9 17) .nil .nil)))) (.node (o12s P) (.node (o20s P) (.node (o36_2 P) (.node (o68_4 P) (.node (b3Sub 21 17) .nil .nil) .nil) (.node (o100_12 P) .nil .nil)) (.node (o52_3 P) (.node (o84_8 P) .nil .nil) (.node (b3Sub 5 17) .nil .nil))) (.node (o28p P) (.node (o44_2 P) (.node (o76_7 P) .nil .nil) (.node (o108_13 P) .nil .nil)) (.node (o60_4 P) (.node (o92_10 P) .nil .nil) (.node (b3Sub 13 17) .nil .nil))))) (.node (o6s P) (.node (o10s P) (.node (o18s P) (.node (o34_2 P) (.node (o66_4 P) (.node (b3Sub 19 17) .nil .nil) .nil) (.node (o98_12 P) .nil .nil)) (.node (o50_3 P) (.node (o82_8 P) .nil .nil) (.node (b3Sub 3 17) .nil .nil))) (.node (o26s P) (.node (o42_2 P) (.node (o74_5 P) (.node (b3Sub 27 17) .nil .nil) .nil) (.node (o106_13 P) .nil .nil)) (.node (o58_4 P) (.node (o90_10 P) .nil .nil) (.node (b3Sub 11 17) .nil .nil)))) (.node (o14s P) (.node (o22s P) (.node (o38_2 P) (.node (o70_5 P) (.node (b3Sub 23 17) .nil .nil) .nil) (.node (o102_12 P) .nil .nil)) (.node (o54_3 P) (.node (o86_10 P) .nil .nil) (.node (b3Sub 7 17) .nil .nil))) (.node (o30p P) (.node (o46_3 P) (.node (o78_7 P) .nil .nil) (.node (o110_13 P) .nil .nil)) (.node (o62_4 P) (.node (o94_12 P) .nil .nil) (.node (b3Sub 15 17) .nil .nil)))))))
noncomputable def B_29 (P : Params) : BT := (.node (o0s P) (.node (o1s P) (.node (o3_13 P) (.node (o7s P) (.node (o15s P) (.node (o31p P) (.node (o63_4 P) (.node (b3Sub 16 17) .nil .nil) .nil) (.node (o95_12 P) .nil .nil)) (.node (o47_3 P) (.node (o79_7 P) .nil .nil) (.node (b3Dict 510) .nil .nil))) (.node (o23s P) (.node (o39_2 P) (.node (o71_5 P) (.node (b3Sub 24 17) .nil .nil) .nil) (.node (o103_12 P) .nil .nil)) (.node (o55_3 P) (.node (o87_10 P) .nil .nil) (.node (b3Sub 8 17) .nil .nil)))) (.node (o11s P) (.node (o19s P) (.node (o35_2 P) (.node (o67_4 P) (.node (b3Sub 20 17) .nil .nil) .nil) (.node (o99_12 P) .nil .nil)) (.node (o51_3 P) (.node (o83_8 P) .nil .nil) (.node (b3Sub 4 17) .nil .nil))) (.node (o27s P) (.node (o43_2 P) (.node (o75_5 P) (.node (b3Sub 28 17) .nil .nil) .nil) (.node (o107_13 P) .nil .nil)) (.node (o59_4 P) (.node (o91_10 P) .nil .nil) (.node (b3Sub 12 17) .nil .nil))))) (.node (o5s P) (.node (o9s P) (.node (o17s P) (.node (o33_2 P) (.node (o65_4 P) (.node (b3Sub 18 17) .nil .nil) .nil) (.node (o97_12 P) .nil .nil)) (.node (o49_3 P) (.node (o81_8 P) .nil .nil) (.node (b3Sub 2 17) .nil .nil))) (.node (o25s P) (.node (o41_4 P) (.node (o73_5 P) (.node (b3Sub 26 17) .nil .nil) .nil) (.node (o105_13 P) .nil .nil)) (.node (o57_4 P) (.node (o89_10 P) .nil .nil) (.node (b3Sub 10 17) .nil .nil)))) (.node (o13s P) (.node (o21s P) (.node (o37_2 P) (.node (o69_5 P) (.node (b3Sub 22 17) .nil .nil) .nil) (.node (o101_12 P) .nil .nil)) (.node (o53_3 P) (.node (o85_8 P) .nil .nil) (.node (b3Sub 6 17) .nil .nil))) (.node (o29_13 P) (.node (o45_3 P) (.node (o77_7 P) .nil .nil) (.node (o109_13 P) .nil .nil)) (.node (o61_4 P) (.node (o93_12 P) .nil .nil) (.node (b3Sub 14 17) .nil .nil)))))) (.node (o2_2 P) (.node (o4s P) (.node (o8s P) (.node (o16s P) (.node (o32_2 P) (.node (o64_4 P) (.node (b3Sub 17 17) .nil .nil) .nil) (.node (o96_12 P) .nil .nil)) (.node (o48_3 P) (.node (o80_7 P) .nil .nil) (.node (b3Sub 1 17) .nil .nil))) (.node (o24s P) (.node (o40_2 P) (.node (o72_5 P) (.node (b3Sub 25 17) .nil .nil) .nil) (.node (o104_13 P) .nil .nil)) (.node (o56_3 P) (.node (o88_10 P) .nil .nil) (.node (b3Sub 9 17) .nil .nil)))) (.node (o12s P) (.node (o20s P) (.node (o36_2 P) (.node (o68_4 P) (.node (b3Sub 21 17) .nil .nil) .nil) (.node (o100_12 P) .nil .nil)) (.node (o52_3 P) (.node (o84_8 P) .nil .nil) (.node (b3Sub 5 17) .nil .nil))) (.node (o28p P) (.node (o44_2 P) (.node (o76_7 P) (.node (b3Sub 29 17) .nil .nil) .nil) (.node (o108_13 P) .nil .nil)) (.node (o60_4 P) (.node (o92_10 P) .nil .nil) (.node (b3Sub 13 17) .nil .nil))))) (.node (o6s P) (.node (o10s P) (.node (o18s P) (.node (o34_2 P) (.node (o66_4 P) (.node (b3Sub 19 17) .nil .nil) .nil) (.node (o98_12 P) .nil .nil)) (.node (o50_3 P) (.node (o82_8 P) .nil .nil) (.node (b3Sub 3 17) .nil .nil))) (.node (o26s P) (.node (o42_2 P) (.node (o74_5 P) (.node (b3Sub 27 17) .nil .nil) .nil) (.node (o106_13 P) .nil .nil)) (.node (o58_4 P) (.node (o90_10 P) .nil .nil) (.node (b3Sub 11 17) .nil .nil)))) (.node (o14s P) (.node (o22s P) (.node (o38_2 P) (.node (o70_5 P) (.node (b3Sub 23 17) .nil .nil) .nil) (.node (o102_12 P) .nil .nil)) (.node (o54_3 P) (.node (o86_10 P) .nil .nil) (.node (b3Sub 7 17) .nil .nil))) (.node (o30p P) (.node (o46_3 P) (.node (o78_7 P) .nil .nil) (.node (o110_13 P) .nil .nil)) (.node (o62_4 P) (.node (o94_12 P) .nil .nil) (.node (b3Sub 15 17) .nil .nil)))))))
noncomputable def B_30 (P : Params) : BT := (.node (o0s P) (.node (o1s P) (.node (o3_13 P) (.node (o7s P) (.node (o15s P) (.node (o31p P) (.node (o63_4 P) (.node (b3Sub 16 17) .nil .nil) .nil) (.node (o95_12 P) .nil .nil)) (.node (o47_3 P) (.node (o79_7 P) .nil .nil) (.node (b3Dict 527) .nil .nil))) (.node (o23s P) (.node (o39_2 P) (.node (o71_5 P) (.node (b3Sub 24 17) .nil .nil) .nil) (.node (o103_12 P) .nil .nil)) (.node (o55_3 P) (.node (o87_10 P) .nil .nil) (.node (b3Sub 8 17) .nil .nil)))) (.node (o11s P) (.node (o19s P) (.node (o35_2 P) (.node (o67_4 P) (.node (b3Sub 20 17) .nil .nil) .nil) (.node (o99_12 P) .nil .nil)) (.node (o51_3 P) (.node (o83_8 P) .nil .nil) (.node (b3Sub 4 17) .nil .nil))) (.node (o27s P) (.node (o43_2 P) (.node (o75_5 P) (.node (b3Sub 28 17) .nil .nil) .nil) (.node (o107_13 P) .nil .nil)) (.node (o59_4 P) (.node (o91_10 P) .nil .nil) (.node (b3Sub 12 17) .nil .nil))))) (.node (o5s P) (.node (o9s P) (.node (o17s P) (.node (o33_2 P) (.node (o65_4 P) (.node (b3Sub 18 17) .nil .nil) .nil) (.node (o97_12 P) .nil .nil)) (.node (o49_3 P) (.node (o81_8 P) .nil .nil) (.node (b3Sub 2 17) .nil .nil))) (.node (o25s P) (.node (o41_4 P) (.node (o73_5 P) (.node (b3Sub 26 17) .nil .nil) .nil) (.node (o105_13 P) .nil .nil)) (.node (o57_4 P) (.node (o89_10 P) .nil .nil) (.node (b3Sub 10 17) .nil .nil)))) (.node (o13s P) (.node (o21s P) (.node (o37_2 P) (.node (o69_5 P) (.node (b3Sub 22 17) .nil .nil) .nil) (.node (o101_12 P) .nil .nil)) (.node (o53_3 P) (.node (o85_8 P) .nil .nil) (.node (b3Sub 6 17) .nil .nil))) (.node (o29_13 P) (.node (o45_3 P) (.node (o77_7 P) (.node (b3Sub 30 17) .nil .nil) .nil) (.node (o109_13 P) .nil .nil)) (.node (o61_4 P) (.node (o93_12 P) .nil .nil) (.node (b3Sub 14 17) .nil .nil)))))) (.node (o2_2 P) (.node (o4s P) (.node (o8s P) (.node (o16s P) (.node (o32_2 P) (.node (o64_4 P) (.node (b3Sub 17 17) .nil .nil) .nil) (.node (o96_12 P) .nil .nil)) (.node (o48_3 P) (.node (o80_7 P) .nil .nil) (.node (b3Sub 1 17) .nil .nil))) (.node (o24s P) (.node (o40_2 P) (.node (o72_5 P) (.node (b3Sub 25 17) .nil .nil) .nil) (.node (o104_13 P) .nil .nil)) (.node (o56_3 P) (.node (o88_10 P) .nil .nil) (.node (b3Sub 9 17) .nil .nil)))) (.node (o12s P) (.node (o20s P) (.node (o36_2 P) (.node (o68_4 P) (.node (b3Sub 21 17) .nil .nil) .nil) (.node (o100_12 P) .nil .nil)) (.node (o52_3 P) (.node (o84_8 P) .nil .nil) (.node (b3Sub 5 17) .nil .nil))) (.node (o28p P) (.node (o44_2 P) (.node (o76_7 P) (.node (b3Sub 29 17) .nil .nil) .nil) (.node (o108_13 P) .nil .nil)) (.node (o60_4 P) (.node (o92_10 P) .nil .nil) (.node (b3Sub 13 17) .nil .nil))))) (.node (o6s P) (.node (o10s P) (.node (o18s P) (.node (o34_2 P) (.node (o66_4 P) (.node (b3Sub 19 17) .nil .nil) .nil) (.node (o98_12 P) .nil .nil)) (.node (o50_3 P) (.node (o82_8 P) .nil .nil) (.node (b3Sub 3 17) .nil .nil))) (.node (o26s P) (.node (o42_2 P) (.node (o74_5 P) (.node (b3Sub 27 17) .nil .nil) .nil) (.node (o106_13 P) .nil .nil)) (.node (o58_4 P) (.node (o90_10 P) .nil .nil) (.node (b3Sub 11 17) .nil .nil)))) (.node (o14s P) (.node (o22s P) (.node (o38_2 P) (.node (o70_5 P) (.node (b3Sub 23 17) .nil .nil) .nil) (.node (o102_12 P) .nil .nil)) (.node (o54_3 P) (.node (o86_10 P) .nil .nil) (.node (b3Sub 7 17) .nil .nil))) (.node (o30p P) (.node (o46_3 P) (.node (o78_7 P) .nil .nil) (.node (o110_13 P) .nil .nil)) (.node (o62_4 P) (.node (o94_12 P) .nil .nil) (.node (b3Sub 15 17) .nil .nil)))))))
noncomputable def B_31 (P : Params) : BT := (.node (o0s P) (.node (o1s P) (.node (o3_13 P) (.node (o7s P) (.node (o15s P) (.node (o31p P) (.node (o63_4 P) (.node (b3Sub 16 17) .nil .nil) .nil) (.node (o95_12 P) .nil .nil)) (.node (o47_3 P) (.node (o79_7 P) .nil .nil) (.node (b3Dict 544) .nil .nil))) (.node (o23s P) (.node (o39_2 P) (.node (o71_5 P) (.node (b3Sub 24 17) .nil .nil) .nil) (.node (o103_12 P) .nil .nil)) (.node (o55_3 P) (.node (o87_10 P) .nil .nil) (.node (b3Sub 8 17) .nil .nil)))) (.node (o11s P) (.node (o19s P) (.node (o35_2 P) (.node (o67_4 P) (.node (b3Sub 20 17) .nil .nil) .nil) (.node (o99_12 P) .nil .nil)) (.node (o51_3 P) (.node (o83_8 P) .nil .nil) (.node (b3Sub 4 17) .nil .nil))) (.node (o27s P) (.node (o43_2 P) (.node (o75_5 P) (.node (b3Sub 28 17) .nil .nil) .nil) (.node (o107_13 P) .nil .nil)) (.node (o59_4 P) (.node (o91_10 P) .nil .nil) (.node (b3Sub 12 17) .nil .nil))))) (.node (o5s P) (.node (o9s P) (.node (o17s P) (.node (o33_2 P) (.node (o65_4 P) (.node (b3Sub 18 17) .nil .nil) .nil) (.node (o97_12 P) .nil .nil)) (.node (o49_3 P) (.node (o81_8 P) .nil .nil) (.node (b3Sub 2 17) .nil .nil))) (.node (o25s P) (.node (o41_4 P) (.node (o73_5 P) (.node (b3Sub 26 17) .nil .nil) .nil) (.node (o105_13 P) .nil .nil)) (.node (o57_4 P) (.node (o89_10 P) .nil .nil) (.node (b3Sub 10 17) .nil .nil)))) (.node (o13s P) (.node (o21s P) (.node (o37_2 P) (.node (o69_5 P) (.node (b3Sub 22 17) .nil .nil) .nil) (.node (o101_12 P) .nil .nil)) (.node (o53_3 P) (.node (o85_8 P) .nil .nil) (.node (b3Sub 6 17) .nil .nil))) (.node (o29_13 P) (.node (o45_3 P) (.node (o77_7 P) (.node (b3Sub 30 17) .nil .nil) .nil) (.node (o109_13 P) .nil .nil)) (.node (o61_4 P) (.node (o93_12 P) .nil .nil) (.node (b3Sub 14 17) .nil .nil)))))) (.node (o2_2 P) (.node (o4s P) (.node (o8s P) (.node (o16s P) (.node (o32_2 P) (.node (o64_4 P) (.node (b3Sub 17 17) .nil .nil) .nil) (.node (o96_12 P) .nil .nil)) (.node (o48_3 P) (.node (o80_7 P) .nil .nil) (.node (b3Sub 1 17) .nil .nil))) (.node (o24s P) (.node (o40_2 P) (.node (o72_5 P) (.node (b3Sub 25 17) .nil .nil) .nil) (.node (o104_13 P) .nil .nil)) (.node (o56_3 P) (.node (o88_10 P) .nil .nil) (.node (b3Sub 9 17) .nil .nil)))) (.node (o12s P) (.node (o20s P) (.node (o36_2 P) (.node (o68_4 P) (.node (b3Sub 21 17) .nil .nil) .nil) (.node (o100_12 P) .nil .nil)) (.node (o52_3 P) (.node (o84_8 P) .nil .nil) (.node (b3Sub 5 17) .nil .nil))) (.node (o28p P) (.node (o44_2 P) (.node (o76_7 P) (.node (b3Sub 29 17) .nil .nil) .nil) (.node (o108_13 P) .nil .nil)) (.node (o60_4 P) (.node (o92_10 P) .nil .nil) (.node (b3Sub 13 17) .nil .nil))))) (.node (o6s P) (.node (o10s P) (.node (o18s P) (.node (o34_2 P) (.node (o66_4 P) (.node (b3Sub 19 17) .nil .nil) .nil) (.node (o98_12 P) .nil .nil)) (.node (o50_3 P) (.node (o82_8 P) .nil .nil) (.node (b3Sub 3 17) .nil .nil))) (.node (o26s P) (.node (o42_2 P) (.node (o74_5 P) (.node (b3Sub 27 17) .nil .nil) .nil) (.node (o106_13 P) .nil .nil)) (.node (o58_4 P) (.node (o90_10 P) .nil .nil) (.node (b3Sub 11 17) .nil .nil)))) (.node (o14s P) (.node (o22s P) (.node (o38_2 P) (.node (o70_5 P) (.node (b3Sub 23 17) .nil .nil) .nil) (.node (o102_12 P) .nil .nil)) (.node (o54_3 P) (.node (o86_10 P) .nil .nil) (.node (b3Sub 7 17) .nil .nil))) (.node (o30p P) (.node (o46_3 P) (.node (o78_7 P) (.node (b3Sub 31 17) .nil .nil) .nil) (.node (o110_13 P) .nil .nil)) (.node (o62_4 P) (.node (o94_12 P) .nil .nil) (.node (b3Sub 15 17) .nil .nil)))))))
noncomputable def B_32 (P : Params) : BT := (.node (o0s P) (.node (o1s P) (.node (o3_13 P) (.node (o7s P) (.node (o15s P) (.node (o31p P) (.node (o63_4 P) (.node (b3Sub 16 17) .nil .nil) .nil) (.node (o95_12 P) .nil .nil)) (.node (o47_3 P) (.node (o79_7 P) (.node (b3Sub 32 17) .nil .nil) .nil) (.node (b3Dict 561) .nil .nil))) (.node (o23s P) (.node (o39_2 P) (.node (o71_5 P) (.node (b3Sub 24 17) .nil .nil) .nil) (.node (o103_12 P) .nil .nil)) (.node (o55_3 P) (.node (o87_10 P) .nil .nil) (.node (b3Sub 8 17) .nil .nil)))) (.node (o11s P) (.node (o19s P) (.node (o35_2 P) (.node (o67_4 P) (.node (b3Sub 20 17) .nil .nil) .nil) (.node (o99_12 P) .nil .nil)) (.node (o51_3 P) (.node (o83_8 P) .nil .nil) (.node (b3Sub 4 17) .nil .nil))) (.node (o27s P) (.node (o43_2 P) (.node (o75_5 P) (.node (b3Sub 28 17) .nil .nil) .nil) (.node (o107_13 P) .nil .nil)) (.node (o59_4 P) (.node (o91_10 P) .nil .nil) (.node (b3Sub 12 17) .nil .nil))))) (.node (o5s P) (.node (o9s P) (.node (o17s P) (.node (o33_2 P) (.node (o65_4 P) (.node (b3Sub 18 17) .nil .nil) .nil) (.node (o97_12 P) .nil .nil)) (.node (o49_3 P) (.node (o81_8 P) .nil .nil) (.node (b3Sub 2 17) .nil .nil))) (.node (o25s P) (.node (o41_4 P) (.node (o73_5 P) (.node (b3Sub 26 17) .nil .nil) .nil) (.node (o105_13 P) .nil .nil)) (.node (o57_4 P) (.node (o89_10 P) .nil .nil) (.node (b3Sub 10 17) .nil .nil)))) (.node (o13s P) (.node (o21s P) (.node (o37_2 P) (.node (o69_5 P) (.node (b3Sub 22 17) .nil .nil) .nil) (.node (o101_12 P) .nil .nil)) (.node (o53_3 P) (.node (o85_8 P) .nil .nil) (.node (b3Sub 6 17) .nil .nil))) (.node (o29_13 P) (.node (o45_3 P) (.node (o77_7 P) (.node (b3Sub 30 17) .nil .nil) .nil) (.node (o109_13 P) .nil .nil)) (.node (o61_4 P) (.node (o93_12 P) .nil .nil) (.node (b3Sub 14 17) .nil .nil)))))) (.node (o2_2 P) (.node (o4s P) (.node (o8s P) (.node (o16s P) (.node (o32_2 P) (.node (o64_4 P) (.node (b3Sub 17 17) .nil .nil) .nil) (.node (o96_12 P) .nil .nil)) (.node (o48_3 P) (.node (o80_7 P) .nil .nil) (.node (b3Sub 1 17) .nil .nil))) (.node (o24s P) (.node (o40_2 P) (.node (o72_5 P) (.node (b3Sub 25 17) .nil .nil) .nil) (.node (o104_13 P) .nil .nil)) (.node (o56_3 P) (.node (o88_10 P) .nil .nil) (.node (b3Sub 9 17) .nil .nil)))) (.node (o12s P) (.node (o20s P) (.node (o36_2 P) (.node (o68_4 P) (.node (b3Sub 21 17) .nil .nil) .nil) (.node (o100_12 P) .nil .nil)) (.node (o52_3 P) (.node (o84_8 P) .nil .nil) (.node (b3Sub 5 17) .nil .nil))) (.node (o28p P) (.node (o44_2 P) (.node (o76_7 P) (.node (b3Sub 29 17) .nil .nil) .nil) (.node (o108_13 P) .nil .nil)) (.node (o60_4 P) (.node (o92_10 P) .nil .nil) (.node (b3Sub 13 17) .nil .nil))))) (.node (o6s P) (.node (o10s P) (.node (o18s P) (.node (o34_2 P) (.node (o66_4 P) (.node (b3Sub 19 17) .nil .nil) .nil) (.node (o98_12 P) .nil .nil)) (.node (o50_3 P) (.node (o82_8 P) .nil .nil) (.node (b3Sub 3 17) .nil .nil))) (.node (o26s P) (.node (o42_2 P) (.node (o74_5 P) (.node (b3Sub 27 17) .nil .nil) .nil) (.node (o106_13 P) .nil .nil)) (.node (o58_4 P) (.node (o90_10 P) .nil .nil) (.node (b3Sub 11 17) .nil .nil)))) (.node (o14s P) (.node (o22s P) (.node (o38_2 P) (.node (o70_5 P) (.node (b3Sub 23 17) .nil .nil) .nil) (.node (o102_12 P) .nil .nil)) (.node (o54_3 P) (.node (o86_10 P) .nil .nil) (.node (b3Sub 7 17) .nil .nil))) (.node (o30p P) (.node (o46_3 P) (.node (o78_7 P) (.node (b3Sub 31 17) .nil .nil) .nil) (.node (o110_13 P) .nil .nil)) (.node (o62_4 P) (.node (o94_12 P) .nil .nil) (.node (b3Sub 15 17) .nil .nil)))))))
noncomputable def B_33 (P : Params) : BT := (.node (o0s P) (.node (o1s P) (.node (o3_13 P) (.node (o7s P) (.node (o15s P) (.node (o31p P) (.node (o63_4 P) (.node (b3Sub 16 17) .nil .nil) .nil) (.node (o95_12 P) .nil .nil)) (.node (o47_3 P) (.node (o79_7 P) (.node (b3Sub 32 17) .nil .nil) .nil) (.node (b3Dict 578) .nil .nil))) (.node (o23s P) (.node (o39_2 P) (.node (o71_5 P) (.node (b3Sub 24 17) .nil .nil) .nil) (.node (o103_12 P) .nil .nil)) (.node (o55_3 P) (.node (o87_10 P) .nil .nil) (.node (b3Sub 8 17) .nil .nil)))) (.node (o11s P) (.node (o19s P) (.node (o35_2 P) (.node (o67_4 P) (.node (b3Sub 20 17) .nil .nil) .nil) (.node (o99_12 P) .nil .nil)) (.node (o51_3 P) (.node (o83_8 P) .nil .nil) (.node (b3Sub 4 17) .nil .nil))) (.node (o27s P) (.node (o43_2 P) (.node (o75_5 P) (.node (b3Sub 28 17) .nil .nil) .nil) (.node (o107_13 P) .nil .nil)) (.node (o59_4 P) (.node (o91_10 P) .nil .nil) (.node (b3Sub 12 17) .nil .nil))))) (.node (o5s P) (.node (o9s P) (.node (o17s P) (.node (o33_2 P) (.node (o65_4 P) (.node (b3Sub 18 17) .nil .nil) .nil) (.node (o97_12 P) .nil .nil)) (.node (o49_3 P) (.node (o81_8 P) .nil .nil) (.node (b3Sub 2 17) .nil .nil))) (.node (o25s P) (.node (o41_4 P) (.node (o73_5 P) (.node (b3Sub 26 17) .nil .nil) .nil) (.node (o105_13 P) .nil .nil)) (.node (o57_4 P) (.node (o89_10 P) .nil .nil) (.node (b3Sub 10 17) .nil .nil)))) (.node (o13s P) (.node (o21s P) (.node (o37_2 P) (.node (o69_5 P) (.node (b3Sub 22 17) .nil .nil) .nil) (.node (o101_12 P) .nil .nil)) (.node (o53_3 P) (.node (o85_8 P) .nil .nil) (.node (b3Sub 6 17) .nil .nil))) (.node (o29_13 P) (.node (o45_3 P) (.node (o77_7 P) (.node (b3Sub 30 17) .nil .nil) .nil) (.node (o109_13 P) .nil .nil)) (.node (o61_4 P) (.node (o93_12 P) .nil .nil) (.node (b3Sub 14 17) .nil .nil)))))) (.node (o2_2 P) (.node (o4s P) (.node (o8s P) (.node (o16s P) (.node (o32_2 P) (.node (o64_4 P) (.node (b3Sub 17 17) .nil .nil) .nil) (.node (o96_12 P) .nil .nil)) (.node (o48_3 P) (.node (o80_7 P) (.node (b3Sub 33 17) .nil .nil) .nil) (.node (b3Sub 1 17) .nil .nil))) (.node (o24s P) (.node (o40_2 P) (.node (o72_5 P) (.node (b3Sub 25 17) .nil .nil) .nil) (.node (o104_13 P) .nil .nil)) (.node (o56_3 P) (.node (o88_10 P) .nil .nil) (.node (b3Sub 9 17) .nil .nil)))) (.node (o12s P) (.node (o20s P) (.node (o36_2 P) (.node (o68_4 P) (.node (b3Sub 21 17) .nil .nil) .nil) (.node (o100_12 P) .nil .nil)) (.node (o52_3 P) (.node (o84_8 P) .nil .nil) (.node (b3Sub 5 17) .nil .nil))) (.node (o28p P) (.node (o44_2 P) (.node (o76_7 P) (.node (b3Sub 29 17) .nil .nil) .nil) (.node (o108_13 P) .nil .nil)) (.node (o60_4 P) (.node (o92_10 P) .nil .nil) (.node (b3Sub 13 17) .nil .nil))))) (.node (o6s P) (.node (o10s P) (.node (o18s P) (.node (o34_2 P) (.node (o66_4 P) (.node (b3Sub 19 17) .nil .nil) .nil) (.node (o98_12 P) .nil .nil)) (.node (o50_3 P) (.node (o82_8 P) .nil .nil) (.node (b3Sub 3 17) .nil .nil))) (.node (o26s P) (.node (o42_2 P) (.node (o74_5 P) (.node (b3Sub 27 17) .nil .nil) .nil) (.node (o106_13 P) .nil .nil)) (.node (o58_4 P) (.node (o90_10 P) .nil .nil) (.node (b3Sub 11 17) .nil .nil)))) (.node (o14s P) (.node (o22s P) (.node (o38_2 P) (.node (o70_5 P) (.node (b3Sub 23 17) .nil .nil) .nil) (.node (o102_12 P) .nil .nil)) (.node (o54_3 P) (.node (o86_10 P) .nil .nil) (.node (b3Sub 7 17) .nil .nil))) (.node (o30p P) (.node (o46_3 P) (.node (o78_7 P) (.node (b3Sub 31 17) .nil .nil) .nil) (.node (o110_13 P) .nil .nil)) (.node (o62_4 P) (.node (o94_12 P) .nil .nil) (.node (b3Sub 15 17) .nil .nil)))))))
noncomputable def B_34 (P : Params) : BT := (.node (o0s P) (.node (o1s P) (.node (o3_13 P) (.node (o7s P) (.node (o15s P) (.node (o31p P) (.node (o63_4 P) (.node (b3Sub 16 17) .nil .nil) .nil) (.node (o95_12 P) .nil .nil)) (.node (o47_3 P) (.node (o79_7 P) (.node (b3Sub 32 17) .nil .nil) .nil) (.node (b3Dict 595) .nil .nil))) (.node (o23s P) (.node (o39_2 P) (.node (o71_5 P) (.node (b3Sub 24 17) .nil .nil) .nil) (.node (o103_12 P) .nil .nil)) (.node (o55_3 P) (.node (o87_10 P) .nil .nil) (.node (b3Sub 8 17) .nil .nil)))) (.node (o11s P) (.node (o19s P) (.node (o35_2 P) (.node (o67_4 P) (.node (b3Sub 20 17) .nil .nil) .nil) (.node (o99_12 P) .nil .nil)) (.node (o51_3 P) (.node (o83_8 P) .nil .nil) (.node (b3Sub 4 17) .nil .nil))) (.node (o27s P) (.node (o43_2 P) (.node (o75_5 P) (.node (b3Sub 28 17) .nil .nil) .nil) (.node (o107_13 P) .nil .nil)) (.node (o59_4 P) (.node (o91_10 P) .nil .nil) (.node (b3Sub 12 17) .nil .nil))))) (.node (o5s P) (.node (o9s P) (.node (o17s P) (.node (o33_2 P) (.node (o65_4 P) (.node (b3Sub 18 17) .nil .nil) .nil) (.node (o97_12 P) .nil .nil)) (.node (o49_3 P) (.node (o81_8 P) (.node (b3Sub 34 17) .nil .nil) .nil) (.node (b3Sub 2 17) .nil .nil))) (.node (o25s P) (.node (o41_4 P) (.node (o73_5 P) (.node (b3Sub 26 17) .nil .nil) .nil) (.node (o105_13 P) .nil .nil)) (.node (o57_4 P) (.node (o89_10 P) .nil .nil) (.node (b3Sub 10 17) .nil .nil)))) (.node (o13s P) (.node (o21s P) (.node (o37_2 P) (.node (o69_5 P) (.node (b3Sub 22 17) .nil .nil) .nil) (.node (o101_12 P) .nil .nil)) (.node (o53_3 P) (.node (o85_8 P) .nil .nil) (.node (b3Sub 6 17) .nil .nil))) (.node (o29_13 P) (.node (o45_3 P) (.node (o77_7 P) (.node (b3Sub 30 17) .nil .nil) .nil) (.node (o109_13 P) .nil .nil)) (.node (o61_4 P) (.node (o93_12 P) .nil .nil) (.node (b3Sub 14 17) .nil .nil)))))) (.node (o2_2 P) (.node (o4s P) (.node (o8s P) (.node (o16s P) (.node (o32_2 P) (.node (o64_4 P) (.node (b3Sub 17 17) .nil .nil) .nil) (.node (o96_12 P) .nil .nil)) (.node (o48_3 P) (.node (o80_7 P) (.node (b3Sub 33 17) .nil .nil) .nil) (.node (b3Sub 1 17) .nil .nil))) (.node (o24s P) (.node (o40_2 P) (.node (o72_5 P) (.node (b3Sub 25 17) .nil .nil) .nil) (.node (o104_13 P) .nil .nil)) (.node (o56_3 P) (.node (o88_10 P) .nil .nil) (.node (b3Sub 9 17) .nil .nil)))) (.node (o12s P) (.node (o20s P) (.node (o36_2 P) (.node (o68_4 P) (.node (b3Sub 21 17) .nil .nil) .nil) (.node (o100_12 P) .nil .nil)) (.node (o52_3 P) (.node (o84_8 P) .nil .nil) (.node (b3Sub 5 17) .nil .nil))) (.node (o28p P) (.node (o44_2 P) (.node (o76_7 P) (.node (b3Sub 29 17) .nil .nil) .nil) (.node (o108_13 P) .nil .nil)) (.node (o60_4 P) (.node (o92_10 P) .nil .nil) (.node (b3Sub 13 17) .nil .nil))))) (.node (o6s P) (.node (o10s P) (.node (o18s P) (.node (o34_2 P) (.node (o66_4 P) (.node (b3Sub 19 17) .nil .nil) .nil) (.node (o98_12 P) .nil .nil)) (.node (o50_3 P) (.node (o82_8 P) .nil .nil) (.node (b3Sub 3 17) .nil .nil))) (.node (o26s P) (.node (o42_2 P) (.node (o74_5 P) (.node (b3Sub 27 17) .nil .nil) .nil) (.node (o106_13 P) .nil .nil)) (.node (o58_4 P) (.node (o90_10 P) .nil .nil) (.node (b3Sub 11 17) .nil .nil)))) (.node (o14s P) (.node (o22s P) (.node (o38_2 P) (.node (o70_5 P) (.node (b3Sub 23 17) .nil .nil) .nil) (.node (o102_12 P) .nil .nil)) (.node (o54_3 P) (.node (o86_10 P) .nil .nil) (.node (b3Sub 7 17) .nil .nil))) (.node (o30p P) (.node (o46_3 P) (.node (o78_7 P) (.node (b3Sub 31 17) .nil .nil) .nil) (.node (o110_13 P) .nil .nil)) (.node (o62_4 P) (.node (o94_12 P) .nil .nil) (.node (b3Sub 15 17) .nil .nil)))))))
noncomputable def B_35 (P : Params) : BT := (.node (o0s P) (.node (o1s P) (.node (o3_13 P) (.node (o7s P) (.node (o15s P) (.node (o31p P) (.node (o63_4 P) (.node (b3Sub 16 17) .nil .nil) .nil) (.node (o95_12 P) .nil .nil)) (.node (o47_3 P) (.node (o79_7 P) (.node (b3Sub 32 17) .nil .nil) .nil) (.node (b3Dict 612) .nil .nil))) (.node (o23s P) (.node (o39_2 P) (.node (o71_5 P) (.node (b3Sub 24 17) .nil .nil) .nil) (.node (o103_12 P) .nil .nil)) (.node (o55_3 P) (.node (o87_10 P) .nil .nil) (.node (b3Sub 8 17) .nil .nil)))) (.node (o11s P) (.node (o19s P) (.node (o35_2 P) (.node (o67_4 P) (.node (b3Sub 20 17) .nil .nil) .nil) (.node (o99_12 P) .nil .nil)) (.node (o51_3 P) (.node (o83_8 P) .nil .nil) (.node (b3Sub 4 17) .nil .nil))) (.node (o27s P) (.node (o43_2 P) (.node (o75_5 P) (.node (b3Sub 28 17) .nil .nil) .nil) (.node (o107_13 P) .nil .nil)) (.node (o59_4 P) (.node (o91_10 P) .nil .nil) (.node (b3Sub 12 17) .nil .nil))))) (.node (o5s P) (.node (o9s P) (.node (o17s P) (.node (o33_2 P) (.node (o65_4 P) (.node (b3Sub 18 17) .nil .nil) .nil) (.node (o97_12 P) .nil .nil)) (.node (o49_3 P) (.node (o81_8 P) (.node (b3Sub 34 17) .nil .nil) .nil) (.node (b3Sub 2 17) .nil .nil))) (.node (o25s P) (.node (o41_4 P) (.node (o73_5 P) (.node (b3Sub 26 17) .nil .nil) .nil) (.node (o105_13 P) .nil .nil)) (.node (o57_4 P) (.node (o89_10 P) .nil .nil) (.node (b3Sub 10 17) .nil .nil)))) (.node (o13s P) (.node (o21s P) (.node (o37_2 P) (.node (o69_5 P) (.node (b3Sub 22 17) .nil .nil) .nil) (.node (o101_12 P) .nil .nil)) (.node (o53_3 P) (.node (o85_8 P) .nil .nil) (.node (b3Sub 6 17) .nil .nil))) (.node (o29_13 P) (.node (o45_3 P) (.node (o77_7 P) (.node (b3Sub 30 17) .nil .nil) .nil) (.node (o109_13 P) .nil .nil)) (.node (o61_4 P) (.node (o93_12 P) .nil .nil) (.node (b3Sub 14 17) .nil .nil)))))) (.node (o2_2 P) (.node (o4s P) (.node (o8s P) (.node (o16s P) (.node (o32_2 P) (.node (o64_4 P) (.node (b3Sub 17 17) .nil .nil) .nil) (.node (o96_12 P) .nil .nil)) (.node (o48_3 P) (.node (o80_7 P) (.node (b3Sub 33 17) .nil .nil) .nil) (.node (b3Sub 1 17) .nil .nil))) (.node (o24s P) (.node (o40_2 P) (.node (o72_5 P) (.node (b3Sub 25 17) .nil .nil) .nil) (.node (o104_13 P) .nil .nil)) (.node (o56_3 P) (.node (o88_10 P) .nil .nil) (.node (b3Sub 9 17) .nil .nil)))) (.node (o12s P) (.node (o20s P) (.node (o36_2 P) (.node (o68_4 P) (.node (b3Sub 21 17) .nil .nil) .nil) (.node (o100_12 P) .nil .nil)) (.node (o52_3 P) (.node (o84_8 P) .nil .nil) (.node (b3Sub 5 17) .nil .nil))) (.node (o28p P) (.node (o44_2 P) (.node (o76_7 P) (.node (b3Sub 29 17) .nil .nil) .nil) (.node (o108_13 P) .nil .nil)) (.node (o60_4 P) (.node (o92_10 P) .nil .nil) (.node (b3Sub 13 17) .nil .nil))))) (.node (o6s P) (.node (o10s P) (.node (o18s P) (.node (o34_2 P) (.node (o66_4 P) (.node (b3Sub 19 17) .nil .nil) .nil) (.node (o98_12 P) .nil .nil)) (.node (o50_3 P) (.node (o82_8 P) (.node (b3Sub 35 17) .nil .nil) .nil) (.node (b3Sub 3 17) .nil .nil))) (.node (o26s P) (.node (o42_2 P) (.node (o74_5 P) (.node (b3Sub 27 17) .nil .nil) .nil) (.node (o106_13 P) .nil .nil)) (.node (o58_4 P) (.node (o90_10 P) .nil .nil) (.node (b3Sub 11 17) .nil .nil)))) (.node (o14s P) (.node (o22s P) (.node (o38_2 P) (.node (o70_5 P) (.node (b3Sub 23 17) .nil .nil) .nil) (.node (o102_12 P) .nil .nil)) (.node (o54_3 P) (.node (o86_10 P) .nil .nil) (.node (b3Sub 7 17) .nil .nil))) (.node (o30p P) (.node (o46_3 P) (.node (o78_7 P) (.node (b3Sub 31 17) .nil .nil) .nil) (.node (o110_13 P) .nil .nil)) (.node (o62_4 P) (.node (o94_12 P) .nil .nil) (.node (b3Sub 15 17) .nil .nil)))))))
noncomputable def B_36 (P : Params) : BT := (.node (o0s P) (.node (o1s P) (.node (o3_13 P) (.node (o7s P) (.node (o15s P) (.node (o31p P) (.node (o63_4 P) (.node (b3Sub 16 17) .nil .nil) .nil) (.node (o95_12 P) .nil .nil)) (.node (o47_3 P) (.node (o79_7 P) (.node (b3Sub 32 17) .nil .nil) .nil) (.node (b3Dict 629) .nil .nil))) (.node (o23s P) (.node (o39_2 P) (.node (o71_5 P) (.node (b3Sub 24 17) .nil .nil) .nil) (.node (o103_12 P) .nil .nil)) (.node (o55_3 P) (.node (o87_10 P) .nil .nil) (.node (b3Sub 8 17) .nil .nil)))) (.node (o11s P) (.node (o19s P) (.node (o35_2 P) (.node (o67_4 P) (.node (b3Sub 20 17) .nil .nil) .nil) (.node (o99_12 P) .nil .nil)) (.node (o51_3 P) (.node (o83_8 P) (.node (b3Sub 36 17) .nil .nil) .nil) (.node (b3Sub 4 17) .nil .nil))) (.node (o27s P) (.node (o43_2 P) (.node (o75_5 P) (.node (b3Sub 28 17) .nil .nil) .nil) (.node (o107_13 P) .nil .nil)) (.node (o59_4 P) (.node (o91_10 P) .nil .nil) (.node (b3Sub 12 17) .nil .nil))))) (.node (o5s P) (.node (o9s P) (.node (o17s P) (.node (o33_2 P) (.node (o65_4 P) (.node (b3Sub 18 17) .nil .nil) .nil) (.node (o97_12 P) .nil .nil)) (.node (o49_3 P) (.node (o81_8 P) (.node (b3Sub 34 17) .nil .nil) .nil) (.node (b3Sub 2 17) .nil .nil))) (.node (o25s P) (.node (o41_4 P) (.node (o73_5 P) (.node (b3Sub 26 17) .nil .nil) .nil) (.node (o105_13 P) .nil .nil)) (.node (o57_4 P) (.node (o89_10 P) .nil .nil) (.node (b3Sub 10 17) .nil .nil)))) (.node (o13s P) (.node (o21s P) (.node (o37_2 P) (.node (o69_5 P) (.node (b3Sub 22 17) .nil .nil) .nil) (.node (o101_12 P) .nil .nil)) (.node (o53_3 P) (.node (o85_8 P) .nil .nil) (.node (b3Sub 6 17) .nil .nil))) (.node (o29_13 P) (.node (o45_3 P) (.node (o77_7 P) (.node (b3Sub 30 17) .nil .nil) .nil) (.node (o109_13 P) .nil .nil)) (.node (o61_4 P) (.node (o93_12 P) .nil .nil) (.node (b3Sub 14 17) .nil .nil)))))) (.node (o2_2 P) (.node (o4s P) (.node (o8s P) (.node (o16s P) (.node (o32_2 P) (.node (o64_4 P) (.node (b3Sub 17 17) .nil .nil) .nil) (.node (o96_12 P) .nil .nil)) (.node (o48_3 P) (.node (o80_7 P) (.node (b3Sub 33 17) .nil .nil) .nil) (.node (b3Sub 1 17) .nil .nil))) (.node (o24s P) (.node (o40_2 P) (.node (o72_5 P) (.node (b3Sub 25 17) .nil .nil) .nil) (.node (o104_13 P) .nil .nil)) (.node (o56_3 P) (.node (o88_10 P) .nil .nil) (.node (b3Sub 9 17) .nil .nil)))) (.node (o12s P) (.node (o20s P) (.node (o36_2 P) (.node (o68_4 P) (.node (b3Sub 21 17) .nil .nil) .nil) (.node (o100_12 P) .nil .nil)) (.node (o52_3 P) (.node (o84_8 P) .nil .nil) (.node (b3Sub 5 17) .nil .nil))) (.node (o28p P) (.node (o44_2 P) (.node (o76_7 P) (.node (b3Sub 29 17) .nil .nil) .nil) (.node (o108_13 P) .nil .nil)) (.node (o60_4 P) (.node (o92_10 P) .nil .nil) (.node (b3Sub 13 17) .nil .nil))))) (.node (o6s P) (.node (o10s P) (.node (o18s P) (.node (o34_2 P) (.node (o66_4 P) (.node (b3Sub 19 17) .nil .nil) .nil) (.node (o98_12 P) .nil .nil)) (.node (o50_3 P) (.node (o82_8 P) (.node (b3Sub 35 17) .nil .nil) .nil) (.node (b3Sub 3 17) .nil .nil))) (.node (o26s P) (.node (o42_2 P) (.node (o74_5 P) (.node (b3Sub 27 17) .nil .nil) .nil) (.node (o106_13 P) .nil .nil)) (.node (o58_4 P) (.node (o90_10 P) .nil .nil) (.node (b3Sub 11 17) .nil .nil)))) (.node (o14s P) (.node (o22s P) (.node (o38_2 P) (.node (o70_5 P) (.node (b3Sub 23 17) .nil .nil) .nil) (.node (o102_12 P) .nil .nil)) (.node (o54_3 P) (.node (o86_10 P) .nil .nil) (.node (b3Sub 7 17) .nil .nil))) (.node (o30p P) (.node (o46_3 P) (.node (o78_7 P) (.node (b3Sub 31 17) .nil .nil) .nil) (.node (o110_13 P) .nil .nil)) (.node (o62_4 P) (.node (o94_12 P) .nil .nil) (.node (b3Sub 15 17) .nil .nil)))))))
noncomputable def B_37 (P : Params) : BT := (.node (o0s P) (.node (o1s P) (.node (o3_13 P) (.node (o7s P) (.node (o15s P) (.node (o31p P) (.node (o63_4 P) (.node (b3Sub 16 17) .nil .nil) .nil) (.node (o95_12 P) .nil .nil)) (.node (o47_3 P) (.node (o79_7 P) (.node (b3Sub 32 17) .nil .nil) .nil) (.node (b3Dict 646) .nil .nil))) (.node (o23s P) (.node (o39_2 P) (.node (o71_5 P) (.node (b3Sub 24 17) .nil .nil) .nil) (.node (o103_12 P) .nil .nil)) (.node (o55_3 P) (.node (o87_10 P) .nil .nil) (.node (b3Sub 8 17) .nil .nil)))) (.node (o11s P) (.node (o19s P) (.node (o35_2 P) (.node (o67_4 P) (.node (b3Sub 20 17) .nil .nil) .nil) (.node (o99_12 P) .nil .nil)) (.node (o51_3 P) (.node (o83_8 P) (.node (b3Sub 36 17) .nil .nil) .nil) (.node (b3Sub 4 17) .nil .nil))) (.node (o27s P) (.node (o43_2 P) (.node (o75_5 P) (.node (b3Sub 28 17) .nil .nil) .nil) (.node (o107_13 P) .nil .nil)) (.node (o59_4 P) (.node (o91_10 P) .nil .nil) (.node (b3Sub 12 17) .nil .nil))))) (.node (o5s P) (.node (o9s P) (.node (o17s P) (.node (o33_2 P) (.node (o65_4 P) (.node (b3Sub 18 17) .nil .nil) .nil) (.node (o97_12 P) .nil .nil)) (.node (o49_3 P) (.node (o81_8 P) (.node (b3Sub 34 17) .nil .nil) .nil) (.node (b3Sub 2 17) .nil .nil))) (.node (o25s P) (.node (o41_4 P) (.node (o73_5 P) (.node (b3Sub 26 17) .nil .nil) .nil) (.node (o105_13 P) .nil .nil)) (.node (o57_4 P) (.node (o89_10 P) .nil .nil) (.node (b3Sub 10 17) .nil .nil)))) (.node (o13s P) (.node (o21s P) (.node (o37_2 P) (.node (o69_5 P) (.node (b3Sub 22 17) .nil .nil) .nil) (.node (o101_12 P) .nil .nil)) (.node (o53_3 P) (.node (o85_8 P) .nil .nil) (.node (b3Sub 6 17) .nil .nil))) (.node (o29_13 P) (.node (o45_3 P) (.node (o77_7 P) (.node (b3Sub 30 17) .nil .nil) .nil) (.node (o109_13 P) .nil .nil)) (.node (o61_4 P) (.node (o93_12 P) .nil .nil) (.node (b3Sub 14 17) .nil .nil)))))) (.node (o2_2 P) (.node (o4s P) (.node (o8s P) (.node (o16s P) (.node (o32_2 P) (.node (o64_4 P) (.node (b3Sub 17 17) .nil .nil) .nil) (.node (o96_12 P) .nil .nil)) (.node (o48_3 P) (.node (o80_7 P) (.node (b3Sub 33 17) .nil .nil) .nil) (.node (b3Sub 1 17) .nil .nil))) (.node (o24s P) (.node (o40_2 P) (.node (o72_5 P) (.node (b3Sub 25 17) .nil .nil) .nil) (.node (o104_13 P) .nil .nil)) (.node (o56_3 P) (.node (o88_10 P) .nil .nil) (.node (b3Sub 9 17) .nil .nil)))) (.node (o12s P) (.node (o20s P) (.node (o36_2 P) (.node (o68_4 P) (.node (b3Sub 21 17) .nil .nil) .nil) (.node (o100_12 P) .nil .nil)) (.node (o52_3 P) (.node (o84_8 P) (.node (b3Sub 37 17) .nil .nil) .nil) (.node (b3Sub 5 17) .nil .nil))) (.node (o28p P) (.node (o44_2 P) (.node (o76_7 P) (.node (b3Sub 29 17) .nil .nil) .nil) (.node (o108_13 P) .nil .nil)) (.node (o60_4 P) (.node (o92_10 P) .nil .nil) (.node (b3Sub 13 17) .nil .nil))))) (.node (o6s P) (.node (o10s P) (.node (o18s P) (.node (o34_2 P) (.node (o66_4 P) (.node (b3Sub 19 17) .nil .nil) .nil) (.node (o98_12 P) .nil .nil)) (.node (o50_3 P) (.node (o82_8 P) (.node (b3Sub 35 17) .nil .nil) .nil) (.node (b3Sub 3 17) .nil .nil))) (.node (o26s P) (.node (o42_2 P) (.node (o74_5 P) (.node (b3Sub 27 17) .nil .nil) .nil) (.node (o106_13 P) .nil .nil)) (.node (o58_4 P) (.node (o90_10 P) .nil .nil) (.node (b3Sub 11 17) .nil .nil)))) (.node (o14s P) (.node (o22s P) (.node (o38_2 P) (.node (o70_5 P) (.node (b3Sub 23 17) .nil .nil) .nil) (.node (o102_12 P) .nil .nil)) (.node (o54_3 P) (.node (o86_10 P) .nil .nil) (.node (b3Sub 7 17) .nil .nil))) (.node (o30p P) (.node (o46_3 P) (.node (o78_7 P) (.node (b3Sub 31 17) .nil .nil) .nil) (.node (o110_13 P) .nil .nil)) (.node (o62_4 P) (.node (o94_12 P) .nil .nil) (.node (b3Sub 15 17) .nil .nil)))))))
noncomputable def B_38 (P : Params) : BT := (.node (o0s P) (.node (o1s P) (.node (o3_13 P) (.node (o7s P) (.node (o15s P) (.node (o31p P) (.node (o63_4 P) (.node (b3Sub 16 17) .nil .nil) .nil) (.node (o95_12 P) .nil .nil)) (.node (o47_3 P) (.node (o79_7 P) (.node (b3Sub 32 17) .nil .nil) .nil) (.node (b3Dict 650) .nil .nil))) (.node (o23s P) (.node (o39_2 P) (.node (o71_5 P) (.node (b3Sub 24 17) .nil .nil) .nil) (.node (o103_12 P) .nil .nil)) (.node (o55_3 P) (.node (o87_10 P) .nil .nil) (.node (b3Sub 8 17) .nil .nil)))) (.node (o11s P) (.node (o19s P) (.node (o35_2 P) (.node (o67_4 P) (.node (b3Sub 20 17) .nil .nil) .nil) (.node (o99_12 P) .nil .nil)) (.node (o51_3 P) (.node (o83_8 P) (.node (b3Sub 36 17) .nil .nil) .nil) (.node (b3Sub 4 17) .nil .nil))) (.node (o27s P) (.node (o43_2 P) (.node (o75_5 P) (.node (b3Sub 28 17) .nil .nil) .nil) (.node (o107_13 P) .nil .nil)) (.node (o59_4 P) (.node (o91_10 P) .nil .nil) (.node (b3Sub 12 17) .nil .nil))))) (.node (o5s P) (.node (o9s P) (.node (o17s P) (.node (o33_2 P) (.node (o65_4 P) (.node (b3Sub 18 17) .nil .nil) .nil) (.node (o97_12 P) .nil .nil)) (.node (o49_3 P) (.node (o81_8 P) (.node (b3Sub 34 17) .nil .nil) .nil) (.node (b3Sub 2 17) .nil .nil))) (.node (o25s P) (.node (o41_4 P) (.node (o73_5 P) (.node (b3Sub 26 17) .nil .nil) .nil) (.node (o105_13 P) .nil .nil)) (.node (o57_4 P) (.node (o89_10 P) .nil .nil) (.node (b3Sub 10 17) .nil .nil)))) (.node (o13s P) (.node (o21s P) (.node (o37_2 P) (.node (o69_5 P) (.node (b3Sub 22 17) .nil .nil) .nil) (.node (o101_12 P) .nil .nil)) (.node (o53_3 P) (.node (o85_8 P) (.node (b3Sub 38 4) .nil .nil) .nil) (.node (b3Sub 6 17) .nil .nil))) (.node (o29_13 P) (.node (o45_3 P) (.node (o77_7 P) (.node (b3Sub 30 17) .nil .nil) .nil) (.node (o109_13 P) .nil .nil)) (.node (o61_4 P) (.node (o93_12 P) .nil .nil) (.node (b3Sub 14 17) .nil .nil)))))) (.node (o2_2 P) (.node (o4s P) (.node (o8s P) (.node (o16s P) (.node (o32_2 P) (.node (o64_4 P) (.node (b3Sub 17 17) .nil .nil) .nil) (.node (o96_12 P) .nil .nil)) (.node (o48_3 P) (.node (o80_7 P) (.node (b3Sub 33 17) .nil .nil) .nil) (.node (b3Sub 1 17) .nil .nil))) (.node (o24s P) (.node (o40_2 P) (.node (o72_5 P) (.node (b3Sub 25 17) .nil .nil) .nil) (.node (o104_13 P) .nil .nil)) (.node (o56_3 P) (.node (o88_10 P) .nil .nil) (.node (b3Sub 9 17) .nil .nil)))) (.node (o12s P) (.node (o20s P) (.node (o36_2 P) (.node (o68_4 P) (.node (b3Sub 21 17) .nil .nil) .nil) (.node (o100_12 P) .nil .nil)) (.node (o52_3 P) (.node (o84_8 P) (.node (b3Sub 37 17) .nil .nil) .nil) (.node (b3Sub 5 17) .nil .nil))) (.node (o28p P) (.node (o44_2 P) (.node (o76_7 P) (.node (b3Sub 29 17) .nil .nil) .nil) (.node (o108_13 P) .nil .nil)) (.node (o60_4 P) (.node (o92_10 P) .nil .nil) (.node (b3Sub 13 17) .nil .nil))))) (.node (o6s P) (.node (o10s P) (.node (o18s P) (.node (o34_2 P) (.node (o66_4 P) (.node (b3Sub 19 17) .nil .nil) .nil) (.node (o98_12 P) .nil .nil)) (.node (o50_3 P) (.node (o82_8 P) (.node (b3Sub 35 17) .nil .nil) .nil) (.node (b3Sub 3 17) .nil .nil))) (.node (o26s P) (.node (o42_2 P) (.node (o74_5 P) (.node (b3Sub 27 17) .nil .nil) .nil) (.node (o106_13 P) .nil .nil)) (.node (o58_4 P) (.node (o90_10 P) .nil .nil) (.node (b3Sub 11 17) .nil .nil)))) (.node (o14s P) (.node (o22s P) (.node (o38_2 P) (.node (o70_5 P) (.node (b3Sub 23 17) .nil .nil) .nil) (.node (o102_12 P) .nil .nil)) (.node (o54_3 P) (.node (o86_10 P) .nil .nil) (.node (b3Sub 7 17) .nil .nil))) (.node (o30p P) (.node (o46_3 P) (.node (o78_7 P) (.node (b3Sub 31 17) .nil .nil) .nil) (.node (o110_13 P) .nil .nil)) (.node (o62_4 P) (.node (o94_12 P) .nil .nil) (.node (b3Sub 15 17) .nil .nil)))))))
noncomputable def C_1 (P : Params) : BT := (B_0 P).ins 112 (b3Sub 1 17)
noncomputable def C_2 (P : Params) : BT := (B_1 P).ins 113 (b3Sub 2 17)
noncomputable def C_3 (P : Params) : BT := (B_2 P).ins 114 (b3Sub 3 17)
noncomputable def C_4 (P : Params) : BT := (B_3 P).ins 115 (b3Sub 4 17)
noncomputable def C_5 (P : Params) : BT := (B_4 P).ins 116 (b3Sub 5 17)
noncomputable def C_6 (P : Params) : BT := (B_5 P).ins 117 (b3Sub 6 17)
noncomputable def C_7 (P : Params) : BT := (B_6 P).ins 118 (b3Sub 7 17)
noncomputable def C_8 (P : Params) : BT := (B_7 P).ins 119 (b3Sub 8 17)
noncomputable def C_9 (P : Params) : BT := (B_8 P).ins 120 (b3Sub 9 17)
noncomputable def C_10 (P : Params) : BT := (B_9 P).ins 121 (b3Sub 10 17)
noncomputable def C_11 (P : Params) : BT := (B_10 P).ins 122 (b3Sub 11 17)
noncomputable def C_12 (P : Params) : BT := (B_11 P).ins 123 (b3Sub 12 17)
noncomputable def C_13 (P : Params) : BT := (B_12 P).ins 124 (b3Sub 13 17)
noncomputable def C_14 (P : Params) : BT := (B_13 P).ins 125 (b3Sub 14 17)
noncomputable def C_15 (P : Params) : BT := (B_14 P).ins 126 (b3Sub 15 17)
noncomputable def C_16 (P : Params) : BT := (B_15 P).ins 127 (b3Sub 16 17)
noncomputable def C_17 (P : Params) : BT := (B_16 P).ins 128 (b3Sub 17 17)
noncomputable def C_18 (P : Params) : BT := (B_17 P).ins 129 (b3Sub 18 17)
noncomputable def C_19 (P : Params) : BT := (B_18 P).ins 130 (b3Sub 19 17)
noncomputable def C_20 (P : Params) : BT := (B_19 P).ins 131 (b3Sub 20 17)
noncomputable def C_21 (P : Params) : BT := (B_20 P).ins 132 (b3Sub 21 17)
noncomputable def C_22 (P : Params) : BT := (B_21 P).ins 133 (b3Sub 22 17)
noncomputable def C_23 (P : Params) : BT := (B_22 P).ins 134 (b3Sub 23 17)
noncomputable def C_24 (P : Params) : BT := (B_23 P).ins 135 (b3Sub 24 17)
noncomputable def C_25 (P : Params) : BT := (B_24 P).ins 136 (b3Sub 25 17)
noncomputable def C_26 (P : Params) : BT := (B_25 P).ins 137 (b3Sub 26 17)
noncomputable def C_27 (P : Params) : BT := (B_26 P).ins 138 (b3Sub 27 17)
noncomputable def C_28 (P : Params) : BT := (B_27 P).ins 139 (b3Sub 28 17)
noncomputable def C_29 (P : Params) : BT := (B_28 P).ins 140 (b3Sub 29 17)
noncomputable def C_30 (P : Params) : BT := (B_29 P).ins 141 (b3Sub 30 17)
noncomputable def C_31 (P : Params) : BT := (B_30 P).ins 142 (b3Sub 31 17)
noncomputable def C_32 (P : Params) : BT := (B_31 P).ins 143 (b3Sub 32 17)
noncomputable def C_33 (P : Params) : BT := (B_32 P).ins 144 (b3Sub 33 17)
noncomputable def C_34 (P : Params) : BT := (B_33 P).ins 145 (b3Sub 34 17)
noncomputable def C_35 (P : Params) : BT := (B_34 P).ins 146 (b3Sub 35 17)
noncomputable def C_36 (P : Params) : BT := (B_35 P).ins 147 (b3Sub 36 17)
noncomputable def C_37 (P : Params) : BT := (B_36 P).ins 148 (b3Sub 37 17)
noncomputable def C_38 (P : Params) : BT := (B_37 P).ins 149 (b3Sub 38 4)
noncomputable def Sub0 (w : World) (os : OsState) : Prop := segRunT treeTable pw w 28 (some (.ref 6)) 1 224 (sh T_13 111 487 w os) ⟨(subDict (chunk eval 0)).wrap (fun a => .pure (.done (.ret (.ref a)))) deadEnd id id, bCode, dPos, [topFrame p0]⟩ = some (.ret (.ref 111), sh B_0 112 538 w os, bCode, dPos)
noncomputable def Sub0Q (w : World) (os : OsState) : Prop := qRun qTab pw w 28 (some (.ref 6)) 1 224 (sh T_13 111 487 w os) ⟨(qSub (chunk qEval 0)).wrap (fun a => .pure (.done (.ret (.ref a)))) deadEnd id id, bCode, dPos, [topFrame p0]⟩ = some (.ret (.ref 111), sh B_0 112 538 w os, bCode, dPos)
theorem sb0f (w : World) (os : OsState) : Sub0Q (w.withFollow "special-get-raises" false) os := by unfold Sub0Q; kernel_rfl
theorem sb0t (w : World) (os : OsState) : Sub0Q (w.withFollow "special-get-raises" true) os := by unfold Sub0Q; kernel_rfl
theorem sb0 (w : World) (os : OsState) : Sub0 w os := by
  have h := byRow2 "special-get-raises" (P := fun w => ∀ os, Sub0Q w os) sb0f sb0t w os
  unfold Sub0
  rw [qRun_eq, qTab_eq, qSub_eq, qEval_eq]
  exact h
theorem chunk_first {w : World} {os : OsState} {N : Nat} {r : Shared} {F : Value → Sem Flow} {K : Flow → Sem Fin} {H : Value → Sem Fin}
    (k : tRun w N (sh B_0 112 538 w os).abs ⟨(dLoop (rest eval 1) (some 111) [] >>= F).wrap K H id id, bCode, dPos, [topFrame p0]⟩ = some r) :
    tRun w (224 + N) (sh T_13 111 487 w os).abs ⟨(dLoop (rest eval 0) none [] >>= F).wrap K H id id, bCode, dPos, [topFrame p0]⟩ = some r := by
  rw [rest_split, dLoop_chunk _ _ _ (chunk_len eval 0 (by decide))]
  unfold putRun
  have hc : (chunk eval 0).isEmpty = false := by
    have := chunk_len eval 0 (by decide)
    cases hc : chunk eval 0 with
    | nil => rw [hc] at this; cases this
    | cons => rfl
  rw [hc]
  dsimp only
  rw [if_neg Bool.false_ne_true, bind_assoc, bind_assoc]
  exact go_bind (res := fun a => .ret (.ref a)) (segRun_of (sb0 w os)) (fun a e => by injection e with e; injection e) k
theorem sb1f (w : World) (os : OsState) : SubEqQ B_0 C_1 1 538 589 (w.withFollow "special-get-raises" false) os := by unfold SubEqQ; kernel_rfl
theorem sb1t (w : World) (os : OsState) : SubEqQ B_0 C_1 1 538 589 (w.withFollow "special-get-raises" true) os := by unfold SubEqQ; kernel_rfl
theorem bt1 (P : Params) : fedT 111 (subL 1 17) (C_1 P) = B_1 P := by kernel_rfl
theorem bl1 : (subL 1 17).length = 17 := by kernel_rfl
theorem sb2f (w : World) (os : OsState) : SubEqQ B_1 C_2 2 589 640 (w.withFollow "special-get-raises" false) os := by unfold SubEqQ; kernel_rfl
theorem sb2t (w : World) (os : OsState) : SubEqQ B_1 C_2 2 589 640 (w.withFollow "special-get-raises" true) os := by unfold SubEqQ; kernel_rfl
theorem bt2 (P : Params) : fedT 111 (subL 2 17) (C_2 P) = B_2 P := by kernel_rfl
theorem bl2 : (subL 2 17).length = 17 := by kernel_rfl
theorem sb3f (w : World) (os : OsState) : SubEqQ B_2 C_3 3 640 691 (w.withFollow "special-get-raises" false) os := by unfold SubEqQ; kernel_rfl
theorem sb3t (w : World) (os : OsState) : SubEqQ B_2 C_3 3 640 691 (w.withFollow "special-get-raises" true) os := by unfold SubEqQ; kernel_rfl
theorem bt3 (P : Params) : fedT 111 (subL 3 17) (C_3 P) = B_3 P := by kernel_rfl
theorem bl3 : (subL 3 17).length = 17 := by kernel_rfl
theorem sb4f (w : World) (os : OsState) : SubEqQ B_3 C_4 4 691 742 (w.withFollow "special-get-raises" false) os := by unfold SubEqQ; kernel_rfl
theorem sb4t (w : World) (os : OsState) : SubEqQ B_3 C_4 4 691 742 (w.withFollow "special-get-raises" true) os := by unfold SubEqQ; kernel_rfl
theorem bt4 (P : Params) : fedT 111 (subL 4 17) (C_4 P) = B_4 P := by kernel_rfl
theorem bl4 : (subL 4 17).length = 17 := by kernel_rfl
theorem sb5f (w : World) (os : OsState) : SubEqQ B_4 C_5 5 742 793 (w.withFollow "special-get-raises" false) os := by unfold SubEqQ; kernel_rfl
theorem sb5t (w : World) (os : OsState) : SubEqQ B_4 C_5 5 742 793 (w.withFollow "special-get-raises" true) os := by unfold SubEqQ; kernel_rfl
theorem bt5 (P : Params) : fedT 111 (subL 5 17) (C_5 P) = B_5 P := by kernel_rfl
theorem bl5 : (subL 5 17).length = 17 := by kernel_rfl
theorem sb6f (w : World) (os : OsState) : SubEqQ B_5 C_6 6 793 844 (w.withFollow "special-get-raises" false) os := by unfold SubEqQ; kernel_rfl
theorem sb6t (w : World) (os : OsState) : SubEqQ B_5 C_6 6 793 844 (w.withFollow "special-get-raises" true) os := by unfold SubEqQ; kernel_rfl
theorem bt6 (P : Params) : fedT 111 (subL 6 17) (C_6 P) = B_6 P := by kernel_rfl
theorem bl6 : (subL 6 17).length = 17 := by kernel_rfl
theorem sb7f (w : World) (os : OsState) : SubEqQ B_6 C_7 7 844 895 (w.withFollow "special-get-raises" false) os := by unfold SubEqQ; kernel_rfl
theorem sb7t (w : World) (os : OsState) : SubEqQ B_6 C_7 7 844 895 (w.withFollow "special-get-raises" true) os := by unfold SubEqQ; kernel_rfl
theorem bt7 (P : Params) : fedT 111 (subL 7 17) (C_7 P) = B_7 P := by kernel_rfl
theorem bl7 : (subL 7 17).length = 17 := by kernel_rfl
theorem sb8f (w : World) (os : OsState) : SubEqQ B_7 C_8 8 895 946 (w.withFollow "special-get-raises" false) os := by unfold SubEqQ; kernel_rfl
theorem sb8t (w : World) (os : OsState) : SubEqQ B_7 C_8 8 895 946 (w.withFollow "special-get-raises" true) os := by unfold SubEqQ; kernel_rfl
theorem bt8 (P : Params) : fedT 111 (subL 8 17) (C_8 P) = B_8 P := by kernel_rfl
theorem bl8 : (subL 8 17).length = 17 := by kernel_rfl
theorem sb9f (w : World) (os : OsState) : SubEqQ B_8 C_9 9 946 997 (w.withFollow "special-get-raises" false) os := by unfold SubEqQ; kernel_rfl
theorem sb9t (w : World) (os : OsState) : SubEqQ B_8 C_9 9 946 997 (w.withFollow "special-get-raises" true) os := by unfold SubEqQ; kernel_rfl
theorem bt9 (P : Params) : fedT 111 (subL 9 17) (C_9 P) = B_9 P := by kernel_rfl
theorem bl9 : (subL 9 17).length = 17 := by kernel_rfl
theorem sb10f (w : World) (os : OsState) : SubEqQ B_9 C_10 10 997 1048 (w.withFollow "special-get-raises" false) os := by unfold SubEqQ; kernel_rfl
theorem sb10t (w : World) (os : OsState) : SubEqQ B_9 C_10 10 997 1048 (w.withFollow "special-get-raises" true) os := by unfold SubEqQ; kernel_rfl
theorem bt10 (P : Params) : fedT 111 (subL 10 17) (C_10 P) = B_10 P := by kernel_rfl
theorem bl10 : (subL 10 17).length = 17 := by kernel_rfl
theorem sb11f (w : World) (os : OsState) : SubEqQ B_10 C_11 11 1048 1099 (w.withFollow "special-get-raises" false) os := by unfold SubEqQ; kernel_rfl
theorem sb11t (w : World) (os : OsState) : SubEqQ B_10 C_11 11 1048 1099 (w.withFollow "special-get-raises" true) os := by unfold SubEqQ; kernel_rfl
theorem bt11 (P : Params) : fedT 111 (subL 11 17) (C_11 P) = B_11 P := by kernel_rfl
theorem bl11 : (subL 11 17).length = 17 := by kernel_rfl
theorem sb12f (w : World) (os : OsState) : SubEqQ B_11 C_12 12 1099 1150 (w.withFollow "special-get-raises" false) os := by unfold SubEqQ; kernel_rfl
theorem sb12t (w : World) (os : OsState) : SubEqQ B_11 C_12 12 1099 1150 (w.withFollow "special-get-raises" true) os := by unfold SubEqQ; kernel_rfl
theorem bt12 (P : Params) : fedT 111 (subL 12 17) (C_12 P) = B_12 P := by kernel_rfl
theorem bl12 : (subL 12 17).length = 17 := by kernel_rfl
theorem sb13f (w : World) (os : OsState) : SubEqQ B_12 C_13 13 1150 1201 (w.withFollow "special-get-raises" false) os := by unfold SubEqQ; kernel_rfl
theorem sb13t (w : World) (os : OsState) : SubEqQ B_12 C_13 13 1150 1201 (w.withFollow "special-get-raises" true) os := by unfold SubEqQ; kernel_rfl
theorem bt13 (P : Params) : fedT 111 (subL 13 17) (C_13 P) = B_13 P := by kernel_rfl
theorem bl13 : (subL 13 17).length = 17 := by kernel_rfl
theorem sb14f (w : World) (os : OsState) : SubEqQ B_13 C_14 14 1201 1252 (w.withFollow "special-get-raises" false) os := by unfold SubEqQ; kernel_rfl
theorem sb14t (w : World) (os : OsState) : SubEqQ B_13 C_14 14 1201 1252 (w.withFollow "special-get-raises" true) os := by unfold SubEqQ; kernel_rfl
theorem bt14 (P : Params) : fedT 111 (subL 14 17) (C_14 P) = B_14 P := by kernel_rfl
theorem bl14 : (subL 14 17).length = 17 := by kernel_rfl
theorem sb15f (w : World) (os : OsState) : SubEqQ B_14 C_15 15 1252 1303 (w.withFollow "special-get-raises" false) os := by unfold SubEqQ; kernel_rfl
theorem sb15t (w : World) (os : OsState) : SubEqQ B_14 C_15 15 1252 1303 (w.withFollow "special-get-raises" true) os := by unfold SubEqQ; kernel_rfl
theorem bt15 (P : Params) : fedT 111 (subL 15 17) (C_15 P) = B_15 P := by kernel_rfl
theorem bl15 : (subL 15 17).length = 17 := by kernel_rfl
theorem sb16f (w : World) (os : OsState) : SubEqQ B_15 C_16 16 1303 1354 (w.withFollow "special-get-raises" false) os := by unfold SubEqQ; kernel_rfl
theorem sb16t (w : World) (os : OsState) : SubEqQ B_15 C_16 16 1303 1354 (w.withFollow "special-get-raises" true) os := by unfold SubEqQ; kernel_rfl
theorem bt16 (P : Params) : fedT 111 (subL 16 17) (C_16 P) = B_16 P := by kernel_rfl
theorem bl16 : (subL 16 17).length = 17 := by kernel_rfl
theorem sb17f (w : World) (os : OsState) : SubEqQ B_16 C_17 17 1354 1405 (w.withFollow "special-get-raises" false) os := by unfold SubEqQ; kernel_rfl
theorem sb17t (w : World) (os : OsState) : SubEqQ B_16 C_17 17 1354 1405 (w.withFollow "special-get-raises" true) os := by unfold SubEqQ; kernel_rfl
theorem bt17 (P : Params) : fedT 111 (subL 17 17) (C_17 P) = B_17 P := by kernel_rfl
theorem bl17 : (subL 17 17).length = 17 := by kernel_rfl
theorem sb18f (w : World) (os : OsState) : SubEqQ B_17 C_18 18 1405 1456 (w.withFollow "special-get-raises" false) os := by unfold SubEqQ; kernel_rfl
theorem sb18t (w : World) (os : OsState) : SubEqQ B_17 C_18 18 1405 1456 (w.withFollow "special-get-raises" true) os := by unfold SubEqQ; kernel_rfl
theorem bt18 (P : Params) : fedT 111 (subL 18 17) (C_18 P) = B_18 P := by kernel_rfl
theorem bl18 : (subL 18 17).length = 17 := by kernel_rfl
theorem sb19f (w : World) (os : OsState) : SubEqQ B_18 C_19 19 1456 1507 (w.withFollow "special-get-raises" false) os := by unfold SubEqQ; kernel_rfl
theorem sb19t (w : World) (os : OsState) : SubEqQ B_18 C_19 19 1456 1507 (w.withFollow "special-get-raises" true) os := by unfold SubEqQ; kernel_rfl
theorem bt19 (P : Params) : fedT 111 (subL 19 17) (C_19 P) = B_19 P := by kernel_rfl
theorem bl19 : (subL 19 17).length = 17 := by kernel_rfl
theorem sb20f (w : World) (os : OsState) : SubEqQ B_19 C_20 20 1507 1558 (w.withFollow "special-get-raises" false) os := by unfold SubEqQ; kernel_rfl
theorem sb20t (w : World) (os : OsState) : SubEqQ B_19 C_20 20 1507 1558 (w.withFollow "special-get-raises" true) os := by unfold SubEqQ; kernel_rfl
theorem bt20 (P : Params) : fedT 111 (subL 20 17) (C_20 P) = B_20 P := by kernel_rfl
theorem bl20 : (subL 20 17).length = 17 := by kernel_rfl
theorem sb21f (w : World) (os : OsState) : SubEqQ B_20 C_21 21 1558 1609 (w.withFollow "special-get-raises" false) os := by unfold SubEqQ; kernel_rfl
theorem sb21t (w : World) (os : OsState) : SubEqQ B_20 C_21 21 1558 1609 (w.withFollow "special-get-raises" true) os := by unfold SubEqQ; kernel_rfl
theorem bt21 (P : Params) : fedT 111 (subL 21 17) (C_21 P) = B_21 P := by kernel_rfl
theorem bl21 : (subL 21 17).length = 17 := by kernel_rfl
theorem sb22f (w : World) (os : OsState) : SubEqQ B_21 C_22 22 1609 1660 (w.withFollow "special-get-raises" false) os := by unfold SubEqQ; kernel_rfl
theorem sb22t (w : World) (os : OsState) : SubEqQ B_21 C_22 22 1609 1660 (w.withFollow "special-get-raises" true) os := by unfold SubEqQ; kernel_rfl
theorem bt22 (P : Params) : fedT 111 (subL 22 17) (C_22 P) = B_22 P := by kernel_rfl
theorem bl22 : (subL 22 17).length = 17 := by kernel_rfl
theorem sb23f (w : World) (os : OsState) : SubEqQ B_22 C_23 23 1660 1711 (w.withFollow "special-get-raises" false) os := by unfold SubEqQ; kernel_rfl
theorem sb23t (w : World) (os : OsState) : SubEqQ B_22 C_23 23 1660 1711 (w.withFollow "special-get-raises" true) os := by unfold SubEqQ; kernel_rfl
theorem bt23 (P : Params) : fedT 111 (subL 23 17) (C_23 P) = B_23 P := by kernel_rfl
theorem bl23 : (subL 23 17).length = 17 := by kernel_rfl
theorem sb24f (w : World) (os : OsState) : SubEqQ B_23 C_24 24 1711 1762 (w.withFollow "special-get-raises" false) os := by unfold SubEqQ; kernel_rfl
theorem sb24t (w : World) (os : OsState) : SubEqQ B_23 C_24 24 1711 1762 (w.withFollow "special-get-raises" true) os := by unfold SubEqQ; kernel_rfl
theorem bt24 (P : Params) : fedT 111 (subL 24 17) (C_24 P) = B_24 P := by kernel_rfl
theorem bl24 : (subL 24 17).length = 17 := by kernel_rfl
theorem sb25f (w : World) (os : OsState) : SubEqQ B_24 C_25 25 1762 1813 (w.withFollow "special-get-raises" false) os := by unfold SubEqQ; kernel_rfl
theorem sb25t (w : World) (os : OsState) : SubEqQ B_24 C_25 25 1762 1813 (w.withFollow "special-get-raises" true) os := by unfold SubEqQ; kernel_rfl
theorem bt25 (P : Params) : fedT 111 (subL 25 17) (C_25 P) = B_25 P := by kernel_rfl
theorem bl25 : (subL 25 17).length = 17 := by kernel_rfl
theorem sb26f (w : World) (os : OsState) : SubEqQ B_25 C_26 26 1813 1864 (w.withFollow "special-get-raises" false) os := by unfold SubEqQ; kernel_rfl
theorem sb26t (w : World) (os : OsState) : SubEqQ B_25 C_26 26 1813 1864 (w.withFollow "special-get-raises" true) os := by unfold SubEqQ; kernel_rfl
theorem bt26 (P : Params) : fedT 111 (subL 26 17) (C_26 P) = B_26 P := by kernel_rfl
theorem bl26 : (subL 26 17).length = 17 := by kernel_rfl
theorem sb27f (w : World) (os : OsState) : SubEqQ B_26 C_27 27 1864 1915 (w.withFollow "special-get-raises" false) os := by unfold SubEqQ; kernel_rfl
theorem sb27t (w : World) (os : OsState) : SubEqQ B_26 C_27 27 1864 1915 (w.withFollow "special-get-raises" true) os := by unfold SubEqQ; kernel_rfl
theorem bt27 (P : Params) : fedT 111 (subL 27 17) (C_27 P) = B_27 P := by kernel_rfl
theorem bl27 : (subL 27 17).length = 17 := by kernel_rfl
theorem sb28f (w : World) (os : OsState) : SubEqQ B_27 C_28 28 1915 1966 (w.withFollow "special-get-raises" false) os := by unfold SubEqQ; kernel_rfl
theorem sb28t (w : World) (os : OsState) : SubEqQ B_27 C_28 28 1915 1966 (w.withFollow "special-get-raises" true) os := by unfold SubEqQ; kernel_rfl
theorem bt28 (P : Params) : fedT 111 (subL 28 17) (C_28 P) = B_28 P := by kernel_rfl
theorem bl28 : (subL 28 17).length = 17 := by kernel_rfl
theorem sb29f (w : World) (os : OsState) : SubEqQ B_28 C_29 29 1966 2017 (w.withFollow "special-get-raises" false) os := by unfold SubEqQ; kernel_rfl
theorem sb29t (w : World) (os : OsState) : SubEqQ B_28 C_29 29 1966 2017 (w.withFollow "special-get-raises" true) os := by unfold SubEqQ; kernel_rfl
theorem bt29 (P : Params) : fedT 111 (subL 29 17) (C_29 P) = B_29 P := by kernel_rfl
theorem bl29 : (subL 29 17).length = 17 := by kernel_rfl
theorem sb30f (w : World) (os : OsState) : SubEqQ B_29 C_30 30 2017 2068 (w.withFollow "special-get-raises" false) os := by unfold SubEqQ; kernel_rfl
theorem sb30t (w : World) (os : OsState) : SubEqQ B_29 C_30 30 2017 2068 (w.withFollow "special-get-raises" true) os := by unfold SubEqQ; kernel_rfl
theorem bt30 (P : Params) : fedT 111 (subL 30 17) (C_30 P) = B_30 P := by kernel_rfl
theorem bl30 : (subL 30 17).length = 17 := by kernel_rfl
theorem sb31f (w : World) (os : OsState) : SubEqQ B_30 C_31 31 2068 2119 (w.withFollow "special-get-raises" false) os := by unfold SubEqQ; kernel_rfl
theorem sb31t (w : World) (os : OsState) : SubEqQ B_30 C_31 31 2068 2119 (w.withFollow "special-get-raises" true) os := by unfold SubEqQ; kernel_rfl
theorem bt31 (P : Params) : fedT 111 (subL 31 17) (C_31 P) = B_31 P := by kernel_rfl
theorem bl31 : (subL 31 17).length = 17 := by kernel_rfl
theorem sb32f (w : World) (os : OsState) : SubEqQ B_31 C_32 32 2119 2170 (w.withFollow "special-get-raises" false) os := by unfold SubEqQ; kernel_rfl
theorem sb32t (w : World) (os : OsState) : SubEqQ B_31 C_32 32 2119 2170 (w.withFollow "special-get-raises" true) os := by unfold SubEqQ; kernel_rfl
theorem bt32 (P : Params) : fedT 111 (subL 32 17) (C_32 P) = B_32 P := by kernel_rfl
theorem bl32 : (subL 32 17).length = 17 := by kernel_rfl
theorem sb33f (w : World) (os : OsState) : SubEqQ B_32 C_33 33 2170 2221 (w.withFollow "special-get-raises" false) os := by unfold SubEqQ; kernel_rfl
theorem sb33t (w : World) (os : OsState) : SubEqQ B_32 C_33 33 2170 2221 (w.withFollow "special-get-raises" true) os := by unfold SubEqQ; kernel_rfl
theorem bt33 (P : Params) : fedT 111 (subL 33 17) (C_33 P) = B_33 P := by kernel_rfl
theorem bl33 : (subL 33 17).length = 17 := by kernel_rfl
theorem sb34f (w : World) (os : OsState) : SubEqQ B_33 C_34 34 2221 2272 (w.withFollow "special-get-raises" false) os := by unfold SubEqQ; kernel_rfl
theorem sb34t (w : World) (os : OsState) : SubEqQ B_33 C_34 34 2221 2272 (w.withFollow "special-get-raises" true) os := by unfold SubEqQ; kernel_rfl
theorem bt34 (P : Params) : fedT 111 (subL 34 17) (C_34 P) = B_34 P := by kernel_rfl
theorem bl34 : (subL 34 17).length = 17 := by kernel_rfl
theorem sb35f (w : World) (os : OsState) : SubEqQ B_34 C_35 35 2272 2323 (w.withFollow "special-get-raises" false) os := by unfold SubEqQ; kernel_rfl
theorem sb35t (w : World) (os : OsState) : SubEqQ B_34 C_35 35 2272 2323 (w.withFollow "special-get-raises" true) os := by unfold SubEqQ; kernel_rfl
theorem bt35 (P : Params) : fedT 111 (subL 35 17) (C_35 P) = B_35 P := by kernel_rfl
theorem bl35 : (subL 35 17).length = 17 := by kernel_rfl
theorem sb36f (w : World) (os : OsState) : SubEqQ B_35 C_36 36 2323 2374 (w.withFollow "special-get-raises" false) os := by unfold SubEqQ; kernel_rfl
theorem sb36t (w : World) (os : OsState) : SubEqQ B_35 C_36 36 2323 2374 (w.withFollow "special-get-raises" true) os := by unfold SubEqQ; kernel_rfl
theorem bt36 (P : Params) : fedT 111 (subL 36 17) (C_36 P) = B_36 P := by kernel_rfl
theorem bl36 : (subL 36 17).length = 17 := by kernel_rfl
theorem sb37f (w : World) (os : OsState) : SubEqQ B_36 C_37 37 2374 2425 (w.withFollow "special-get-raises" false) os := by unfold SubEqQ; kernel_rfl
theorem sb37t (w : World) (os : OsState) : SubEqQ B_36 C_37 37 2374 2425 (w.withFollow "special-get-raises" true) os := by unfold SubEqQ; kernel_rfl
theorem bt37 (P : Params) : fedT 111 (subL 37 17) (C_37 P) = B_37 P := by kernel_rfl
theorem bl37 : (subL 37 17).length = 17 := by kernel_rfl
theorem sb38f (w : World) (os : OsState) : SubEqQ B_37 C_38 38 2425 2437 (w.withFollow "special-get-raises" false) os := by unfold SubEqQ; kernel_rfl
theorem sb38t (w : World) (os : OsState) : SubEqQ B_37 C_38 38 2425 2437 (w.withFollow "special-get-raises" true) os := by unfold SubEqQ; kernel_rfl
theorem bt38 (P : Params) : fedT 111 (subL 38 4) (C_38 P) = B_38 P := by kernel_rfl
theorem bl38 : (subL 38 4).length = 4 := by kernel_rfl
end Mine
end
section
open PySem PySem.W PyProof.Rows
namespace Mine
theorem go_fin {tb : String → Option Builtin} {p : Program} {w : World} {n₀ : Nat} {ann : Option Value} {q : Pos} {x : Sem Flow} {K : Flow → Sem Fin} {H : Value → Sem Fin} {fl : Flow}
    {n N : Nat} {s s' r : Shared} {c c' : Code} {pos p' : Pos}
    (h : segRun tb p w n₀ ann 1 n s ⟨x.wrap doneF deadEnd id id, c, pos, [topFrame q]⟩ = some (fl, s', c', p'))
    (k : topRun tb p w n₀ ann N s' ⟨K fl, c', p', [topFrame q]⟩ = some r) :
    topRun tb p w n₀ ann (n + N) s ⟨x.wrap K H id id, c, pos, [topFrame q]⟩ = some r := by
  obtain ⟨a, e, hN⟩ := seg_top (res := id) (K' := K) (H' := H) (B := [topFrame q]) rfl n s ⟨x.wrap doneF deadEnd id id, c, pos, [topFrame q]⟩
    ⟨x.wrap K H id id, c, pos, [topFrame q]⟩ _ _ _ _ ⟨rfl, rfl, .inl ⟨rfl, rfl, x, rfl, rfl⟩⟩ h
  obtain rfl : a = fl := e
  exact hN N r k
theorem b3_dl {w : World} {os : OsState} {N : Nat} {r : Shared} {F : Value → Sem Flow} {K : Flow → Sem Fin} {H : Value → Sem Fin}
    (k : tRun w N (sh B_38 150 2437 w os).abs ⟨(F (.ref 111)).wrap K H id id, bCode, dPos, [topFrame p0]⟩ = some r) :
    tRun w (12724 + N) (sh T_13 111 487 w os).abs ⟨(dLoop (rest eval 0) none [] >>= F).wrap K H id id, bCode, dPos, [topFrame p0]⟩ = some r := by
  have e : 12724 + N = 224 + (331 + (331 + (331 + (331 + (331 + (331 + (331 + (331 + (331 + (331 + (331 + (331 + (331 + (331 + (331 + (331 + (331 + (331 + (331 + (331 + (331 + (331 + (331 + (331 + (331 + (331 + (331 + (331 + (331 + (331 + (331 + (331 + (331 + (331 + (331 + (331 + (331 + (253 + N)))))))))))))))))))))))))))))))))))))) := by omega
  rw [e]
  refine chunk_first ?_
  refine chunk_step (j := 1) (SubEq.of sb1f sb1t w os) (by kernel_rfl) (by kernel_rfl) ⟨by decide, by decide⟩ bl1 (bt1 _) ?_
  refine chunk_step (j := 2) (SubEq.of sb2f sb2t w os) (by kernel_rfl) (by kernel_rfl) ⟨by decide, by decide⟩ bl2 (bt2 _) ?_
  refine chunk_step (j := 3) (SubEq.of sb3f sb3t w os) (by kernel_rfl) (by kernel_rfl) ⟨by decide, by decide⟩ bl3 (bt3 _) ?_
  refine chunk_step (j := 4) (SubEq.of sb4f sb4t w os) (by kernel_rfl) (by kernel_rfl) ⟨by decide, by decide⟩ bl4 (bt4 _) ?_
  refine chunk_step (j := 5) (SubEq.of sb5f sb5t w os) (by kernel_rfl) (by kernel_rfl) ⟨by decide, by decide⟩ bl5 (bt5 _) ?_
  refine chunk_step (j := 6) (SubEq.of sb6f sb6t w os) (by kernel_rfl) (by kernel_rfl) ⟨by decide, by decide⟩ bl6 (bt6 _) ?_
  refine chunk_step (j := 7) (SubEq.of sb7f sb7t w os) (by kernel_rfl) (by kernel_rfl) ⟨by decide, by decide⟩ bl7 (bt7 _) ?_
  refine chunk_step (j := 8) (SubEq.of sb8f sb8t w os) (by kernel_rfl) (by kernel_rfl) ⟨by decide, by decide⟩ bl8 (bt8 _) ?_
  refine chunk_step (j := 9) (SubEq.of sb9f sb9t w os) (by kernel_rfl) (by kernel_rfl) ⟨by decide, by decide⟩ bl9 (bt9 _) ?_
  refine chunk_step (j := 10) (SubEq.of sb10f sb10t w os) (by kernel_rfl) (by kernel_rfl) ⟨by decide, by decide⟩ bl10 (bt10 _) ?_
  refine chunk_step (j := 11) (SubEq.of sb11f sb11t w os) (by kernel_rfl) (by kernel_rfl) ⟨by decide, by decide⟩ bl11 (bt11 _) ?_
  refine chunk_step (j := 12) (SubEq.of sb12f sb12t w os) (by kernel_rfl) (by kernel_rfl) ⟨by decide, by decide⟩ bl12 (bt12 _) ?_
  refine chunk_step (j := 13) (SubEq.of sb13f sb13t w os) (by kernel_rfl) (by kernel_rfl) ⟨by decide, by decide⟩ bl13 (bt13 _) ?_
  refine chunk_step (j := 14) (SubEq.of sb14f sb14t w os) (by kernel_rfl) (by kernel_rfl) ⟨by decide, by decide⟩ bl14 (bt14 _) ?_
  refine chunk_step (j := 15) (SubEq.of sb15f sb15t w os) (by kernel_rfl) (by kernel_rfl) ⟨by decide, by decide⟩ bl15 (bt15 _) ?_
  refine chunk_step (j := 16) (SubEq.of sb16f sb16t w os) (by kernel_rfl) (by kernel_rfl) ⟨by decide, by decide⟩ bl16 (bt16 _) ?_
  refine chunk_step (j := 17) (SubEq.of sb17f sb17t w os) (by kernel_rfl) (by kernel_rfl) ⟨by decide, by decide⟩ bl17 (bt17 _) ?_
  refine chunk_step (j := 18) (SubEq.of sb18f sb18t w os) (by kernel_rfl) (by kernel_rfl) ⟨by decide, by decide⟩ bl18 (bt18 _) ?_
  refine chunk_step (j := 19) (SubEq.of sb19f sb19t w os) (by kernel_rfl) (by kernel_rfl) ⟨by decide, by decide⟩ bl19 (bt19 _) ?_
  refine chunk_step (j := 20) (SubEq.of sb20f sb20t w os) (by kernel_rfl) (by kernel_rfl) ⟨by decide, by decide⟩ bl20 (bt20 _) ?_
  refine chunk_step (j := 21) (SubEq.of sb21f sb21t w os) (by kernel_rfl) (by kernel_rfl) ⟨by decide, by decide⟩ bl21 (bt21 _) ?_
  refine chunk_step (j := 22) (SubEq.of sb22f sb22t w os) (by kernel_rfl) (by kernel_rfl) ⟨by decide, by decide⟩ bl22 (bt22 _) ?_
  refine chunk_step (j := 23) (SubEq.of sb23f sb23t w os) (by kernel_rfl) (by kernel_rfl) ⟨by decide, by decide⟩ bl23 (bt23 _) ?_
  refine chunk_step (j := 24) (SubEq.of sb24f sb24t w os) (by kernel_rfl) (by kernel_rfl) ⟨by decide, by decide⟩ bl24 (bt24 _) ?_
  refine chunk_step (j := 25) (SubEq.of sb25f sb25t w os) (by kernel_rfl) (by kernel_rfl) ⟨by decide, by decide⟩ bl25 (bt25 _) ?_
  refine chunk_step (j := 26) (SubEq.of sb26f sb26t w os) (by kernel_rfl) (by kernel_rfl) ⟨by decide, by decide⟩ bl26 (bt26 _) ?_
  refine chunk_step (j := 27) (SubEq.of sb27f sb27t w os) (by kernel_rfl) (by kernel_rfl) ⟨by decide, by decide⟩ bl27 (bt27 _) ?_
  refine chunk_step (j := 28) (SubEq.of sb28f sb28t w os) (by kernel_rfl) (by kernel_rfl) ⟨by decide, by decide⟩ bl28 (bt28 _) ?_
  refine chunk_step (j := 29) (SubEq.of sb29f sb29t w os) (by kernel_rfl) (by kernel_rfl) ⟨by decide, by decide⟩ bl29 (bt29 _) ?_
  refine chunk_step (j := 30) (SubEq.of sb30f sb30t w os) (by kernel_rfl) (by kernel_rfl) ⟨by decide, by decide⟩ bl30 (bt30 _) ?_
  refine chunk_step (j := 31) (SubEq.of sb31f sb31t w os) (by kernel_rfl) (by kernel_rfl) ⟨by decide, by decide⟩ bl31 (bt31 _) ?_
  refine chunk_step (j := 32) (SubEq.of sb32f sb32t w os) (by kernel_rfl) (by kernel_rfl) ⟨by decide, by decide⟩ bl32 (bt32 _) ?_
  refine chunk_step (j := 33) (SubEq.of sb33f sb33t w os) (by kernel_rfl) (by kernel_rfl) ⟨by decide, by decide⟩ bl33 (bt33 _) ?_
  refine chunk_step (j := 34) (SubEq.of sb34f sb34t w os) (by kernel_rfl) (by kernel_rfl) ⟨by decide, by decide⟩ bl34 (bt34 _) ?_
  refine chunk_step (j := 35) (SubEq.of sb35f sb35t w os) (by kernel_rfl) (by kernel_rfl) ⟨by decide, by decide⟩ bl35 (bt35 _) ?_
  refine chunk_step (j := 36) (SubEq.of sb36f sb36t w os) (by kernel_rfl) (by kernel_rfl) ⟨by decide, by decide⟩ bl36 (bt36 _) ?_
  refine chunk_step (j := 37) (SubEq.of sb37f sb37t w os) (by kernel_rfl) (by kernel_rfl) ⟨by decide, by decide⟩ bl37 (bt37 _) ?_
  exact chunk_last (SubEq.of sb38f sb38t w os) (by kernel_rfl) (by kernel_rfl) bl38 (bt38 _) k
theorem b3_a (w : World) (os : OsState) : segRunT treeTable pw w 28 (some (.ref 6)) 1 2 (sh T_13 111 487 w os) ⟨(standAt aPos).wrap (fun _ => .pure (.done .next)) deadEnd id id, bCode, ⟨34, 0, 35, 30⟩, [topFrame p0]⟩ = some (.next, sh T_13 111 487 w os, bCode, aPos) := by kernel_rfl
theorem b3_b (w : World) (os : OsState) : segRunT treeTable pw w 28 (some (.ref 6)) 1 20 (sh T_13 111 487 w os) ⟨(swapsWithSole b3T (.Dict b3K b3V dPos) aPos.line bEnv).wrap (fun b => .pure (.done (if b then .brk else .next))) deadEnd id id, bCode, aPos, [topFrame p0]⟩ = some (.next, sh T_13 111 487 w os, bCode, aPos) := by kernel_rfl
theorem b3_c (w : World) (os : OsState) : segRunT treeTable pw w 28 (some (.ref 6)) 1 2 (sh T_13 111 487 w os) ⟨(standAt dPos).wrap (fun _ => .pure (.done .next)) deadEnd id id, bCode, aPos, [topFrame p0]⟩ = some (.next, sh T_13 111 487 w os, bCode, dPos) := by kernel_rfl
theorem b3_d (w : World) (os : OsState) : segRunT treeTable pw w 28 (some (.ref 6)) 1 60 (sh B_38 150 2437 w os) ⟨(swappedStores b3T (.Dict b3K b3V dPos) bEnv >>= fun sw => assignStores bEnv (.ref 111) sw ((assignEach b3T bEnv).map (·.2))).wrap doneF deadEnd id id, bCode, dPos, [topFrame p0]⟩ = some (.next, sh T_14 150 2438 w os, bCode, ⟨36, 0, 36, 13⟩) := by kernel_rfl
theorem items_zero : itemsBy eval b3K b3V = rest eval 0 := by
  unfold rest
  rw [Nat.mul_zero, List.drop_zero, List.drop_zero]
theorem b3_run {w : World} {os : OsState} {N : Nat} {r : Shared} {K : Flow → Sem Fin} {H : Value → Sem Fin}
    (k : tRun w N (sh T_14 150 2438 w os).abs ⟨K .next, bCode, ⟨36, 0, 36, 13⟩, [topFrame p0]⟩ = some r) :
    tRun w (12808 + N) (sh T_13 111 487 w os).abs ⟨(exec (stm 14) bEnv).wrap K H id id, bCode, ⟨34, 0, 35, 30⟩, [topFrame p0]⟩ = some r := by
  have e : 12808 + N = 2 + (20 + (2 + (12724 + (60 + N)))) := by omega
  rw [e, stm14_eq, arm_exec_Assign]
  refine go_bind (res := fun _ => .next) (a₀ := ()) (segRun_of (b3_a w os)) (fun _ _ => rfl) ?_
  refine go_bind (res := fun b => if b then .brk else .next) (a₀ := false) (segRun_of (b3_b w os)) (fun b hb => by cases b <;> first | rfl | cases hb) ?_
  rw [if_neg Bool.false_ne_true, arm_eval_Dict, bind_assoc]
  refine go_bind (res := fun _ => .next) (a₀ := ()) (segRun_of (b3_c w os)) (fun _ _ => rfl) ?_
  rw [items_eq bEnv rfl b3K b3V b3K_some, dd_eq, items_zero]
  have q := b3_dl (w := w) (os := os) (N := 60 + N) (r := r) (K := K) (H := H) (F := fun v => swappedStores b3T (.Dict b3K b3V dPos) bEnv >>= fun sw => assignStores bEnv v sw ((assignEach b3T bEnv).map (·.2))) (go_fin (segRun_of (b3_d w os)) k)
  with_reducible exact q
noncomputable def g1Q (w : World) (os : OsState) : Prop := qRun qTab pw w 28 (some (.ref 6)) 1 867 (sh Tb 32 282 w os) ⟨(qExecs [stm 1, stm 2, stm 3, stm 4, stm 5, stm 6, stm 7, stm 8, stm 9, stm 10, stm 11] bEnv).wrap doneF deadEnd id id, bCode, p0, [topFrame p0]⟩ = some (.next, sh T_11 93 420 w os, bCode, ⟨32, 0, 32, 8⟩)
noncomputable def g1P (w : World) (os : OsState) : Prop := segRunT treeTable pw w 28 (some (.ref 6)) 1 867 (sh Tb 32 282 w os) (piecesOf [stm 1, stm 2, stm 3, stm 4, stm 5, stm 6, stm 7, stm 8, stm 9, stm 10, stm 11] bEnv bCode p0 [topFrame p0]) = some (.next, sh T_11 93 420 w os, bCode, ⟨32, 0, 32, 8⟩)
theorem g1_of (w : World) (os : OsState) (h : g1Q w os) : g1P w os := by
  unfold g1P piecesOf
  rw [qRun_eq, qTab_eq, qExecs_eq]
  exact h
theorem g1 (w : World) (os : OsState) : g1P w os := g1_of w os (by unfold g1Q; kernel_rfl)
noncomputable def g2Q (w : World) (os : OsState) : Prop := qRun qTab pw w 28 (some (.ref 6)) 1 1028 (sh T_11 93 420 w os) ⟨(qExecs [stm 12, stm 13] bEnv).wrap doneF deadEnd id id, bCode, ⟨32, 0, 32, 8⟩, [topFrame p0]⟩ = some (.next, sh T_13 111 487 w os, bCode, ⟨34, 0, 35, 30⟩)
noncomputable def g2P (w : World) (os : OsState) : Prop := segRunT treeTable pw w 28 (some (.ref 6)) 1 1028 (sh T_11 93 420 w os) (piecesOf [stm 12, stm 13] bEnv bCode ⟨32, 0, 32, 8⟩ [topFrame p0]) = some (.next, sh T_13 111 487 w os, bCode, ⟨34, 0, 35, 30⟩)
theorem g2_of (w : World) (os : OsState) (h : g2Q w os) : g2P w os := by
  unfold g2P piecesOf
  rw [qRun_eq, qTab_eq, qExecs_eq]
  exact h
theorem g2ff (w : World) (os : OsState) : g2Q ((w.withFollow "special-get-raises" false).withFollow "set-order" false) os := by unfold g2Q; kernel_rfl
theorem g2ft (w : World) (os : OsState) : g2Q ((w.withFollow "special-get-raises" true).withFollow "set-order" false) os := by unfold g2Q; kernel_rfl
theorem g2tf (w : World) (os : OsState) : g2Q ((w.withFollow "special-get-raises" false).withFollow "set-order" true) os := by unfold g2Q; kernel_rfl
theorem g2tt (w : World) (os : OsState) : g2Q ((w.withFollow "special-get-raises" true).withFollow "set-order" true) os := by unfold g2Q; kernel_rfl
theorem g2 (w : World) (os : OsState) : g2P w os := g2_of w os (byRow2 "set-order" (P := fun w => ∀ os, g2Q w os)
  (fun w => byRow2 "special-get-raises" (P := fun w => ∀ os, g2Q (w.withFollow "set-order" false) os) g2ff g2ft w)
  (fun w => byRow2 "special-get-raises" (P := fun w => ∀ os, g2Q (w.withFollow "set-order" true) os) g2tf g2tt w) w os)
noncomputable def g3Q (w : World) (os : OsState) : Prop := qRun qTab pw w 28 (some (.ref 6)) 1 242 (sh T_14 150 2438 w os) ⟨(qExecs [stm 15, stm 16, stm 17, stm 18, stm 19, stm 20, stm 21, stm 22, stm 23] bEnv).wrap doneF deadEnd id id, bCode, ⟨36, 0, 36, 13⟩, [topFrame p0]⟩ = some (.next, sh T_23 198 2504 w os, bCode, ⟨112, 0, 143, 15⟩)
noncomputable def g3P (w : World) (os : OsState) : Prop := segRunT treeTable pw w 28 (some (.ref 6)) 1 242 (sh T_14 150 2438 w os) (piecesOf [stm 15, stm 16, stm 17, stm 18, stm 19, stm 20, stm 21, stm 22, stm 23] bEnv bCode ⟨36, 0, 36, 13⟩ [topFrame p0]) = some (.next, sh T_23 198 2504 w os, bCode, ⟨112, 0, 143, 15⟩)
theorem g3_of (w : World) (os : OsState) (h : g3Q w os) : g3P w os := by
  unfold g3P piecesOf
  rw [qRun_eq, qTab_eq, qExecs_eq]
  exact h
theorem g3 (w : World) (os : OsState) : g3P w os := g3_of w os (by unfold g3Q; kernel_rfl)
noncomputable abbrev qTopGo := @PySem.W.Fast.tw15667345088766844465
theorem qTopGo_eq : @topGo = @qTopGo := PySem.W.Fast.te15667345088766844465
noncomputable abbrev qDen := @PySem.W.Fast.tw11892475500146522536
theorem qDen_eq : @denote = @qDen := PySem.W.Fast.te11892475500146522536
theorem preQ (w : World) (os : OsState) : qTopGo qTab pw w 28 (some (.ref 6)) 12 (sh Ts 28 276 w os).abs (topStub pw) = some ((sh Tp 32 282 w os).abs, ⟨qDen qTab bCode, bCode, p0, [topFrame p0]⟩) := by kernel_rfl
theorem pre (w : World) (os : OsState) : topGo treeTable pw w 28 (some (.ref 6)) 12 (sh Ts 28 276 w os).abs (topStub pw) = some ((sh Tp 32 282 w os).abs, ⟨denote treeTable bCode, bCode, p0, [topFrame p0]⟩) := by
  rw [qTopGo_eq, qTab_eq, qDen_eq]
  exact preQ w os
theorem blk (w : World) (os : OsState) : segRunT treeTable pw w 28 (some (.ref 6)) 1 2 (sh Tp 32 282 w os) (blockOf (behindTheImports pw) bEnv bCode p0 [topFrame p0]) = some (.next, sh Tb 32 282 w os, bCode, p0) := by kernel_rfl
theorem body_eq : behindTheImports pw = [stm 1, stm 2, stm 3, stm 4, stm 5, stm 6, stm 7, stm 8, stm 9, stm 10, stm 11] ++ ([stm 12, stm 13] ++ (stm 14 :: ([stm 15, stm 16, stm 17, stm 18, stm 19, stm 20, stm 21, stm 22, stm 23] ++ []))) := by kernel_rfl
theorem fin (w : World) (os : OsState) : topRun treeTable pw w 28 (some (.ref 6)) 3 (sh T_23 198 2504 w os).abs ⟨doneF .next, bCode, ⟨112, 0, 143, 15⟩, [topFrame p0]⟩ = some (sh T_23 198 2504 w os).abs := by kernel_rfl
theorem top_run (w : World) (os : OsState) : topRun treeTable pw w 28 (some (.ref 6)) 14962 (sh Ts 28 276 w os).abs (topStub pw) = some (sh T_23 198 2504 w os).abs := by
  have e : 14962 = 12 + (2 + (867 + (1028 + (12808 + (242 + 3))))) := by decide
  rw [e]
  refine go_top (pre w os) ?_
  refine piece_block (segRun_of (blk w os)) ?_
  rw [show restOf (behindTheImports pw) bEnv bCode p0 [topFrame p0] = restOf ([stm 1, stm 2, stm 3, stm 4, stm 5, stm 6, stm 7, stm 8, stm 9, stm 10, stm 11] ++ ([stm 12, stm 13] ++ (stm 14 :: ([stm 15, stm 16, stm 17, stm 18, stm 19, stm 20, stm 21, stm 22, stm 23] ++ [])))) bEnv bCode p0 [topFrame p0] from congrArg (fun b => restOf b bEnv bCode p0 [topFrame p0]) body_eq]
  refine piece_app (segRun_of (g1 w os)) ?_
  refine piece_app (segRun_of (g2 w os)) ?_
  unfold restOf
  rw [execs_cons_wrap]
  refine b3_run ?_
  refine piece_app (segRun_of (g3 w os)) ?_
  refine piece_nil ?_
  exact fin w os
end Mine
end
section
open PySem PySem.W PyProof.Rows
namespace Mine
noncomputable abbrev qImpEnds := @PySem.W.Fast.tw10274390034422433532
theorem qImpEnds_eq : @importEnds = @qImpEnds := PySem.W.Fast.te10274390034422433532
noncomputable abbrev qStart := @PySem.W.Fast.tw1435165496053646825
theorem qStart_eq : @start = @qStart := PySem.W.Fast.te1435165496053646825
noncomputable abbrev qFence := @PySem.W.Fast.tw14289696077712309145
theorem qFence_eq : @fenceModules? = @qFence := PySem.W.Fast.te14289696077712309145
theorem opQ (w : World) : ((qImpEnds qTab (opening pw) w 20000 (qStart (opening pw)).1 (qStart (opening pw)).2).bind (qFence pw)).map (fun s => (s.heap, s.gens, s.drawn, s.toks)) = some (absHeap (Ts w.params) 28 {}, #[], {}, 276) := by kernel_rfl
theorem op (w : World) : (fencedOpening treeTable pw w 20000).map (fun s => (s.heap, s.gens, s.drawn, s.toks)) = some (absHeap (Ts w.params) 28 {}, #[], {}, 276) := by
  unfold fencedOpening
  rw [qImpEnds_eq, qTab_eq, qStart_eq, qFence_eq]
  exact opQ w
end Mine
end
section
open PySem PySem.W PyProof.Rows
namespace Mine
/-- what the walk knows of the top's own objects -/
noncomputable def K (P : Params) : Frag := (nat_lit 2, o2_2 P) :: (nat_lit 3, o3_23 P) :: (nat_lit 6, o6s P) :: (nat_lit 11, o11s P) :: (nat_lit 12, o12s P) :: (nat_lit 32, o32_2 P) :: (nat_lit 39, o39_2 P) :: (nat_lit 40, o40_2 P) :: (nat_lit 41, o41_4 P) :: (nat_lit 42, o42_2 P) :: (nat_lit 45, o45_3 P) :: (nat_lit 52, o52_3 P) :: (nat_lit 53, o53_3 P) :: (nat_lit 54, o54_3 P) :: (nat_lit 57, o57_4 P) :: (nat_lit 64, o64_4 P) :: (nat_lit 65, o65_4 P) :: (nat_lit 66, o66_4 P) :: (nat_lit 69, o69_5 P) :: (nat_lit 71, o71_5 P) :: (nat_lit 72, o72_5 P) :: (nat_lit 74, o74_5 P) :: (nat_lit 75, o75_5 P) :: (nat_lit 79, o79_7 P) :: (nat_lit 80, o80_7 P) :: (nat_lit 84, o84_8 P) :: (nat_lit 85, o85_8 P) :: (nat_lit 86, o86_10 P) :: (nat_lit 88, o88_10 P) :: (nat_lit 89, o89_10 P) :: (nat_lit 91, o91_10 P) :: (nat_lit 92, o92_10 P) :: (nat_lit 100, o100_12 P) :: (nat_lit 104, o104_13 P) :: (nat_lit 106, o106_13 P) :: (nat_lit 107, o107_13 P) :: (nat_lit 109, o109_13 P) :: (nat_lit 110, o110_13 P) :: (nat_lit 111, o111_14 P) :: (nat_lit 150, o150_15 P) :: (nat_lit 152, o152_15 P) :: (nat_lit 153, o153_15 P) :: (nat_lit 155, o155_15 P) :: (nat_lit 156, o156_15 P) :: (nat_lit 157, o157_17 P) :: (nat_lit 159, o159_17 P) :: (nat_lit 160, o160_17 P) :: (nat_lit 162, o162_17 P) :: (nat_lit 163, o163_17 P) :: (nat_lit 164, o164_18 P) :: (nat_lit 167, o167_18 P) :: (nat_lit 168, o168_18 P) :: (nat_lit 169, o169_19 P) :: (nat_lit 171, o171_19 P) :: (nat_lit 172, o172_19 P) :: (nat_lit 174, o174_19 P) :: (nat_lit 175, o175_19 P) :: (nat_lit 176, o176_20 P) :: (nat_lit 179, o179_20 P) :: (nat_lit 180, o180_20 P) :: (nat_lit 181, o181_21 P) :: (nat_lit 183, o183_21 P) :: (nat_lit 184, o184_21 P) :: (nat_lit 186, o186_21 P) :: (nat_lit 187, o187_21 P) :: (nat_lit 188, o188_22 P) :: (nat_lit 191, o191_22 P) :: (nat_lit 192, o192_22 P) :: (nat_lit 193, o193_23 P) :: (nat_lit 196, o196_23 P) :: (nat_lit 197, o197_23 P) :: []
noncomputable abbrev Kas : List Addr := 2 :: 3 :: 6 :: 11 :: 12 :: 32 :: 39 :: 40 :: 41 :: 42 :: 45 :: 52 :: 53 :: 54 :: 57 :: 64 :: 65 :: 66 :: 69 :: 71 :: 72 :: 74 :: 75 :: 79 :: 80 :: 84 :: 85 :: 86 :: 88 :: 89 :: 91 :: 92 :: 100 :: 104 :: 106 :: 107 :: 109 :: 110 :: 111 :: 150 :: 152 :: 153 :: 155 :: 156 :: 157 :: 159 :: 160 :: 162 :: 163 :: 164 :: 167 :: 168 :: 169 :: 171 :: 172 :: 174 :: 175 :: 176 :: 179 :: 180 :: 181 :: 183 :: 184 :: 186 :: 187 :: 188 :: 191 :: 192 :: 193 :: 196 :: 197 :: []
theorem K_as (P : Params) : Kas = (K P).map (·.1) := rfl
noncomputable def qv : Program := { pw with main := { pw.main with body := [stm 0, stm 2, stm 3, stm 4, stm 5, stm 7, stm 8, stm 9, stm 10, stm 12, stm 13, stm 15, stm 17, stm 18, stm 19, stm 20, stm 21, stm 22, stm 23] } }
noncomputable abbrev qLoose : List Str := ["_twin_re_1", "_twin_re_2", "b1_set", "b3_exceptions"]
noncomputable abbrev Kh : Hook := kHook K Kas K_as
noncomputable abbrev mods : List Str := importedModules pw.main.body
noncomputable abbrev H0 (P : Params) : Heap := absHeap (Ts P) 28 {}
noncomputable abbrev H1 (P : Params) : Heap := absHeap (T_23 P) 198 {}
noncomputable abbrev qXt (s : Shared) : Bool := xlAt qv [] s && recOk [] s
theorem sizeK (w : World) : ((H0 w.params).isNs mainGlobals && (#[] : Array GenState).size == 0, (H0 w.params).objs.size, (H0 w.params).nsMap mainGlobals "__annotations__") = (true, 28, some (.ref 6)) := by kernel_rfl
theorem lookA (w : World) (os : OsState) : (staticsOk mods (H0 w.params) (H1 w.params) && namesBound pw (H1 w.params) && gensDone ⟨H1 w.params, #[], {}, 2504, os⟩ && laidKept (H0 w.params) (H1 w.params)) = true := by kernel_rfl
theorem lookC (w : World) (os : OsState) : Kh.obs ⟨H1 w.params, #[], {}, 2504, os⟩ = Kh.val w := by kernel_rfl
end Mine
end
section
open PySem PySem.W PyProof.Rows
namespace Mine
noncomputable abbrev qSeen := @PySem.W.Fast.tw4187177175401517315
theorem qSeen_eq : @openSeen = @qSeen := PySem.W.Fast.te4187177175401517315
theorem lookBQ (w : World) (os : OsState) : qSeen qv qLoose mods qXt true ⟨H1 w.params, #[], {}, 2504, os⟩ = openGood qv qLoose := by kernel_rfl
theorem lookB (w : World) (os : OsState) : openSeen qv qLoose mods qXt true ⟨H1 w.params, #[], {}, 2504, os⟩ = openGood qv qLoose := by
  rw [qSeen_eq]
  exact lookBQ w os
theorem left : LeftO pw qv qLoose qXt Kh.obs Kh.val 20000 := by
  refine LeftO.of_pieces (H₀ := H0) (H₁ := H1) (gs₀ := #[]) (gs₁ := #[]) (d₀ := {}) (d₁ := {}) (k₀ := 276) (k₁ := 2504) (m₀ := 28) (ann := some (.ref 6)) (M := 14962) op sizeK (fun w os => top_run w os) rfl (fun w => ?_)
  funext os
  exact Prod.ext (lookA w os) (Prod.ext (lookB w os) (lookC w os))
end Mine
end
section
open PySem PySem.W PySem.Calls PyProof.Rows
namespace Mine
/-! specs of the text's defs -/
noncomputable abbrev Lv (n : Nat) (outer : List Env) : Around := { handled := none, depth := 900 + 10 * n, frames := some outer, guards := some [], units := 1000 + 100 * n }
noncomputable abbrev MM (w : World) : Model := model PySem.Challenge.rw_tr0051_01.row.prog w
noncomputable abbrev TopK (mean : ExcName → Option Value) (mg mb : Str → Option Value) (h : Heap) : Prop := Top qv (looseW qv qLoose) mean mg mb h
noncomputable def Spec (w : World) (mean : ExcName → Option Value) (mg mb : Str → Option Value) (n : Nat) (f : Addr) (vs : List Value) (Pre : Heap → Prop) (Post : Heap → Value → Heap → Prop) : Prop :=
  ∀ (base : Heap) (outer : List Env) (s : Shared) (Q E : Value → Shared → Prop), Below (Lv n outer) base outer s.heap → (K w.params).In s.heap → TopK mean mg mb s.heap → Pre s.heap →
    (∀ v h' tk', s.heap.StaysIn h' → Post s.heap v h' → Q v { s with heap := h', toks := tk' }) → wpAny (MM w) (Lv n outer) (call (.ref f) vs) Q E s
theorem weaken {α : Type} {M : Model} {A A' : Around} {t : Sem α} {Q : α → Shared → Prop} {E : Value → Shared → Prop} {s : Shared} (h : wpAny M A t Q E s) (h1 : A'.handled = A.handled) (h2 : A'.depth ≤ A.depth) (h3 : A'.frames = A.frames)
    (h4 : A'.guards = A.guards) (h5 : A'.units ≤ A.units) : wpAny M A' t Q E s := fun Γ p hΓ =>
  h Γ p ⟨hΓ.1.trans h1, Nat.le_trans hΓ.2.1 h2, fun l hl => hΓ.2.2.1 l (h3.trans hl), fun g hg => hΓ.2.2.2.1 g (h4.trans hg), Nat.le_trans hΓ.2.2.2.2 h5⟩
theorem fr_stays {h₀ h h' : Heap} {L : Addr} {m : Str → Option Value} (F : Fr h₀ L h m) (k : h.StaysIn h') : Fr h₀ L h' m := by
  obtain ⟨oL, es, ep, hL, r⟩ := F.ns
  exact ⟨⟨oL, es, ep, k _ _ hL, r⟩, fun b o e => k b o (F.keep b o e), F.above⟩
theorem news_stays {h₀ h h' : Heap} {L : Addr} {news : List (Addr × Obj)} (N : News h₀ L h news) (k : h.StaysIn h') : News h₀ L h' news := fun p hp => ⟨k _ _ (N p hp).1, (N p hp).2⟩
section
variable {w : World} {mean : ExcName → Option Value} {mg mb : Str → Option Value}
theorem Spec.use {n : Nat} {f : Addr} {vs : List Value} {Pre : Heap → Prop} {Post : Heap → Value → Heap → Prop} (S : Spec w mean mg mb n f vs Pre Post)
    {A A₀ : Around} {base h₀ : Heap} {outer : List Env} {env : Env} {L : Addr} {m : Str → Option Value} {news : List (Addr × Obj)} {s : Shared} {Q E : Value → Shared → Prop}
    (B : Below A₀ base outer h₀) (F : Fr h₀ L s.heap m) (N : News h₀ L s.heap news) (X : (K w.params).In h₀) (T : TopK mean mg mb h₀) (hf : env.frame = some L) (hk : env.scope.kind = .function)
    (pre : Pre s.heap) (h1 : A.handled = none) (h2 : A.depth ≤ 900 + 10 * n) (h3 : A.frames = some (env :: outer)) (h4 : A.guards = some []) (h5 : A.units ≤ 1000 + 100 * n)
    (h : ∀ v h' tk', Fr h₀ L h' m → News h₀ L h' news → s.heap.StaysIn h' → Post s.heap v h' → Q v { s with heap := h', toks := tk' }) : wpAny (MM w) A (call (.ref f) vs) Q E s := by
  have B1 := pushX B F hf hk
  refine weaken (S base (env :: outer) s Q E ⟨rfl, B1.stays, B1.frames⟩ (X.keeps F.keep) (T.keeps F.keep) pre fun v h' tk' st po => ?_) h1 h2 h3 h4 h5
  exact h v h' tk' (fr_stays F st) (news_stays N st) st po
theorem enter {A : Around} {s : Shared} {R : Result → Shared → Prop} {name qual : Str} {params : Arguments} {body : List Stmt} {scope : Scope} {dV kV doc pm cdv ct oc : Value} {an od : Option Addr} {osl : Array (Option Value)} {f : Addr} {args : Args} {binds : List (Str × Value)}
    (X : (K w.params).In s.heap) (T : TopK mean mg mb s.heap) (ho : (K w.params).lookup f = some ⟨oc, od, .func (fnOf name qual params body scope dV kV doc pm an cdv ct), osl⟩) (hcd : codeIn (K w.params) cdv qual = true) (hroom : A.depth < recursionLimit)
    (hbind : BindsTo s (fnOf name qual params body scope dV kV doc pm an cdv ct) args binds) (hloc : ∀ y ∈ binds, scope.names.lookup y.1 = some .local)
    (h : ∀ h₁, Fr s.heap s.heap.objs.size h₁ (fun y => binds.reverse.lookup y) → News s.heap s.heap.objs.size h₁ [] →
      wpAny (MM w) (A.deeper (envOf qual scope s.heap.objs.size f cdv)) (execs body (envOf qual scope s.heap.objs.size f cdv))
        (fun fl s' => R (.ok (.ret (match fl with | .ret v => v | _ => .none))) s')
        (fun e s' => wpAny (MM w) (A.deeper (envOf qual scope s.heap.objs.size f cdv)) (leaving (envOf qual scope s.heap.objs.size f cdv) e) (fun _ s'' => R (.error e) s'') (fun e' s'' => R (.error e') s'') s')
        { s with heap := h₁, toks := s.toks + binds.length })
    (hco : scope.isCoroutine = false) (hgen : scope.isGenerator = false) (hk : scope.kind = .function) (hcell : ∀ x ∈ scope.names, x.2 ≠ .cell) :
    codeAny (MM w) A (.call (.ref f) args) R s :=
  codeAny_call_def (fd := fnOf name qual params body scope dV kV doc pm an cdv ct) (body := body) (binds := binds) hroom (X _ _ ho) rfl T.nolimit (codeRec_of X hcd) rfl hbind hcell hloc
    (fun h₁ hns hk₁ => h h₁ ⟨hns, hk₁, Nat.le_refl _⟩ News.nil) hco hgen hk
end
local macro_rules | `(tactic| k_room) => `(tactic| exact Nat.le_of_ble_eq_true rfl)
theorem fill_now : (K = K ∧ PySem.Challenge.rw_tr0051_01 = PySem.Challenge.rw_tr0051_01) → True := by
  k_fill
  intro _
  trivial
end Mine
end
section
open PySem PySem.W PySem.Calls PyProof.Rows
namespace Mine
local macro_rules | `(tactic| k_room) => `(tactic| exact Nat.le_of_ble_eq_true rfl)
theorem fill_leaf : (K = K ∧ PySem.Challenge.rw_tr0051_01 = PySem.Challenge.rw_tr0051_01) → True := by
  k_fill
  intro _
  trivial
/-! the signs that table B.1 holds -/
noncomputable def b1L : List Nat := [173, 847, 6150, 6155, 6156, 6157, 8203, 8204, 8205, 8288, 65279, 65024, 65025, 65026, 65027, 65028, 65029, 65030, 65031, 65032, 65033, 65034, 65035, 65036, 65037, 65038, 65039]
noncomputable def inB1 (k : Int) : Bool := b1L.any fun c => (c : Int) == k
section
variable {w : World} {mean : ExcName → Option Value} {mg mb : Str → Option Value}
noncomputable def b1Es (P : Params) : List (Int × Value) := match (o100_12 P).data with | .set es _ _ => es.toList | _ => []
theorem K_lookup (P : Params) : (K P).lookup 100 = some (o100_12 P) := rfl
theorem b1_len (P : Params) : (b1Es P).length = 27 := by kernel_rfl
noncomputable def b1Ok (e : Int × Value) : Bool := match e.2 with | .int k _ => e.1 == hashInt k && inB1 k | _ => false
theorem b1_ok (P : Params) : (b1Es P).all b1Ok = true := by kernel_rfl
theorem b1_all (P : Params) : b1L.all (fun c => (b1Es P).any fun e => Value.isInt (c : Int) e.2) = true := by kernel_rfl
theorem b1Ok_spec {e : Int × Value} (h : b1Ok e = true) : ∃ k t, e.2 = .int k t ∧ e.1 = hashInt k ∧ inB1 k = true := by
  obtain ⟨a, v⟩ := e
  cases v with
  | int k t =>
    obtain ⟨h1, h2⟩ := Bool.and_eq_true_iff.mp h
    exact ⟨k, t, rfl, by simpa using h1, h2⟩
  | _ => exact absurd h (by simp [b1Ok])
theorem set_b1 {prog : Program} {h : Heap} (X : (K w.params).In h) : h.SetOf (intKind prog w) 100 inB1 27 := by
  refine ⟨o100_12 w.params, (b1Es w.params).toArray, _, _, X _ _ (K_lookup _), ⟨rfl, rfl, rfl⟩, rfl, ?_, ?_, by rw [List.size_toArray, b1_len]; decide, by kernel_rfl, by kernel_rfl⟩
  · intro e he
    obtain ⟨k, t, e1, e2, _⟩ := b1Ok_spec (List.all_eq_true.mp (b1_ok w.params) e (by simpa using he))
    rw [e1]
    exact ⟨⟨k, by show (k == k) = true; simp, e2⟩, rfl⟩
  · intro k
    constructor
    · intro hk
      obtain ⟨c, hc, q⟩ := List.any_eq_true.mp hk
      have hq : (c : Int) = k := by simpa using q
      subst hq
      obtain ⟨e, he, q'⟩ := List.any_eq_true.mp (List.all_eq_true.mp (b1_all w.params) c hc)
      exact ⟨e, by simpa using he, q'⟩
    · rintro ⟨e, he, q⟩
      obtain ⟨k', t, e1, _, e3⟩ := b1Ok_spec (List.all_eq_true.mp (b1_ok w.params) e (by simpa using he))
      rw [e1] at q
      have : k' = k := by simpa [intKind, Value.isInt] using q
      exact this ▸ e3
/-! b3_exceptions -/
noncomputable def b3Get (k : Int) : Option Value := findBy Value.isInt b3Entries.toArray k
theorem b3_len : b3Entries.length = 650 := by kernel_rfl
theorem b3_hash : b3Entries.all (fun e => match e.key with | .int k _ => e.hash == hashInt k | _ => false) = true := by kernel_rfl
theorem map_b3 {prog : Program} {h : Heap} (X : (K w.params).In h) : h.MapOf (intKind prog w) 111 b3Get := by
  refine ⟨b3Dict 650, b3Entries.toArray, 650, X _ _ rfl, ⟨rfl, rfl, rfl⟩, ?_, ?_, fun _ => rfl⟩
  · show Data.dict (b3Entries.take 650).toArray 650 = _
    rw [List.take_of_length_le (Nat.le_of_eq b3_len)]
  · intro e he
    have := List.all_eq_true.mp b3_hash e (by simpa using he)
    cases hk : e.key with
    | int k t =>
      rw [hk] at this
      exact ⟨k, by show (k == k) = true; simp, by simp only [beq_iff_eq] at this; exact this⟩
    | _ => rw [hk] at this; cases this
theorem get_b3 {A : Around} {s : Shared} {Q E : Value → Shared → Prop} {k : Int} {t : Tok} (X : (K w.params).In s.heap) (h : Q ((b3Get k).getD .none) { s with toks := s.toks + 1 }) :
    wpAny (MM w) A (call (.builtin "dict.get") [.ref 111, .int k t]) Q E s :=
  call_meetsIn PySem.F.slot_dict_get (map_b3 (prog := PySem.Challenge.rw_tr0051_01.row.prog) X).typeIs PySem.F.entry_dict_get (PySem.F.args_dict_get_2 _ _) (meets_dict_get (intKind _ w) 111 (k := k) (by show (k == k) = true; simp) (by decide)) ⟨_, map_b3 X, h⟩
end
end Mine
end
section
open PySem PySem.W PySem.Calls PyProof.Rows
namespace Mine
local macro_rules | `(tactic| k_room) => `(tactic| exact Nat.le_of_ble_eq_true rfl)
theorem fill_leaf2 : (K = K ∧ PySem.Challenge.rw_tr0051_01 = PySem.Challenge.rw_tr0051_01) → True := by
  k_fill
  intro _
  trivial
section
variable {w : World} {A : Around} {s : Shared} {E : Value → Shared → Prop}
theorem getm_b3 {pl : Sem Bool} {Q : Value × List Value → Shared → Prop} (X : (K w.params).In s.heap) (h : Q (.builtin "dict.get", [.ref 111]) s) : wpAny (MM w) A (getMethod (.ref 111) "get" pl) Q E s :=
  getMethod_builtin (map_b3 (prog := PySem.Challenge.rw_tr0051_01.row.prog) X).typeIs PySem.F.plainAttrs_dict PySem.F.slot_dict_get (by kernel_rfl) (map_b3 (prog := PySem.Challenge.rw_tr0051_01.row.prog) X).noDict h
theorem get_b3_none {Q : Value → Shared → Prop} {k : Int} {t : Tok} (X : (K w.params).In s.heap) (e : b3Get k = none) (h : Q .none { s with toks := s.toks + 1 }) :
    wpAny (MM w) A (call (.builtin "dict.get") [.ref 111, .int k t]) Q E s := get_b3 X (by rw [e]; exact h)
theorem get_b3_some {Q : Value → Shared → Prop} {k : Int} {t : Tok} {v : Value} (X : (K w.params).In s.heap) (e : b3Get k = some v) (h : Q v { s with toks := s.toks + 1 }) :
    wpAny (MM w) A (call (.builtin "dict.get") [.ref 111, .int k t]) Q E s := get_b3 X (by rw [e]; exact h)
end
local macro_rules | `(tactic| walk_at "getMethod ref") => `(tactic| (refine getm_b3 (by k_in) ?_))
local macro_rules | `(tactic| walk_at "call builtin:dict.get") => `(tactic| first | refine get_b3_none (by k_in) (by assumption) ?_ | refine get_b3_some (by k_in) (by assumption) ?_)
section
variable {w : World} {mean : ExcName → Option Value} {mg mb : Str → Option Value}
set_option maxHeartbeats 4000000 in
theorem in_table_spec (c : Nat) (t : Tok) : Spec w mean mg mb 1 110 [.str ⟨#[c]⟩ t] (fun _ => True) (fun _ v _ => v = .bool (inB1 c)) := by
  have hx1 : (⟨#[c]⟩ : Str).length = 1 := rfl
  intro base outer s Q E B KX T hpre hret
  refine wpAny_call ?_
  refine' enter ?k1 ?k2 ?k6 ?k7 ?k8 ?k9 ?kB ?_ ?c2 ?c3 ?c4 ?c5
  case k1 => exact KX
  case k2 => exact T
  case k6 => k_is
  case k7 => k_is
  case k8 => exact Nat.le_of_ble_eq_true rfl
  case k9 => exact BindsTo.of_eq rfl
  case kB => exact locs rfl
  case c2 => rfl
  case c3 => rfl
  case c4 => rfl
  case c5 => decide
  intro h₁ F N
  dsimp only
  k_fold
  k_steps
  refine wpAny_inSet_of (knd := intKind _ w) (k := (c : Int)) (S := inB1) (n := 27) (by show ((c : Int) == (c : Int)) = true; simp) rfl (set_b1 (KX.keeps F.keep)) ?_
  exact hret _ _ _ F.keep rfl
/-- what map_table_b3 makes of a sign -/
noncomputable def fold1 (c : Nat) : Str := match b3Get (c : Int) with
  | some (.str x _) => x
  | _ => Txt.lower ⟨#[c]⟩
set_option maxHeartbeats 4000000 in
theorem map_table_spec (c : Nat) (t : Tok) (hc : b3Get (c : Int) = none ∨ ∃ x u, b3Get (c : Int) = some (.str x u)) : Spec w mean mg mb 1 156 [.str ⟨#[c]⟩ t] (fun _ => True) (fun _ v _ => ∃ u, v = .str (fold1 c) u) := by
  have hx1 : (⟨#[c]⟩ : Str).length = 1 := rfl
  intro base outer s Q E B KX T hpre hret
  rcases hc with hc | ⟨x, u, hc⟩
  all_goals (have hc' : b3Get (((⟨#[c]⟩ : Str).cps.getD 0 0 : Nat) : Int) = _ := hc)
  all_goals (
  refine wpAny_call ?_
  refine' enter ?k1 ?k2 ?k6 ?k7 ?k8 ?k9 ?kB ?_ ?c2 ?c3 ?c4 ?c5
  case k1 => exact KX
  case k2 => exact T
  case k6 => k_is
  case k7 => k_is
  case k8 => exact Nat.le_of_ble_eq_true rfl
  case k9 => exact BindsTo.of_eq rfl
  case kB => exact locs rfl
  case c2 => rfl
  case c3 => rfl
  case c4 => rfl
  case c5 => decide
  intro h₁ F N
  dsimp only
  k_fold
  k_steps)
  · refine hret _ _ _ (Fr.keep (by assumption)) (Exists.intro ?u ?e)
    case e => rw [fold1, hc]
  · exact hret _ _ _ (Fr.keep (by assumption)) ⟨u, by rw [fold1, hc]⟩
end
end Mine
end
section
open PySem PySem.W PySem.Calls PyProof.Rows
namespace Mine
local macro_rules | `(tactic| k_room) => `(tactic| exact Nat.le_of_ble_eq_true rfl)
theorem fill_unseen : (K = K ∧ PySem.Challenge.rw_tr0051_01 = PySem.Challenge.rw_tr0051_01) → True := by
  k_fill
  intro _
  trivial
/-- the unseen sign that a number picks -/
noncomputable def unL : List Int := 173 :: 847 :: 6150 :: 6155 :: 6156 :: 6157 :: 8203 :: 8204 :: 8205 :: 8288 :: 65279 :: rangeInts 65024 1 16
noncomputable def un (k : Int) : Int := unL.getD (k.fmod 27).toNat 0
theorem unL_range : ∀ c ∈ unL, 0 ≤ c ∧ c ≤ 1114111 := by decide +kernel
theorem un_range (k : Int) : 0 ≤ un k ∧ un k ≤ 1114111 := by
  unfold un
  rw [List.getD_eq_getElem?_getD]
  cases h : unL[(k.fmod 27).toNat]? with
  | none => decide
  | some c => exact unL_range c (List.mem_of_getElem? h)
/-- a triple on the heap -/
noncomputable def tri (a b c : Value) : Obj := { cls := .type "tuple", data := .seq #[a, b, c] }
noncomputable def unTri (k : Int) (u1 u2 u3 : Tok) : Obj := tri (.str (Str.ofString "unseen") u1) (.str ⟨#[(un k).toNat]⟩ u2) (.str (Str.ofString "") u3)
section
variable {w : World} {mean : ExcName → Option Value} {mg mb : Str → Option Value}
set_option maxHeartbeats 4000000 in
theorem unseen_spec (k : Int) (t : Tok) : Spec w mean mg mb 1 163 [.int k t] (fun _ => True) (fun h v h' => ∃ a u1 u2 u3, v = .ref a ∧ h'.get? a = some (unTri k u1 u2 u3) ∧ h.get? a = none) := by
  intro base outer s Q E B KX T hpre hret
  refine wpAny_call ?_
  refine' enter ?k1 ?k2 ?k6 ?k7 ?k8 ?k9 ?kB ?_ ?c2 ?c3 ?c4 ?c5
  case k1 => exact KX
  case k2 => exact T
  case k6 => k_is
  case k7 => k_is
  case k8 => exact Nat.le_of_ble_eq_true rfl
  case k9 => exact BindsTo.of_eq rfl
  case kB => exact locs rfl
  case c2 => rfl
  case c3 => rfl
  case c4 => rfl
  case c5 => decide
  intro h₁ F N
  dsimp only
  k_fold
  k_steps
  have hj := CarriedAll.intsOf (f := fun i : Int => i) (as := rangeInts 65024 1 ((65040 : Int) - 65024).toNat) (by assumption)
  refine add_arrays_ints (by assumption) (by assumption) ⟨_, ((by assumption : News _ _ _ ((_, W.listOf _ 0) :: [])) _ (.head _)).1, rfl, _, rfl⟩ (by assumption) (by repeat constructor) (by simpa using hj) (fun h' F' N' hI => ?_)
  k_steps
  refine chr_of_range (un_range k).1 (un_range k).2 ?_
  k_steps
  have hn := (by assumption : News _ _ _ (_ :: _ :: _ :: [])) _ (.head _)
  exact hret _ _ _ (Fr.keep (by assumption)) ⟨_, _, _, _, rfl, hn.1, hn.2.2⟩
theorem unseen_use {A A₀ : Around} {base h₀ : Heap} {outer : List Env} {env : Env} {L : Addr} {m : Str → Option Value} {news : List (Addr × Obj)} {s : Shared} {Q E : Value → Shared → Prop} {k : Int} {t : Tok}
    (B : Below A₀ base outer h₀) (F : Fr h₀ L s.heap m) (N : News h₀ L s.heap news) (X : (K w.params).In h₀) (T : TopK mean mg mb h₀) (hf : env.frame = some L) (hk : env.scope.kind = .function)
    (h1 : A.handled = none) (h2 : A.depth ≤ 900 + 10 * 1) (h3 : A.frames = some (env :: outer)) (h4 : A.guards = some []) (h5 : A.units ≤ 1000 + 100 * 1)
    (h : ∀ a u1 u2 u3 h' tk', Fr h₀ L h' m → News h₀ L h' ((a, unTri k u1 u2 u3) :: news) → Q (.ref a) { s with heap := h', toks := tk' }) : wpAny (MM w) A (call (.ref 163) [.int k t]) Q E s := by
  refine (unseen_spec k t).use B F N X T hf hk trivial h1 h2 h3 h4 h5 ?_
  rintro v h' tk' F' N' st ⟨a, u1, u2, u3, rfl, ha, hn⟩
  refine h a u1 u2 u3 h' tk' F' fun p hp => ?_
  rcases List.mem_cons.mp hp with rfl | hp
  · refine ⟨ha, fun e => ?_, ?_⟩
    · obtain ⟨oL, _, _, hL, _⟩ := F.ns
      have e' : a = L := e
      rw [e', hL] at hn; cases hn
    · cases q : h₀.get? a with
      | none => rfl
      | some o => rw [F.keep a o q] at hn; cases hn
  · exact N' p hp
end
end Mine
end
section
open PySem PySem.W PySem.Calls PyProof.Rows
namespace Mine
/-- a stop for the walk -/
structure Hold (p : Prop) : Prop where
  it : p
structure Done (p : Prop) : Prop where
  it : p
section
variable {prog : Program} {w : World} {A : Around} {E : Value → Shared → Prop} {s : Shared} {h₀ : Heap} {L : Addr} {m : Str → Option Value} {env : Env}
theorem striter_st {cls : String} {I : Addr} {y : Str} {t : Tok} : ∀ i (h h' : Heap) (o : Obj) (nw : List (Addr × Obj)), h.IsStrIter I cls y t i → h.get? I = some o → h'.get? I = some o → (∀ b o, h₀.get? b = some o → h'.get? b = some o) → News h₀ L h' nw → True → h'.IsStrIter I cls y t i :=
  fun i h h' o nw st e e' _ _ _ => by obtain ⟨o', q, r⟩ := st; rw [e] at q; cases q; exact ⟨o, e', r⟩
/-- a comprehension over a text, its elements on the ledger -/
theorem ListComp_T {elt iter : Expr} {x : Str} {px : Pos} {scope : Scope} {cl : List (Str × Addr)} {pos : Pos} {Q : Value → Shared → Prop}
    (hclos : closureFor scope env = pure cl) (hcell : ∀ y ∈ scope.names, y.2 ≠ .cell) (hkind : scope.kind = .function)
    (hnames : ∀ y ∈ scope.names, y.2 = .local → scope.names.lookup y.1 = some .local) (hx : scope.names.lookup x = some .local)
    (h : wpAny (model prog w) A (eval iter env) (fun xv s₁ => Done (∃ y t news, xv = .str y t ∧ A.handled = none ∧ Fr h₀ L s₁.heap m ∧ News h₀ L s₁.heap news ∧ y.cps.size ≤ sizeLine ∧
      ∀ s₂ : Shared, (∃ h, s₂ = { s₁ with heap := h }) → LCg.CompRest prog w A h₀ L m env elt x scope cl s₂ (fun _ => True) (SignAt y) (LCg.FinE h₀ L m s₂ Q) y.cps.size 0 [] news)) E s)
    (hs : ∀ x, foldedSetIterable iter env x = pure x := by intro _; rfl) :
    wpAny (model prog w) A (eval (.ListComp elt [⟨.Name x px, iter, [], 0⟩] scope pos) env) Q E s := by
  rw [eval_ListComp]
  refine wpAny_comprehension_free (use := none) rfl hs hclos hkind hnames (wpAny_mono h (fun xv s₁ h₁ => ?_) fun _ _ e => e)
  obtain ⟨⟨y, t, news, rfl, hh, F, N, hsz, R⟩⟩ := h₁
  have fin : ∀ (o : Obj) (D C : Addr) (h : Heap) (tk : Nat) (m' : Str → Option Value) (ys : List Value) (news' : List (Addr × Obj)), Fr h₀ L h m → News h₀ L h ((D, LCg.lst ys) :: news') → LCg.Off1 D news' → h.Ns C m' → h₀.get? C = none → h₀.get? D = none → C ≠ L → D ≠ L → C ≠ D → (∀ p ∈ news', p.1 ≠ C) →
      LCg.FinE h₀ L m { s₁ with heap := s₁.heap.push o } Q ys news' → compPost (model prog w) A E none Q (.ref D) C (.ok .next) { s₁ with heap := h, toks := tk } := by
    intro o D C h tk m' ys news' F' N' o1 hn hC₀ hD₀ hCL hDL hCD offC fin
    refine ⟨m', hn, fun h'' hs'' => fin D h'' tk (F'.change hs'' hCL hC₀) (fun p hp => ?_) o1⟩
    refine ⟨hs''.extBut _ _ ?_ (N' p hp).1, (N' p hp).2⟩
    rcases List.mem_cons.mp hp with rfl | hp
    · exact Ne.symm hCD
    · exact offC p hp
  have low : ∀ (o : Obj), ∀ b ∈ [s₁.heap.objs.size], b < (s₁.heap.push o).objs.size := fun o b hb => by
    rw [List.mem_singleton.mp hb, Heap.size_push]; exact Nat.lt_succ_self _
  cases ha : y.cps.all (· < 128)
  · refine wpAny_pyIter_wide ha ?_
    exact LCg.block_U (Walks.strWide hh s₁.heap.objs.size y t) hsz (fun i h st => by obtain ⟨o, e, _⟩ := st; exact ⟨o, e⟩) striter_st hcell hkind hx ⟨_, Heap.get?_push_size _ rfl, rfl, rfl⟩ (low _)
      (F.keeps fun _ _ e => Heap.get?_push_of_some _ e) (N.grown fun _ _ e => Heap.get?_push_of_some _ e) (Nat.ne_of_lt F.ns.lt) (next_is_new F) (fun p hp => Nat.ne_of_lt (Heap.lt_size (N p hp).1)) trivial (R _ ⟨_, rfl⟩) (fin _)
  · refine wpAny_pyIter_ascii ha ?_
    exact LCg.block_U (Walks.strAscii hh s₁.heap.objs.size y t) hsz (fun i h st => by obtain ⟨o, e, _⟩ := st; exact ⟨o, e⟩) striter_st hcell hkind hx ⟨_, Heap.get?_push_size _ rfl, rfl, rfl⟩ (low _)
      (F.keeps fun _ _ e => Heap.get?_push_of_some _ e) (N.grown fun _ _ e => Heap.get?_push_of_some _ e) (Nat.ne_of_lt F.ns.lt) (next_is_new F) (fun p hp => Nat.ne_of_lt (Heap.lt_size (N p hp).1)) trivial (R _ ⟨_, rfl⟩) (fin _)
end
end Mine
end
section
namespace Mine
open PySem PySem.Sre
noncomputable abbrev reDot : Array Nat := #[14, 4, 0, 1, 1, 6, 1, 16, 46, 1]
/-- the machine as it stands at a start of the dot pattern -/
noncomputable def dotAt (t : Array Nat) (must : Bool) (s : Nat) (first : Bool) (seen : Seen) : M :=
  { code := reDot, text := t, lim := t.size, start := s, lastStart := t.size, mustAdvance := must, pc := 5, pos := s, handed := s, outermost := first, marks := #[],
    frames := [{ wait := .nextStart, pc := 5, pos := s, outermost := first }], weight := 1, seen := seen }
theorem dot_search (t : Array Nat) (s : Nat) (must : Bool) (h : s < t.size) : ∃ seen, forSearch reDot t 0 s t.size must = dotAt t must s true seen := by
  refine ⟨({} : Seen).add 14, ?_⟩
  unfold forSearch
  show (if (decide (s > t.size) || decide (t.size - s < 1)) = true then _ else _) = _
  rw [if_neg (by simp; omega)]
  rfl
theorem dot_none (t : Array Nat) (s : Nat) (must : Bool) (h : t.size ≤ s) : ∃ n, n ≤ 4 ∧ (M.runFor n (forSearch reDot t 0 s t.size must)).outcome = some .failed := by
  refine ⟨1, by decide, ?_⟩
  unfold forSearch
  show (M.runFor 1 (if (decide (s > t.size) || decide (t.size - s < 1)) = true then _ else _)).outcome = _
  rw [if_pos (by simp; omega)]
  rfl
noncomputable def isHit (t : Array Nat) (s : Nat) : Bool := (s == 0 || t.getD (s - 1) 0 == 10) && decide (s < t.size) && t.getD s 0 == 46
theorem runFor_done (b : Nat) (m : M) (h : m.outcome.isSome = true) : M.runFor b m = m := by
  cases b with
  | zero => rfl
  | succ b => rw [M.runFor, if_pos h]
theorem runFor_succ (n : Nat) (m : M) : M.runFor (n + 1) m = if m.outcome.isSome then m else M.runFor n m.step := rfl
theorem runFor_add (a b : Nat) (m : M) : M.runFor (a + b) m = M.runFor b (M.runFor a m) := by
  induction a generalizing m with
  | zero => rw [Nat.zero_add]; rfl
  | succ a ih =>
    rw [show a + 1 + b = a + b + 1 by omega, runFor_succ, runFor_succ]
    by_cases h : m.outcome.isSome = true
    · rw [if_pos h, if_pos h, runFor_done b m h]
    · rw [if_neg h, if_neg h]; exact ih m.step
theorem exec_lit (m : M) (c : Nat) (hop : ops[m.word 0]? = some .LITERAL) (hc : m.word 1 = c) : m.exec = if m.pos ≥ m.lim then { m with seen := m.seen.add (m.word 0), answer := some false }
    else if m.text.getD m.pos 0 == c then { m with seen := m.seen.add (m.word 0), pc := m.pc + 2, pos := m.pos + 1 } else { m with seen := m.seen.add (m.word 0), answer := some false } := by
  have hop' : ops[m.code.getD m.pc 0]? = some .LITERAL := hop
  have a : accepts m.code m.pc (m.text.getD m.pos 0) (m.seen.add (m.word 0)) = .ok (m.text.getD m.pos 0 == c, m.seen.add (m.word 0)) := by
    unfold accepts
    dsimp only
    rw [hop']
    dsimp only
    rw [show m.code.getD (m.pc + 1) 0 = c from hc]
  have w : itemWidth m.code m.pc = 2 := by unfold itemWidth; rw [hop']
  unfold M.exec
  rw [hop]
  dsimp only
  rw [a, w]
  by_cases h1 : m.pos ≥ m.lim
  · rw [if_pos h1, if_pos h1]; rfl
  · rw [if_neg h1, if_neg h1]
    cases h2 : (m.text.getD m.pos 0 == c) <;> rfl
theorem exec_at1 (m : M) (hop : ops[m.word 0]? = some .AT) (hc : m.word 1 = 1) : m.exec = if (m.pos == 0 || m.text.getD (m.pos - 1) 0 == 10) then { m with seen := (m.seen.add (m.word 0)).add 44, pc := m.pc + 2 }
    else { m with seen := (m.seen.add (m.word 0)).add 44, answer := some false } := by
  unfold M.exec
  rw [hop]
  dsimp only
  have hc' : M.word { m with seen := m.seen.add (m.word 0) } 1 = 1 := hc
  have q : M.isAt { m with seen := m.seen.add (m.word 0) } (M.word { m with seen := m.seen.add (m.word 0) } 1) = .ok (m.pos == 0 || m.text.getD (m.pos - 1) 0 == 10) := by rw [hc']; rfl
  rw [q]
  dsimp only
  rw [hc']
  rfl
theorem exec_success (m : M) (hop : ops[m.word 0]? = some .SUCCESS) (hw : m.wholeText = false) : m.exec = if (m.outermost && (m.mustAdvance && m.pos == m.start)) then { m with seen := m.seen.add (m.word 0), answer := some false }
    else { m with seen := m.seen.add (m.word 0), handed := m.pos, answer := some true } := by
  unfold M.exec
  rw [hop]
  dsimp only
  rw [hw, Bool.false_and, Bool.false_or]
  rfl
theorem step_live (m : M) (h : m.outcome = none) (ha : m.answer = none) (hp : m.pc < m.code.size) : m.step = m.exec := by
  unfold M.step
  rw [h, ha]
  simp only [Option.isSome_none, Bool.false_eq_true, if_false]
  cases m.frames <;> simp [hp]
/-- the machine on the dot pattern -/
noncomputable def D (t : Array Nat) (must : Bool) (start pc pos handed : Nat) (first : Bool) (fr : List Sre.Frame) (wt : Nat) (an : Option Bool) (seen : Seen) : M :=
  { code := reDot, text := t, lim := t.size, start := start, lastStart := t.size, mustAdvance := must, pc := pc, pos := pos, handed := handed, outermost := first, marks := #[],
    frames := fr, weight := wt, answer := an, seen := seen }
noncomputable abbrev sf (s : Nat) (first : Bool) : Sre.Frame := { wait := .nextStart, pc := 5, pos := s, outermost := first }
section
variable {t : Array Nat} {must first : Bool} {start pos handed : Nat} {fr : List Sre.Frame} {wt : Nat} {seen : Seen}
theorem D5 : (D t must start 5 pos handed first fr wt none seen).step = if (pos == 0 || t.getD (pos - 1) 0 == 10) then D t must start 7 pos handed first fr wt none ((seen.add 6).add 44) else D t must start 5 pos handed first fr wt (some false) ((seen.add 6).add 44) := by
  rw [step_live _ rfl rfl (by show 5 < 10; decide), exec_at1 _ rfl rfl]; rfl
theorem D7 : (D t must start 7 pos handed first fr wt none seen).step = if pos ≥ t.size then D t must start 7 pos handed first fr wt (some false) (seen.add 16) else if t.getD pos 0 == 46 then D t must start 9 (pos + 1) handed first fr wt none (seen.add 16) else D t must start 7 pos handed first fr wt (some false) (seen.add 16) := by
  rw [step_live _ rfl rfl (by show 7 < 10; decide), exec_lit _ 46 rfl rfl]; rfl
theorem D9 (h : pos ≠ start) : (D t must start 9 pos handed first fr wt none seen).step = D t must start 9 pos pos first fr wt (some true) (seen.add 1) := by
  rw [step_live _ rfl rfl (by show 9 < 10; decide), exec_success _ rfl rfl, if_neg]; rfl
  show ¬ (first && (must && pos == start)) = true
  simp [h]
end
section
variable {t : Array Nat} {must first f : Bool} {start pc pos handed s : Nat} {fr : List Sre.Frame} {wt : Nat} {seen : Seen}
theorem D_yes : (D t must start pc pos handed first [sf s f] 1 (some true) seen).step = D t must start 5 s handed f [] 0 (some true) seen := rfl
theorem D_end (b : Bool) : (D t must start pc pos handed first [] wt (some b) seen).step = { D t must start pc pos handed first [] wt (some b) seen with outcome := some (if b then .matched else .failed) } := rfl
noncomputable def LL (t : Array Nat) (must first f : Bool) (start pc pos handed s : Nat) (seen : Seen) : M := ({ (D t must start pc pos handed first [] 0 none seen) with pc := 5, pos := s, outermost := f, mustAdvance := false } : M).attemptFrom (s + 1) false
theorem attemptFrom_dot (m : M) (hc : m.code = reDot) {s : Nat} {first : Bool} : m.attemptFrom s first = m.attemptAt s first := by
  unfold M.attemptFrom
  rw [if_pos (by unfold M.hasFirstSet; rw [hc]; rfl)]
theorem LL_eq : LL t must first f start pc pos handed s seen = D t false (s + 1) 5 (s + 1) (s + 1) false [sf (s + 1) false] 1 none seen := by
  unfold LL
  rw [attemptFrom_dot _ rfl]
  rfl
theorem D_no : (D t must start pc pos handed first [sf s f] 1 (some false) seen).step =
    if s < t.size then D t false (s + 1) 5 (s + 1) (s + 1) false [sf (s + 1) false] 1 none seen else D t must start 5 s handed f [] 0 (some false) seen := by
  rw [← LL_eq (must := must) (first := first) (f := f) (start := start) (pc := pc) (pos := pos) (handed := handed)]
  rfl
theorem D_live (an : Option Bool) : (D t must start pc pos handed first fr wt an seen).outcome.isSome = false := rfl
end
theorem runFor_step {n : Nat} {m m' : M} (h : m.outcome.isSome = false) (e : m.step = m') : M.runFor (n + 1) m = M.runFor n m' := by rw [runFor_succ, if_neg (by rw [h]; exact Bool.false_ne_true), e]
noncomputable def nextHit (t : Array Nat) : Nat → Nat → Option Nat
  | 0, _ => none
  | f + 1, s => if isHit t s then some s else nextHit t f (s + 1)
/-- what a search tells -/
noncomputable def Told (k : Nat) (r : Option Nat) (m : M) : Prop := match r with
  | some s => m.outcome = some .matched ∧ m.start = s ∧ m.handed = s + k
  | none => m.outcome = some .failed
theorem dot_find (t : Array Nat) : ∀ (k s handed : Nat) (must first : Bool) (seen : Seen), s + k = t.size → ∃ n, n ≤ 8 * (k + 1) ∧ Told 1 (nextHit t (k + 1) s) (M.runFor n (D t must s 5 s handed first [sf s first] 1 none seen)) := by
  intro k
  induction k with
  | zero =>
    intro s handed must first seen hs
    have hs' : s = t.size := by omega
    have hn : isHit t s = false := by unfold isHit; rw [decide_eq_false (by omega)]; simp
    rw [nextHit, hn]
    simp only [Bool.false_eq_true, if_false]
    rw [nextHit]
    have no : ∀ (pc : Nat) (sn : Seen), Told 1 none (M.runFor 2 (D t must s pc s handed first [sf s first] 1 (some false) sn)) := fun pc sn => by
      rw [runFor_step (D_live _) D_no, if_neg (by omega), runFor_step (D_live _) (D_end false)]
      rfl
    by_cases h1 : (s == 0 || t.getD (s - 1) 0 == 10) = true
    · refine ⟨4, by omega, ?_⟩
      rw [runFor_step (D_live _) D5, if_pos h1, runFor_step (D_live _) D7, if_pos (by omega)]
      exact no _ _
    · refine ⟨3, by omega, ?_⟩
      rw [runFor_step (D_live _) D5, if_neg h1]
      exact no _ _
  | succ k ih =>
    intro s handed must first seen hs
    rw [nextHit]
    have no : isHit t s = false → ∀ (pc : Nat) (sn : Seen), ∃ n, n ≤ 8 * (k + 1) + 1 ∧ Told 1 (nextHit t (k + 1) (s + 1)) (M.runFor n (D t must s pc s handed first [sf s first] 1 (some false) sn)) := fun _ pc sn => by
      obtain ⟨n, hn, ht⟩ := ih (s + 1) (s + 1) false false sn (by omega)
      refine ⟨n + 1, by omega, ?_⟩
      rw [runFor_step (D_live _) D_no, if_pos (by omega)]
      exact ht
    by_cases h1 : (s == 0 || t.getD (s - 1) 0 == 10) = true
    · by_cases h2 : (t.getD s 0 == 46) = true
      · have hh : isHit t s = true := by unfold isHit; rw [h1, h2, decide_eq_true (by omega)]; rfl
        rw [hh, if_pos rfl]
        refine ⟨5, by omega, ?_⟩
        rw [runFor_step (D_live _) D5, if_pos h1, runFor_step (D_live _) D7, if_neg (by omega), if_pos h2, runFor_step (D_live _) (D9 (by omega)), runFor_step (D_live _) D_yes, runFor_step (D_live _) (D_end true)]
        exact ⟨rfl, rfl, rfl⟩
      · have hh : isHit t s = false := by unfold isHit; rw [Bool.eq_false_iff.mpr h2]; simp
        rw [hh]
        simp only [Bool.false_eq_true, if_false]
        obtain ⟨n, hn, ht⟩ := no hh 7 (((seen.add 6).add 44).add 16)
        refine ⟨n + 2, by omega, ?_⟩
        rw [runFor_step (D_live _) D5, if_pos h1, runFor_step (D_live _) D7, if_neg (by omega), if_neg h2]
        exact ht
    · have hh : isHit t s = false := by unfold isHit; rw [Bool.eq_false_iff.mpr h1]; simp
      rw [hh]
      simp only [Bool.false_eq_true, if_false]
      obtain ⟨n, hn, ht⟩ := no hh 5 ((seen.add 6).add 44)
      refine ⟨n + 1, by omega, ?_⟩
      rw [runFor_step (D_live _) D5, if_neg h1]
      exact ht
/-- a search of the dot pattern -/
theorem dot_told (t : Array Nat) (s : Nat) (must : Bool) (h : s ≤ t.size) : ∃ n, n ≤ 8 * (t.size + 1) + 8 ∧ Told 1 (nextHit t (t.size - s) s) (M.runFor n (forSearch reDot t 0 s t.size must)) := by
  by_cases hs : s < t.size
  · obtain ⟨seen, e⟩ := dot_search t s must hs
    obtain ⟨n, hn, ht⟩ := dot_find t (t.size - s) s s must true seen (by omega)
    refine ⟨n, by omega, ?_⟩
    rw [e]
    have key : ∀ (k s : Nat), s + k = t.size → nextHit t (k + 1) s = nextHit t k s := by
      intro k
      induction k with
      | zero =>
        intro s hs
        have hn : isHit t s = false := by unfold isHit; rw [decide_eq_false (by omega)]; simp
        show (if isHit t s = true then some s else none) = none
        rw [hn]; rfl
      | succ k ih =>
        intro s hs
        show (if isHit t s = true then some s else nextHit t (k + 1) (s + 1)) = (if isHit t s = true then some s else nextHit t k (s + 1))
        rw [ih (s + 1) (by omega)]
    have this : nextHit t (t.size - s + 1) s = nextHit t (t.size - s) s := key _ _ (by omega)
    rw [← this]
    exact ht
  · have hs' : s = t.size := by omega
    obtain ⟨n, hn, ht⟩ := dot_none t s must (by omega)
    refine ⟨n, by omega, ?_⟩
    have e : t.size - s = 0 := by omega
    rw [e, nextHit]
    exact ht
end Mine
end
section
namespace Mine
open PySem PySem.Sre
noncomputable abbrev reEnd : Array Nat := #[14, 9, 4, 1, 2, 16, 10, 16, 13, 0, 7, 7, 16, 13, 16, 10, 15, 18, 5, 16, 10, 15, 13, 11, 16, 13, 5, 5, 0, 16, 10, 1, 15, 2, 0, 1]
/-- the machine on the pattern of line ends -/
noncomputable def N (t : Array Nat) (start pc pos handed : Nat) (first : Bool) (fr : List Sre.Frame) (wt : Nat) (an : Option Bool) (seen : Seen) : M :=
  { code := reEnd, text := t, lim := t.size, start := start, lastStart := t.size, mustAdvance := false, pc := pc, pos := pos, handed := handed, outermost := first, marks := #[],
    frames := fr, weight := wt, answer := an, seen := seen }
noncomputable abbrev nf (s : Nat) (first : Bool) : Sre.Frame := { wait := .nextStart, pc := 10, pos := s, outermost := first }
noncomputable abbrev nb (alt s : Nat) (first : Bool) : Sre.Frame := { wait := .nextBranch, pc := alt, pos := s, outermost := first, kept := { lastmark := -1, lastindex := -1, whole := false, marks := #[] } }
noncomputable abbrev lk (p : Nat) (first : Bool) : Sre.Frame := { wait := .lookNot, pc := 26, pos := p, outermost := first, kept := { lastmark := -1, lastindex := -1, whole := false, marks := #[] } }
theorem exec_jump (m : M) (k : Nat) (hop : ops[m.word 0]? = some .JUMP) (hc : m.word 1 = k) : m.exec = { m with seen := m.seen.add (m.word 0), pc := m.pc + 1 + k } := by
  unfold M.exec
  rw [hop]
  dsimp only
  rw [show M.word { m with seen := m.seen.add (m.word 0) } 1 = k from hc]
section
variable {t : Array Nat} {first f : Bool} {start pos handed s : Nat} {fr : List Sre.Frame} {wt : Nat} {seen : Seen}
theorem N12 : (N t start 12 pos handed first fr wt none seen).step = if pos ≥ t.size then N t start 12 pos handed first fr wt (some false) (seen.add 16) else if t.getD pos 0 == 13 then N t start 14 (pos + 1) handed first fr wt none (seen.add 16) else N t start 12 pos handed first fr wt (some false) (seen.add 16) := by
  rw [step_live _ rfl rfl (by show 12 < 36; decide), exec_lit _ 13 rfl rfl]; rfl
theorem N14 : (N t start 14 pos handed first fr wt none seen).step = if pos ≥ t.size then N t start 14 pos handed first fr wt (some false) (seen.add 16) else if t.getD pos 0 == 10 then N t start 16 (pos + 1) handed first fr wt none (seen.add 16) else N t start 14 pos handed first fr wt (some false) (seen.add 16) := by
  rw [step_live _ rfl rfl (by show 14 < 36; decide), exec_lit _ 10 rfl rfl]; rfl
theorem N19 : (N t start 19 pos handed first fr wt none seen).step = if pos ≥ t.size then N t start 19 pos handed first fr wt (some false) (seen.add 16) else if t.getD pos 0 == 10 then N t start 21 (pos + 1) handed first fr wt none (seen.add 16) else N t start 19 pos handed first fr wt (some false) (seen.add 16) := by
  rw [step_live _ rfl rfl (by show 19 < 36; decide), exec_lit _ 10 rfl rfl]; rfl
theorem N24 : (N t start 24 pos handed first fr wt none seen).step = if pos ≥ t.size then N t start 24 pos handed first fr wt (some false) (seen.add 16) else if t.getD pos 0 == 13 then N t start 26 (pos + 1) handed first fr wt none (seen.add 16) else N t start 24 pos handed first fr wt (some false) (seen.add 16) := by
  rw [step_live _ rfl rfl (by show 24 < 36; decide), exec_lit _ 13 rfl rfl]; rfl
theorem N29 : (N t start 29 pos handed first fr wt none seen).step = if pos ≥ t.size then N t start 29 pos handed first fr wt (some false) (seen.add 16) else if t.getD pos 0 == 10 then N t start 31 (pos + 1) handed first fr wt none (seen.add 16) else N t start 29 pos handed first fr wt (some false) (seen.add 16) := by
  rw [step_live _ rfl rfl (by show 29 < 36; decide), exec_lit _ 10 rfl rfl]; rfl
theorem N16 : (N t start 16 pos handed first fr wt none seen).step = N t start 35 pos handed first fr wt none (seen.add 15) := by
  rw [step_live _ rfl rfl (by show 16 < 36; decide), exec_jump _ 18 rfl rfl]; rfl
theorem N21 : (N t start 21 pos handed first fr wt none seen).step = N t start 35 pos handed first fr wt none (seen.add 15) := by
  rw [step_live _ rfl rfl (by show 21 < 36; decide), exec_jump _ 13 rfl rfl]; rfl
theorem N32 : (N t start 32 pos handed first fr wt none seen).step = N t start 35 pos handed first fr wt none (seen.add 15) := by
  rw [step_live _ rfl rfl (by show 32 < 36; decide), exec_jump _ 2 rfl rfl]; rfl
theorem N35 : (N t start 35 pos handed first fr wt none seen).step = N t start 35 pos pos first fr wt (some true) (seen.add 1) := by
  rw [step_live _ rfl rfl (by show 35 < 36; decide), exec_success _ rfl rfl, if_neg]; rfl
  show ¬ (first && (false && pos == start)) = true
  simp
theorem N10 : (N t start 10 pos handed first [nf s f] 1 none seen).step = N t start 12 pos pos first [nb 11 pos first, nf s f] 2 none (seen.add 7) := by
  rw [step_live _ rfl rfl (by show 10 < 36; decide)]; rfl
theorem N26 {a : Nat} : (N t start 26 pos handed first [nb a s f, nf s f] 2 none seen).step = N t start 29 pos pos false [lk pos first, nb a s f, nf s f] 3 none (seen.add 5) := by
  rw [step_live _ rfl rfl (by show 26 < 36; decide)]; rfl
theorem Nb1 {pc : Nat} : (N t start pc pos handed first [nb 11 s f, nf s f] 2 (some false) seen).step = N t start 19 s s f [nb 18 s f, nf s f] 2 none seen := rfl
theorem Nb2 {pc : Nat} : (N t start pc pos handed first [nb 18 s f, nf s f] 2 (some false) seen).step = N t start 24 s s f [nb 23 s f, nf s f] 2 none seen := rfl
theorem Nby {pc a : Nat} : (N t start pc pos handed first [nb a s f, nf s f] 2 (some true) seen).step = N t start a s handed f [nf s f] 1 (some true) seen := rfl
theorem Nsy {pc : Nat} : (N t start pc pos handed first [nf s f] 1 (some true) seen).step = N t start 10 s handed f [] 0 (some true) seen := rfl
theorem Nend {pc : Nat} (b : Bool) : (N t start pc pos handed first [] wt (some b) seen).step = { N t start pc pos handed first [] wt (some b) seen with outcome := some (if b then .matched else .failed) } := rfl
theorem Nlk {pc a p : Nat} : (N t start pc pos handed first [lk p f, nb a s f, nf s f] 3 (some false) seen).step = N t start 32 p handed f [nb a s f, nf s f] 2 none seen := rfl
theorem N_live {pc : Nat} (an : Option Bool) : (N t start pc pos handed first fr wt an seen).outcome.isSome = false := rfl
end
/-- how many signs the end at s takes -/
noncomputable def endLen (t : Array Nat) (s : Nat) : Nat := if t.getD s 0 == 13 && decide (s + 1 < t.size) && t.getD (s + 1) 0 == 10 then 2 else 1
theorem end_at (t : Array Nat) (s handed : Nat) (first : Bool) (seen : Seen) (hs : s < t.size) (hc : t.getD s 0 = 10 ∨ t.getD s 0 = 13) :
    ∃ n, n ≤ 20 ∧ Told (endLen t s) (some s) (M.runFor n (N t s 10 s handed first [nf s first] 1 none seen)) := by
  have fin : ∀ (pc pos h a : Nat) (sn : Seen), Told h (some s) (M.runFor 3 (N t s pc pos (s + h) first [nb a s first, nf s first] 2 (some true) sn)) := fun pc pos h a sn => by
    rw [runFor_step (N_live _) Nby, runFor_step (N_live _) Nsy, runFor_step (N_live _) (Nend true)]
    exact ⟨rfl, rfl, rfl⟩
  have suc : ∀ (h a : Nat) (sn : Seen) (hd : Nat), Told h (some s) (M.runFor 4 (N t s 35 (s + h) hd first [nb a s first, nf s first] 2 none sn)) := fun h a sn hd => by
    rw [runFor_step (N_live _) N35]
    exact fin _ _ h a _
  rcases hc with hc | hc
  · have e : endLen t s = 1 := by unfold endLen; rw [hc]; rfl
    rw [e]
    refine ⟨9, by decide, ?_⟩
    rw [runFor_step (N_live _) N10, runFor_step (N_live _) N12, if_neg (by omega), if_neg (by rw [hc]; decide), runFor_step (N_live _) Nb1, runFor_step (N_live _) N19, if_neg (by omega), if_pos (by rw [hc]; rfl),
      runFor_step (N_live _) N21]
    exact suc 1 18 _ _
  · by_cases h2 : (decide (s + 1 < t.size) && t.getD (s + 1) 0 == 10) = true
    · have e : endLen t s = 2 := by unfold endLen; rw [Bool.and_assoc, h2, hc]; rfl
      rw [e]
      obtain ⟨h3, h4⟩ := Bool.and_eq_true_iff.mp h2
      have h3 := of_decide_eq_true h3
      refine ⟨8, by decide, ?_⟩
      rw [runFor_step (N_live _) N10, runFor_step (N_live _) N12, if_neg (by omega), if_pos (by rw [hc]; rfl), runFor_step (N_live _) N14, if_neg (by omega), if_pos h4, runFor_step (N_live _) N16]
      exact suc 2 11 _ _
    · have e : endLen t s = 1 := by unfold endLen; rw [Bool.and_assoc, Bool.eq_false_iff.mpr h2]; simp
      rw [e]
      have no : ∀ (sn : Seen), Told 1 (some s) (M.runFor 13 (N t s 14 (s + 1) s first [nb 11 s first, nf s first] 2 (some false) sn)) := fun sn => by
        rw [runFor_step (N_live _) Nb1, runFor_step (N_live _) N19, if_neg (by omega), if_neg (by rw [hc]; decide), runFor_step (N_live _) Nb2, runFor_step (N_live _) N24, if_neg (by omega), if_pos (by rw [hc]; rfl),
          runFor_step (N_live _) N26]
        by_cases h3 : s + 1 ≥ t.size
        · rw [runFor_step (N_live _) N29, if_pos h3, runFor_step (N_live _) Nlk, runFor_step (N_live _) N32]
          rw [show (5 : Nat) = 4 + 1 from rfl, runFor_add]
          rw [runFor_done 1 _ (by rw [(suc 1 23 _ _).1]; rfl)]
          exact suc 1 23 _ _
        · have h4 : ¬ (t.getD (s + 1) 0 == 10) = true := fun q => h2 (by rw [q, decide_eq_true (by omega)]; rfl)
          rw [runFor_step (N_live _) N29, if_neg h3, if_neg h4, runFor_step (N_live _) Nlk, runFor_step (N_live _) N32]
          rw [show (5 : Nat) = 4 + 1 from rfl, runFor_add]
          rw [runFor_done 1 _ (by rw [(suc 1 23 _ _).1]; rfl)]
          exact suc 1 23 _ _
      refine ⟨16, by decide, ?_⟩
      rw [runFor_step (N_live _) N10, runFor_step (N_live _) N12, if_neg (by omega), if_pos (by rw [hc]; rfl), runFor_step (N_live _) N14]
      by_cases h3 : s + 1 ≥ t.size
      · rw [if_pos h3]; exact no _
      · have h4 : ¬ (t.getD (s + 1) 0 == 10) = true := fun q => h2 (by rw [q, decide_eq_true (by omega)]; rfl)
        rw [if_neg h3, if_neg h4]; exact no _
noncomputable def isEnd (c : Nat) : Bool := c == 10 || c == 13
theorem inSet_end (c : Nat) (seen : Seen) : ∃ seen', inSet reEnd c reEnd.size 5 true seen = .ok (isEnd c, seen') := by
  have e1 : inSet reEnd c reEnd.size 5 true seen = if (c == 10) = true then .ok (true, seen.add 16) else inSet reEnd c 35 7 true (seen.add 16) := rfl
  have e2 : inSet reEnd c 35 7 true (seen.add 16) = if (c == 13) = true then .ok (true, (seen.add 16).add 16) else .ok (false, ((seen.add 16).add 16).add 0) := rfl
  rw [e1, e2]
  unfold isEnd
  by_cases h1 : (c == 10) = true
  · rw [if_pos h1, h1]; exact ⟨_, rfl⟩
  · rw [if_neg h1, Bool.eq_false_iff.mpr h1]
    by_cases h2 : (c == 13) = true
    · rw [if_pos h2, h2]; exact ⟨_, rfl⟩
    · rw [if_neg h2, Bool.eq_false_iff.mpr h2]; exact ⟨_, rfl⟩
noncomputable def nextEnd (t : Array Nat) : Nat → Nat → Option Nat
  | 0, _ => none
  | f + 1, s => if s ≥ t.size then none else if isEnd (t.getD s 0) then some s else nextEnd t f (s + 1)
theorem admitted_end (m : M) (t : Array Nat) (hc : m.code = reEnd) (ht : m.text = t) (hl : m.lim = t.size) : ∀ (f s : Nat) (seen : Seen), ∃ seen', M.admitted m f s seen = .ok (nextEnd t f s, seen')
  | 0, s, seen => ⟨seen, rfl⟩
  | f + 1, s, seen => by
    rw [M.admitted, nextEnd, hl]
    by_cases h : s ≥ t.size
    · rw [if_pos h, if_pos h]; exact ⟨_, rfl⟩
    · rw [if_neg h, if_neg h, hc, ht]
      obtain ⟨sn, e⟩ := inSet_end (t.getD s 0) seen
      rw [e]
      cases q : isEnd (t.getD s 0) with
      | true => exact ⟨sn, rfl⟩
      | false =>
        obtain ⟨sn', e'⟩ := admitted_end m t hc ht hl f (s + 1) sn
        exact ⟨sn', e'⟩
theorem nextEnd_spec (t : Array Nat) : ∀ (f s s' : Nat), nextEnd t f s = some s' → s' < t.size ∧ (t.getD s' 0 = 10 ∨ t.getD s' 0 = 13)
  | 0, _, _, h => by cases h
  | f + 1, s, s', h => by
    rw [nextEnd] at h
    by_cases h1 : s ≥ t.size
    · rw [if_pos h1] at h; cases h
    · rw [if_neg h1] at h
      cases q : isEnd (t.getD s 0) with
      | true =>
        rw [q, if_pos rfl] at h
        cases h
        refine ⟨by omega, ?_⟩
        unfold isEnd at q
        simpa using q
      | false =>
        rw [q, if_neg Bool.false_ne_true] at h
        exact nextEnd_spec t f (s + 1) s' h
theorem end_told (t : Array Nat) (s : Nat) (must : Bool) (h : s ≤ t.size) : ∃ n, n ≤ 24 ∧
    (match nextEnd t (t.size + 1 - s) s with | some s' => Told (endLen t s') (some s') (M.runFor n (forSearch reEnd t 0 s t.size must)) | none => Told 0 none (M.runFor n (forSearch reEnd t 0 s t.size must))) := by
  by_cases hs : s < t.size
  · have e : forSearch reEnd t 0 s t.size must = M.attemptFrom { code := reEnd, text := t, lim := t.size, start := s, lastStart := t.size, mustAdvance := must, pc := 10, pos := s, handed := s, marks := #[], seen := ({} : Seen).add 14 } s true := by
      unfold forSearch
      show (if (decide (s > t.size) || decide (t.size - s < 1)) = true then _ else _) = _
      rw [if_neg (by simp; omega)]
      rfl
    rw [e]
    unfold M.attemptFrom
    rw [if_neg (by show ¬ (!true) = true; simp)]
    obtain ⟨sn, e'⟩ := admitted_end { code := reEnd, text := t, lim := t.size, start := s, lastStart := t.size, mustAdvance := must, pc := 10, pos := s, handed := s, marks := #[], seen := ({} : Seen).add 14 } t rfl rfl rfl (t.size + 1 - s) s (({} : Seen).add 14)
    dsimp only
    rw [e']
    cases q : nextEnd t (t.size + 1 - s) s with
    | none =>
      refine ⟨1, by decide, ?_⟩
      rfl
    | some s' =>
      obtain ⟨h1, h2⟩ := nextEnd_spec t _ _ _ q
      obtain ⟨n, hn, ht⟩ := end_at t s' s' true sn h1 h2
      exact ⟨n, by omega, ht⟩
  · have hs' : s = t.size := by omega
    have e : nextEnd t (t.size + 1 - s) s = none := by
      rw [show t.size + 1 - s = 0 + 1 by omega, nextEnd, if_pos (by omega)]
    rw [e]
    refine ⟨1, by decide, ?_⟩
    show (M.runFor 1 (forSearch reEnd t 0 s t.size must)).outcome = _
    unfold forSearch
    show (M.runFor 1 (if (decide (s > t.size) || decide (t.size - s < 1)) = true then _ else _)).outcome = _
    rw [if_pos (by simp; omega)]
    rfl
end Mine
end
section
open PySem PySem.W PySem.Calls PyProof.Rows PySem.Builtin PySem.Builtin.Re
namespace Mine
section
variable {M : Model} {A : Around} {E : Value → Shared → Prop}
theorem wpAny_reDrive (n : Nat) : ∀ (turns : Nat) (m : Sre.M) (s : Shared) (Q : Sre.M → Shared → Prop), n < 4 * turns → (Sre.M.runFor n m).outcome.isSome = true → Q (Sre.M.runFor n m) s → wpAny M A (reDrive turns m) Q E s := by
  intro turns
  induction turns generalizing n with
  | zero => intro m s Q h; omega
  | succ k ih =>
    intro m s Q hn ho hq
    rw [reDrive]
    by_cases h4 : (Sre.M.runFor reTurnSteps m).outcome.isSome = true
    · rw [if_pos h4]
      have e : Sre.M.runFor n m = Sre.M.runFor reTurnSteps m := by
        rcases Nat.le_total n 4 with h | h
        · have : reTurnSteps = n + (4 - n) := by show 4 = _; omega
          rw [this, runFor_add, runFor_done _ _ ho]
        · have : n = reTurnSteps + (n - 4) := by show _ = 4 + _; omega
          rw [this, runFor_add, runFor_done _ _ h4]
      exact wpAny_pure (e ▸ hq)
    · rw [if_neg h4]
      have h : 4 < n := by
        rcases Nat.lt_or_ge 4 n with h | h
        · exact h
        · exfalso
          apply h4
          have : reTurnSteps = n + (4 - n) := by show 4 = _; omega
          rw [this, runFor_add, runFor_done _ _ ho]
          exact ho
      have e : Sre.M.runFor n m = Sre.M.runFor (n - 4) (Sre.M.runFor reTurnSteps m) := by
        rw [← runFor_add]
        congr 1
        show n = 4 + _; omega
      refine wpAny_bind (wpAny_rule ?_)
      exact ih (n - 4) _ s Q (by omega) (e ▸ ho) (e ▸ hq)
theorem wpAny_rules (seen : Sre.Seen) : ∀ (l : List Nat) (s : Shared) (Q : PUnit → Shared → Prop), Q PUnit.unit s → wpAny M A (forIn l PUnit.unit fun i _ => (if seen.has i = true then (rule (Sre.names.getD i "") >>= fun _ => pure (ForInStep.yield PUnit.unit)) else pure (ForInStep.yield PUnit.unit) : Sem (ForInStep PUnit))) Q E s
  | [], s, Q, h => wpAny_pure h
  | i :: l, s, Q, h => by
    rw [List.forIn_cons]
    refine wpAny_bind ?_
    split
    · exact wpAny_bind (wpAny_rule (wpAny_pure (wpAny_rules seen l s Q h)))
    · exact wpAny_pure (wpAny_rules seen l s Q h)
theorem wpAny_reRunToEnd (n : Nat) (m : Sre.M) (s : Shared) (Q : Option Sre.M → Shared → Prop) (hn : n < 4 * 2 ^ 64)
    (h : ((Sre.M.runFor n m).outcome = some .matched ∧ Q (some (Sre.M.runFor n m)) s) ∨ ((Sre.M.runFor n m).outcome = some .failed ∧ Q none s)) : wpAny M A (reRunToEnd m) Q E s := by
  unfold reRunToEnd
  have ho : (Sre.M.runFor n m).outcome.isSome = true := by rcases h with h | h <;> rw [h.1] <;> rfl
  refine wpAny_bind (wpAny_reDrive n _ m s _ hn ho ?_)
  refine wpAny_bind (wpAny_rules _ _ _ _ ?_)
  rcases h with h | h
  · rw [h.1]; exact wpAny_pure h.2
  · rw [h.1]; exact wpAny_pure h.2
end
/-- where a pattern's next piece lies, and its length -/
noncomputable def dotNx (t : Array Nat) (s : Nat) : Option (Nat × Nat) := (nextHit t (t.size - s) s).map (·, 1)
noncomputable def endNx (t : Array Nat) (s : Nat) : Option (Nat × Nat) := (nextEnd t (t.size + 1 - s) s).map fun s' => (s', endLen t s')
structure Finds (code : Array Nat) (nx : Array Nat → Nat → Option (Nat × Nat)) : Prop where
  told : ∀ (t : Array Nat) (s : Nat) (must : Bool), s ≤ t.size → ∃ n, n ≤ 8 * (t.size + 1) + 24 ∧ match nx t s with
    | some (s', k) => Told k (some s') (Sre.M.runFor n (Sre.forSearch code t 0 s t.size must))
    | none => Told 0 none (Sre.M.runFor n (Sre.forSearch code t 0 s t.size must))
  lies : ∀ (t : Array Nat) (s s' k : Nat), s ≤ t.size → nx t s = some (s', k) → s ≤ s' ∧ 0 < k ∧ s' + k ≤ t.size
theorem nextHit_lies (t : Array Nat) : ∀ (f s s' : Nat), nextHit t f s = some s' → s ≤ s' ∧ s' < t.size
  | 0, _, _, h => by cases h
  | f + 1, s, s', h => by
    rw [nextHit] at h
    split at h
    · cases h
      rename_i q
      unfold isHit at q
      simp at q
      omega
    · have := nextHit_lies t f (s + 1) s' h
      omega
theorem nextEnd_lies (t : Array Nat) : ∀ (f s s' : Nat), nextEnd t f s = some s' → s ≤ s' ∧ s' < t.size
  | 0, _, _, h => by cases h
  | f + 1, s, s', h => by
    rw [nextEnd] at h
    split at h
    · cases h
    · split at h
      · cases h
        omega
      · have := nextEnd_lies t f (s + 1) s' h
        omega
theorem finds_dot : Finds reDot dotNx where
  told t s must h := by
    obtain ⟨n, hn, ht⟩ := dot_told t s must h
    refine ⟨n, by omega, ?_⟩
    unfold dotNx
    cases q : nextHit t (t.size - s) s with
    | none => rw [q] at ht; exact ht
    | some s' => rw [q] at ht; exact ht
  lies t s s' k h e := by
    unfold dotNx at e
    cases q : nextHit t (t.size - s) s with
    | none => rw [q] at e; cases e
    | some s'' =>
      rw [q] at e; cases e
      have := nextHit_lies t _ _ _ q
      omega
theorem finds_end : Finds reEnd endNx where
  told t s must h := by
    obtain ⟨n, hn, ht⟩ := end_told t s must h
    refine ⟨n, by omega, ?_⟩
    unfold endNx
    cases q : nextEnd t (t.size + 1 - s) s with
    | none => rw [q] at ht; exact ht
    | some s' => rw [q] at ht; exact ht
  lies t s s' k h e := by
    unfold endNx at e
    cases q : nextEnd t (t.size + 1 - s) s with
    | none => rw [q] at e; cases e
    | some s'' =>
      rw [q] at e; cases e
      have h2 := nextEnd_lies t _ _ _ q
      unfold endLen
      split
      · rename_i hc
        simp at hc
        omega
      · omega
/-- the pieces that a substitution makes from place s on -/
noncomputable def pieces (nx : Array Nat → Nat → Option (Nat × Nat)) (r : Str) (t : Array Nat) : Nat → Nat → List Str
  | 0, _ => []
  | f + 1, s => match nx t s with
    | some (s', k) => (if s < s' then [⟨t.extract s s'⟩] else []) ++ r :: pieces nx r t f (s' + k)
    | none => if s < t.size then [⟨t.extract s t.size⟩] else []
namespace F
theorem entry_sub_loop : entryFor table "re.Pattern.sub.loop" = some Builtin.«re.Pattern.sub.loop» := entryFor_of_tree (by kernel_rfl)
theorem entry_sub : entryFor table "re.Pattern.sub" = some Builtin.«re.Pattern.sub» := entryFor_of_tree (by kernel_rfl)
theorem plain_sub_loop : plainId "re.Pattern.sub.loop" = true := by decide +kernel
theorem plain_sub : plainId "re.Pattern.sub" = true := by decide +kernel
theorem quiet_sub_loop (args : Args) : (Code.builtin "re.Pattern.sub.loop" args).quiet = true := Code.quiet_builtin args (by decide +kernel)
end F
end Mine
end
section
open PySem PySem.W PySem.Calls PyProof.Rows PySem.Builtin PySem.Builtin.Re
namespace Mine
noncomputable def cat (l : List Str) : Str := Txt.join ⟨#[]⟩ l
noncomputable def total (l : List Str) : Nat := (l.map Str.length).sum
theorem total_append (a b : List Str) : total (a ++ b) = total a + total b := by simp [total]
theorem total_cons (a : Str) (b : List Str) : total (a :: b) = a.length + total b := rfl
theorem pieces_total {code nx} (F : Finds code nx) (r : Str) (t : Array Nat) : ∀ (f s : Nat), s ≤ t.size → total (pieces nx r t f s) ≤ (t.size - s) * (1 + r.length) ∧ (pieces nx r t f s).length ≤ 2 * (t.size - s) := by
  intro f
  induction f with
  | zero => intro s _; exact ⟨Nat.zero_le _, Nat.zero_le _⟩
  | succ f ih =>
    intro s hs
    rw [pieces]
    cases e : nx t s with
    | none =>
      dsimp only
      split
      · rw [total_cons]
        have : (⟨t.extract s t.size⟩ : Str).length = t.size - s := by show (t.extract s t.size).size = _; simp
        rw [this]
        constructor
        · show _ + 0 ≤ _
          rw [Nat.mul_add, Nat.mul_one]; omega
        · show 1 ≤ _; omega
      · exact ⟨Nat.zero_le _, Nat.zero_le _⟩
    | some p =>
      obtain ⟨s', k⟩ := p
      obtain ⟨h1, h2, h3⟩ := F.lies t s s' k hs e
      obtain ⟨i1, i2⟩ := ih (s' + k) h3
      dsimp only
      have hm : (t.size - (s' + k)) * (1 + r.length) + r.length + (s' - s) ≤ (t.size - s) * (1 + r.length) := by
        have : t.size - s = (t.size - (s' + k)) + (s' - s) + k := by omega
        rw [this, Nat.add_mul, Nat.add_mul]
        have a1 : s' - s ≤ (s' - s) * (1 + r.length) := Nat.le_mul_of_pos_right _ (by omega)
        have a2 : 1 + r.length ≤ k * (1 + r.length) := Nat.le_mul_of_pos_left _ h2
        omega
      split
      · rw [total_append, total_cons, total_cons]
        have : (⟨t.extract s s'⟩ : Str).length = s' - s := by show (t.extract s s').size = _; simp; omega
        rw [this]
        constructor
        · show s' - s + 0 + _ ≤ _; omega
        · rw [List.length_append, List.length_cons, List.length_cons]; simp only [List.length_nil]; omega
      · rw [List.nil_append, total_cons]
        constructor
        · omega
        · rw [List.length_cons]; omega
theorem foldl_total (l : List Str) : ∀ n, l.toArray.foldl (fun n (s : Str) => n + s.length + (⟨#[]⟩ : Str).length) n = n + total l := by
  intro n
  rw [List.foldl_toArray]
  induction l generalizing n with
  | nil => rfl
  | cons a l ih =>
    rw [List.foldl_cons, ih, total_cons]
    show n + a.length + 0 + _ = _; omega
theorem not_tooLong (l : List Str) (h : total l ≤ 1000000) : Builtin.Str.tooLong (l.toArray.foldl (fun n (s : Str) => n + s.length + (⟨#[]⟩ : Str).length) 0) = false := by
  rw [foldl_total]
  unfold Builtin.Str.tooLong sizeLine
  simp; omega
/-- a pattern on the heap -/
structure PatAt (h : Heap) (a : Addr) (code : Array Nat) : Prop where
  mk ::
  ex : ∃ o vs c t oc items n, h.get? a = some o ∧ o.cls = .type "re.Pattern" ∧ o.dict = none ∧ o.data = .fields vs ∧ vs.getD 2 .none = .int 0 0 ∧ vs.getD 5 .none = .ref c ∧ vs.getD 6 .none = .int 0 t ∧ h.get? c = some oc ∧ oc.data = .seq items n ∧ (items.map reRawOf).map (·.toNat) = code
theorem PatAt.keeps {h h' : Heap} {a : Addr} {code : Array Nat} (P : PatAt h a code) (k : h.StaysIn h') : PatAt h' a code := by
  obtain ⟨o, vs, c, t, oc, items, n, h1, h2, h2', h3, h4, h5, h6, h7, h8⟩ := P.ex
  exact ⟨o, vs, c, t, oc, items, n, k _ _ h1, h2, h2', h3, h4, h5, h6, k _ _ h7, h8⟩
theorem PatAt.keepsBut {h h' : Heap} {a b : Addr} {code : Array Nat} (P : PatAt h a code) (n : h.objs.size ≤ b) (k : ∀ x o, x ≠ b → h.get? x = some o → h'.get? x = some o) : PatAt h' a code :=
  P.keeps fun x o e => k x o (fun q => Nat.lt_irrefl _ (Nat.lt_of_lt_of_le (q ▸ Heap.lt_size e) n)) e
section
variable {prog : Program} {w : World} {A : Around} {E : Value → Shared → Prop}
theorem wpAny_reWholeTarget {s : Shared} {pa : Addr} {code : Array Nat} {x : Str} {t : Tok} {Q : ReTarget → Shared → Prop} (P : PatAt s.heap pa code)
    (h : Q { pattern := .ref pa, string := .str x t, code := code, text := x.cps, kind := 0, groups := 0, pos := 0, lim := x.cps.size } s) : wpAny (model prog w) A (reWholeTarget (.ref pa) (.str x t)) Q E s := by
  obtain ⟨o, vs, c, tt, oc, items, n, h1, h2, h2', h3, h4, h5, h6, h7, h8, h9⟩ := P.ex
  unfold reWholeTarget
  refine wpAny_bind (wpAny_fieldsOf h1 h3 ?_)
  refine wpAny_bind ?_
  show wpAny _ _ (pure (x.cps, 0)) _ _ s
  refine wpAny_pure ?_
  dsimp only
  rw [h4, h5, h6]
  show wpAny _ _ (reRawItems (.ref c) >>= _) _ _ s
  refine wpAny_bind ?_
  unfold reRawItems
  refine wpAny_bind (wpAny_seqItems h7 h8 (wpAny_pure ?_))
  show wpAny _ _ (pure _) _ _ s
  refine wpAny_pure ?_
  show Q { pattern := .ref pa, string := .str x t, code := (items.map reRawOf).map (·.toNat), text := x.cps, kind := 0, groups := 0, pos := 0, lim := x.cps.size } s
  rw [h9]
  exact h
theorem wpAny_reSlice {s : Shared} {t : Array Nat} {b e : Nat} {Q : Value → Shared → Prop} (hz : t.size ≤ sizeLine) (h : Q (.str ⟨t.extract b e⟩ s.toks) { s with toks := s.toks + 1 }) : wpAny (model prog w) A (reSlice t 0 b e) Q E s := by
  unfold reSlice
  refine wpAny_mkStr h ?_
  show (t.extract b e).size ≤ _
  simp; omega
end
section
variable {prog : Program} {w : World} {A : Around} {R : Result → Shared → Prop}
set_option maxHeartbeats 1000000 in
theorem code_sub_loop {code nx} (F : Finds code nx) (pa L : Addr) (x r : Str) (tx tr : Tok) (hx : x.length ≤ 1000) (hr : r.length ≤ 2) (hbelow : pa ≠ L) :
    ∀ (f s n : Nat) (st : Shared) (acc : Array Value) (c : Nat) (done : List (Str × Tok)), x.cps.size - s < f → s ≤ x.cps.size → (∀ h', (∀ b o, b ≠ L → st.heap.get? b = some o → h'.get? b = some o) → PatAt h' pa code) →
    st.heap.get? L = some { cls := .type "list", dict := none, data := .seq acc c, slots := #[] } → acc.toList = strValues done → done.length + (pieces nx r x.cps f s).length ≤ 10000 → total (done.map (·.1)) + total (pieces nx r x.cps f s) ≤ 1000000 →
    (∀ h' u tk, (∀ b o, b ≠ L → st.heap.get? b = some o → h'.get? b = some o) → R (.ok (.ret (.str (cat (done.map (·.1) ++ pieces nx r x.cps f s)) u))) { st with heap := h', toks := tk }) →
    codeAny (model prog w) A (.builtin "re.Pattern.sub.loop" ⟨[.ref pa, .str x tx, .str r tr, rawInt 0, rawInt 0, rawInt n, rawInt s, rawInt s, .bool false, .ref L, .bool false], []⟩) R st := by
  have hx' : x.cps.size ≤ 1000 := hx
  intro f
  induction f with
  | zero => intro s n st acc c done h; omega
  | succ f ih =>
    intro s n st acc c done hf hs hP hL hacc hlen htot hR
    have hsz : acc.size = done.length := by
      have e1 : acc.toList.length = acc.size := by simp
      have e2 : (strValues done).length = done.length := by simp [strValues]
      rw [hacc] at e1; omega
    refine codeAny_builtin Mine.F.entry_sub_loop ?_
    show wpAny _ _ («re.Pattern.sub.loop» ⟨[.ref pa, .str x tx, .str r tr, .int 0 0, .int 0 0, .int n 0, .int s 0, .int s 0, .bool false, .ref L, .bool false], []⟩) _ _ st
    unfold «re.Pattern.sub.loop»
    dsimp only
    refine wpAny_bind (wpAny_reWholeTarget (hP st.heap fun _ _ _ e => e) ?_)
    have e0 : ((0 : Int) == 0) = true := rfl
    rw [if_pos e0]
    refine wpAny_bind ?_
    show wpAny _ _ (pure ()) _ _ st
    refine wpAny_pure ?_
    refine wpAny_bind ?_
    rw [if_neg (by simp)]
    unfold reNextFound
    rw [Int.toNat_natCast]
    obtain ⟨m, hm, ht⟩ := F.told x.cps s false hs
    rw [pieces] at hlen htot hR
    cases e : nx x.cps s with
    | some p =>
      obtain ⟨s', k⟩ := p
      obtain ⟨h1, h2, h3⟩ := F.lies _ _ _ _ hs e
      rw [e] at ht hlen htot hR
      dsimp only at ht hlen htot hR
      obtain ⟨t1, t2, t3⟩ := ht
      refine wpAny_reRunToEnd m _ _ _ (by omega) (.inl ⟨t1, ?_⟩)
      dsimp only
      rw [t2, t3]
      have hb : (s' + k == s') = false := by simp; omega
      have hLk : (∀ b o, b ≠ L → st.heap.get? b = some o → st.heap.get? b = some o) := fun _ _ _ e => e
      have go : ∀ (st' : Shared) (acc' : Array Value) (c' : Nat) (done' : List (Str × Tok)), (∀ b o, b ≠ L → st.heap.get? b = some o → st'.heap.get? b = some o) → st'.gens = st.gens → st'.drawn = st.drawn → st'.os = st.os →
          st'.heap.get? L = some { cls := .type "list", dict := none, data := .seq acc' c', slots := #[] } → acc'.toList = strValues done' → done'.length + (r :: pieces nx r x.cps f (s' + k)).length ≤ 10000 → total (done'.map (·.1)) + total (r :: pieces nx r x.cps f (s' + k)) ≤ 1000000 →
          (∀ h' u tk, (∀ b o, b ≠ L → st'.heap.get? b = some o → h'.get? b = some o) → R (.ok (.ret (.str (cat (done'.map (·.1) ++ r :: pieces nx r x.cps f (s' + k))) u))) { st' with heap := h', toks := tk }) →
          wpAny (model prog w) (A.under (.builtin "re.Pattern.sub.loop" ⟨[.ref pa, .str x tx, .str r tr, rawInt 0, rawInt 0, rawInt n, rawInt s, rawInt s, .bool false, .ref L, .bool false], []⟩))
            (updateSeq L (fun xs => xs.push (Value.str r tr)) >>= fun _ => again (.builtin "re.Pattern.sub.loop" ⟨[.ref pa, .str x tx, .str r tr, rawInt 0, rawInt 0, rawInt ((n : Int) + 1), rawInt (s' + k : Nat), rawInt (s' + k : Nat), .bool (s' + k == s'), .ref L, .bool false], []⟩))
            (fun fin s' => match fin with | .done f => R (.ok f) s' | .again c' => c'.quiet = true ∧ codeAny (model prog w) A c' R s') (fun e s' => R (.error e) s') st' := by
        intro st' acc' c' done' hk0 _ _ _ hL' hacc' hlen' htot' hR'
        have hsz' : acc'.size = done'.length := by
          have e1 : acc'.toList.length = acc'.size := by simp
          have e2 : (strValues done').length = done'.length := by simp [strValues]
          rw [hacc'] at e1; omega
        rw [List.length_cons] at hlen'
        refine wpAny_bind (wpAny_updateSeq hL' rfl ?_ (by unfold sizeLine; omega))
        rw [hb]
        refine wpAny_pure ⟨Mine.F.quiet_sub_loop _, ?_⟩
        have hL3 := Heap.get?_update_self (Obj.mapSeq (·.push (.str r tr))) hL' rfl
        have e1 : ((n : Int) + 1) = ((n + 1 : Nat) : Int) := by omega
        rw [e1]
        refine ih (s' + k) (n + 1) _ _ _ (done' ++ [(r, tr)]) (by omega) h3 (fun h' hk => hP h' fun b o hb e => hk b o hb ?_) hL3 (by simp [hacc', strValues]) (by simp; omega) (by simp only [List.map_append, List.map_cons, List.map_nil, total_append, total_cons] at htot' ⊢; have : total ([] : List Str) = 0 := rfl; omega) fun h' u tk hk => ?_
        · exact (Heap.get?_update_other _ _ (fun h : L = b => hb h.symm)).trans (hk0 b o hb e)
        · have := hR' h' u tk fun b o hb e => hk b o hb ((Heap.get?_update_other _ _ (fun h : L = b => hb h.symm)).trans e)
          simpa [List.append_assoc] using this
      by_cases hlt : s < s'
      · rw [if_pos hlt] at hlen htot hR ⊢
        rw [List.length_append, List.length_cons, List.length_nil] at hlen
        rw [total_append] at htot
        refine wpAny_bind (wpAny_reSlice (by unfold sizeLine; omega) ?_)
        refine wpAny_bind (wpAny_updateSeq hL rfl ?_ (by unfold sizeLine; omega))
        rw [if_pos (by rfl)]
        refine wpAny_bind (wpAny_pure ?_)
        rw [if_pos (by rfl)]
        have hL2 := Heap.get?_update_self (Obj.mapSeq (·.push (.str ⟨x.cps.extract s s'⟩ st.toks))) hL rfl
        refine go _ _ _ (done ++ [(⟨x.cps.extract s s'⟩, st.toks)]) (fun b o hb e => (Heap.get?_update_other _ _ (fun h : L = b => hb h.symm)).trans e) rfl rfl rfl hL2 (by simp [hacc, strValues]) (by simp; simp at hlen; omega) (by rw [List.map_append, total_append]; simp only [List.map_cons, List.map_nil]; omega) fun h' u tk hk => ?_
        have := hR h' u tk fun b o hb e => hk b o hb ((Heap.get?_update_other _ _ (fun h : L = b => hb h.symm)).trans e)
        simpa [List.append_assoc] using this
      · rw [if_neg hlt] at hlen htot hR ⊢
        rw [List.nil_append] at hlen htot hR
        rw [if_pos (by rfl)]
        refine wpAny_bind (wpAny_pure ?_)
        rw [if_pos (by rfl)]
        exact go st acc c done hLk rfl rfl rfl hL hacc hlen htot hR
    | none =>
      rw [e] at ht hlen htot hR
      dsimp only at ht hlen htot hR
      refine wpAny_reRunToEnd m _ _ _ (by omega) (.inr ⟨ht, ?_⟩)
      dsimp only
      rw [Around.under_plainId Mine.F.plain_sub_loop _]
      have go : ∀ (st' : Shared) (acc' : Array Value) (c' : Nat) (done' : List (Str × Tok)),
          st'.heap.get? L = some { cls := .type "list", dict := none, data := .seq acc' c', slots := #[] } → acc'.toList = strValues done' → total (done'.map (·.1)) ≤ 1000000 →
          (∀ u tk, R (.ok (.ret (.str (cat (done'.map (·.1))) u))) { st' with toks := tk }) →
          wpAny (model prog w) A.in1 (do
            let joiner ← reSlice x.cps 0 0 0
            let __do_lift ← seqItems? (Value.ref L)
            if (__do_lift.getD #[]).isEmpty = true then do
              let text ← pure joiner
              if false = true then do
                let __do_lift ← holding [text] do
                  let __do_lift ← mkInt ↑n
                  newTuple [text, __do_lift]
                ret __do_lift
              else ret text
            else do
              let text ← call (Value.builtin (if (0 == 0) = true then "str.join" else "bytes.join")) [joiner, Value.ref L]
              if false = true then do
                let __do_lift ← holding [text] do
                  let __do_lift ← mkInt ↑n
                  newTuple [text, __do_lift]
                ret __do_lift
              else ret text)
            (fun fin s' => match fin with | .done f => R (.ok f) s' | .again c' => c'.quiet = true ∧ codeAny (model prog w) A c' R s') (fun e s' => R (.error e) s') st' := by
        intro st' acc' c' done' hL' hacc' htot' hR'
        refine wpAny_bind (wpAny_reSlice (by unfold sizeLine; omega) ?_)
        refine wpAny_bind (wpAny_seqItems hL' rfl ?_)
        have e0 : (⟨x.cps.extract 0 0⟩ : Str) = ⟨#[]⟩ := by congr 1; simp
        rw [e0]
        split
        · rename_i he
          refine wpAny_bind (wpAny_pure ?_)
          have : done' = [] := by
            cases done' with
            | nil => rfl
            | cons p q =>
              exfalso
              have : acc' = #[] := by simpa using he
              rw [this] at hacc'
              cases hacc'
          subst this
          exact wpAny_pure (hR' _ _)
        · refine wpAny_bind ?_
          show wpAny _ _ (call (.builtin "str.join") [.str ⟨#[]⟩ _, .ref L]) _ _ _
          refine SC.join (l := done') (texts := done'.map (·.1)) ?_ rfl ?_ fun t' k => ?_
          · rw [← hacc']; exact ⟨_, hL', rfl, _, rfl⟩
          · unfold JoinOk; rw [not_tooLong _ htot']; rfl
          · exact wpAny_pure (hR' _ _)
      by_cases hlt : s < x.cps.size
      · rw [if_pos hlt] at hlen htot hR ⊢
        simp only [List.length_cons, List.length_nil] at hlen
        refine wpAny_bind (wpAny_reSlice (by unfold sizeLine; omega) ?_)
        refine wpAny_bind (wpAny_updateSeq hL rfl ?_ (by unfold sizeLine; omega))
        have hL2 := Heap.get?_update_self (Obj.mapSeq (·.push (.str ⟨x.cps.extract s x.cps.size⟩ st.toks))) hL rfl
        refine go _ _ _ (done ++ [(⟨x.cps.extract s x.cps.size⟩, st.toks)]) hL2 (by simp [hacc, strValues]) (by rw [List.map_append, total_append]; exact htot) fun u tk => ?_
        have := hR _ u tk fun b o hb e => (Heap.get?_update_other _ (Obj.mapSeq (·.push (.str ⟨x.cps.extract s x.cps.size⟩ st.toks))) (fun h : L = b => hb h.symm)).trans e
        simpa using this
      · rw [if_neg hlt] at hlen htot hR ⊢
        refine go st acc c done hL hacc (by omega) fun u tk => ?_
        have := hR st.heap u tk fun _ _ _ e => e
        simpa using this
end
end Mine
end
section
open PySem PySem.W PySem.Calls PyProof.Rows PySem.Builtin PySem.Builtin.Re
namespace Mine
namespace F
theorem plainAttrs_pat : PlainAttrs "re.Pattern" :=
  ⟨⟨"object.__getattribute__", by rw [typeLookup_type, builtinLookup_eq_fast]; kernel_rfl, by decide +kernel⟩, by rw [typeLookup_type, builtinLookup_eq_fast]; kernel_rfl⟩
theorem slot_pat_sub : Slot "re.Pattern" "sub" "re.Pattern.sub" :=
  .of (owner := "re.Pattern") (n := "sub") (by rw [typeLookup_type, builtinLookup_eq_fast]; kernel_rfl) (by decide +kernel) (by decide +kernel) (by decide +kernel)
    (by first | exact .inl (by decide +kernel) | exact .inr (by decide +kernel)) (by rw [isSubtype_type]; kernel_rfl)
theorem type_pat_sub : typeOf (.builtin "re.Pattern.sub") = pure (.type "method_descriptor") := by show builtinType _ = _; rw [builtinType_eq_fast]; kernel_rfl
theorem call_str : typeLookup (.type "str") "__call__" = pure none := by rw [typeLookup_type, builtinLookup_eq_fast]; kernel_rfl
theorem args_sub (a b c : Value) : argsOk "re.Pattern.sub" ⟨[a, b, c], []⟩ := by unfold argsOk; kernel_rfl
theorem named_sub (id f : String) (r x : Value) : reNamed id f ["repl", "string", "count"] 2 [r, x] [] = pure [some r, some x, none] := rfl
end F
noncomputable def subst (nx : Array Nat → Nat → Option (Nat × Nat)) (r x : Str) : Str := cat (pieces nx r x.cps (x.cps.size + 1) 0)
section
variable {prog : Program} {w : World} {A : Around} {E : Value → Shared → Prop} {s : Shared}
theorem getm_sub {pl : Sem Bool} {Q : Value × List Value → Shared → Prop} {pa : Addr} {code : Array Nat} (P : PatAt s.heap pa code) (h : Q (.builtin "re.Pattern.sub", [.ref pa]) s) : wpAny (model prog w) A (getMethod (.ref pa) "sub" pl) Q E s := by
  obtain ⟨o, vs, c, tt, oc, items, n, h1, h2, h2', r⟩ := P.ex
  exact getMethod_builtin ⟨o, h1, h2⟩ F.plainAttrs_pat F.slot_pat_sub F.type_pat_sub (fun a e => by cases e; exact ⟨o, h1, h2'⟩) h
theorem call_sub {pa : Addr} {code : Array Nat} {nx} (FS : Finds code nx) {x r : Str} {tx tr : Tok} {Q : Value → Shared → Prop} (P : PatAt s.heap pa code) (hx : x.length ≤ 1000) (hr : r.length ≤ 2) (h92 : r.cps.contains 92 = false)
    (h : ∀ h' u tk, s.heap.StaysIn h' → Q (.str (subst nx r x) u) { s with heap := h', toks := tk }) : wpAny (model prog w) A (call (.builtin "re.Pattern.sub") [.ref pa, .str r tr, .str x tx]) Q E s := by
  have P0 := P
  obtain ⟨o, vs, c, tt, oc, items, n, h1, h2, h2', rr⟩ := P.ex
  refine wpAny_call (codeAny_call_builtin F.slot_pat_sub.plain F.entry_sub (F.slot_pat_sub.check _ _ _ _ _ _ _ _ ⟨o, h1, h2⟩ (F.args_sub _ _ _) ?_))
  show wpAny _ _ (reSubstitute "re.Pattern.sub" "sub" false ⟨[.ref pa, .str r tr, .str x tx], []⟩) _ _ s
  unfold reSubstitute
  dsimp only
  rw [F.named_sub]
  refine wpAny_bind (wpAny_pure ?_)
  dsimp only
  refine wpAny_bind (wpAny_pure ?_)
  refine wpAny_bind (wpAny_specialOf (typeIs_str _ _ _) F.call_str ?_)
  refine wpAny_bind ?_
  show wpAny _ _ (pure (some r)) _ _ s
  refine wpAny_pure ?_
  dsimp only
  refine wpAny_bind (wpAny_pure ?_)
  rw [if_neg (by simp), h92, if_pos (by rfl)]
  refine wpAny_bind (wpAny_pure ?_)
  dsimp only
  refine wpAny_bind (wpAny_holding (wpAny_reWholeTarget P0 ?_))
  rw [if_neg (by simp)]
  refine wpAny_bind (wpAny_newList ?_)
  refine wpAny_pure ⟨Mine.F.quiet_sub_loop _, ?_⟩
  have hst : ∀ b o, s.heap.get? b = some o → (s.heap.push { cls := .type "list", data := .seq #[] }).get? b = some o := fun b o e => Heap.get?_push_of_some _ e
  have hp := pieces_total FS r x.cps (x.cps.size + 1) 0 (Nat.zero_le _)
  have hx' : x.cps.size ≤ 1000 := hx
  have h3 : (x.cps.size - 0) * (1 + r.length) ≤ 3000 := Nat.le_trans (Nat.mul_le_mul (by omega : x.cps.size - 0 ≤ 1000) (by omega : 1 + r.length ≤ 3)) (by decide)
  have hne : ∀ b o, s.heap.get? b = some o → b ≠ s.heap.objs.size := fun b o e q => Nat.lt_irrefl _ (q ▸ Heap.lt_size e)
  refine code_sub_loop (prog := prog) (w := w) FS pa s.heap.objs.size x r tx tr hx hr (hne _ _ h1) (x.cps.size + 1) 0 0 _ #[] 0 [] (by omega) (Nat.zero_le _) (fun h' hk => P0.keeps fun b o e => hk b o (hne _ _ e) (hst b o e)) (Heap.get?_push_size _ rfl) rfl (by simp only [List.length_nil]; omega) (by simp only [List.map_nil]; have : total ([] : List Str) = 0 := rfl; omega) fun h' u tk hk => ?_
  exact h h' u tk fun b o e => hk b o (hne _ _ e) (hst b o e)
end
end Mine
end
local macro_rules | `(tactic| walk_at "idle 1") => `(tactic| fail)
local macro_rules | `(tactic| walk_at "idle 2") => `(tactic| fail)
local macro_rules | `(tactic| walk_at "idle 3") => `(tactic| fail)
section
open PySem PySem.W PySem.Calls PyProof.Rows
namespace Mine
local macro_rules | `(tactic| k_room) => `(tactic| exact Nat.le_of_ble_eq_true rfl)
theorem fill_quote : (K = K ∧ PySem.Challenge.rw_tr0051_01 = PySem.Challenge.rw_tr0051_01) → True := by
  k_fill
  intro _
  trivial
section
variable {w : World} {h : Heap}
theorem pat80 (X : (K w.params).In h) : PatAt h 80 reDot := by
  have h1 := X 80 _ (by k_is)
  have h2 := X 79 _ (by k_is)
  exact ⟨_, _, _, _, _, _, _, h1, rfl, rfl, rfl, rfl, rfl, rfl, h2, rfl, by decide +kernel⟩
theorem pat85 (X : (K w.params).In h) : PatAt h 85 reEnd := by
  have h1 := X 85 _ (by k_is)
  have h2 := X 84 _ (by k_is)
  exact ⟨_, _, _, _, _, _, _, h1, rfl, rfl, rfl, rfl, rfl, rfl, h2, rfl, by decide +kernel⟩
theorem getm80 {A : Around} {s : Shared} {E : Value → Shared → Prop} {pl : Sem Bool} {Q : Value × List Value → Shared → Prop} (X : (K w.params).In s.heap) (h : Q (.builtin "re.Pattern.sub", [.ref 80]) s) : wpAny (MM w) A (getMethod (.ref 80) "sub" pl) Q E s := getm_sub (pat80 X) h
theorem getm85 {A : Around} {s : Shared} {E : Value → Shared → Prop} {pl : Sem Bool} {Q : Value × List Value → Shared → Prop} (X : (K w.params).In s.heap) (h : Q (.builtin "re.Pattern.sub", [.ref 85]) s) : wpAny (MM w) A (getMethod (.ref 85) "sub" pl) Q E s := getm_sub (pat85 X) h
end
local macro_rules | `(tactic| walk_at "getMethod ref") => `(tactic| first | refine getm80 (by k_in) ?_ | refine getm85 (by k_in) ?_)
/-- what quotedata makes of a text -/
noncomputable def ends (x : Str) : Str := subst endNx ⟨#[13, 10]⟩ x
noncomputable def dots (x : Str) : Str := subst dotNx ⟨#[46, 46]⟩ x
section
variable {w : World} {A : Around} {s : Shared} {E : Value → Shared → Prop} {h₀ : Heap} {L : Addr} {m : Str → Option Value} {news : List (Addr × Obj)} {x : Str} {tx tr : Tok} {Q : Value → Shared → Prop}
theorem call_ends (F : Fr h₀ L s.heap m) (N : News h₀ L s.heap news) (X : (K w.params).In s.heap) (hx : x.length ≤ 1000) (h : ∀ h' u tk, Fr h₀ L h' m → News h₀ L h' news → Q (.str (ends x) u) { s with heap := h', toks := tk }) :
    wpAny (MM w) A (call (.builtin "re.Pattern.sub") [.ref 85, .str (Str.ofString "\r\n") tr, .str x tx]) Q E s := by
  rw [show Str.ofString "\r\n" = ⟨#[13, 10]⟩ by decide +kernel]
  exact call_sub finds_end (pat85 X) hx (by decide) (by decide +kernel) fun h' u tk k => h h' u tk (fr_stays F k) (news_stays N k)
theorem call_dots (F : Fr h₀ L s.heap m) (N : News h₀ L s.heap news) (X : (K w.params).In s.heap) (hx : x.length ≤ 1000) (h : ∀ h' u tk, Fr h₀ L h' m → News h₀ L h' news → Q (.str (dots x) u) { s with heap := h', toks := tk }) :
    wpAny (MM w) A (call (.builtin "re.Pattern.sub") [.ref 80, .str (Str.ofString "..") tr, .str x tx]) Q E s := by
  rw [show Str.ofString ".." = ⟨#[46, 46]⟩ by decide +kernel]
  exact call_sub finds_dot (pat80 X) hx (by decide) (by decide +kernel) fun h' u tk k => h h' u tk (fr_stays F k) (news_stays N k)
end
local macro_rules | `(tactic| walk_at "call builtin:re.Pattern.sub") => `(tactic| first | refine call_ends (by assumption) (by assumption) (by k_in) (by assumption) fun h' u tk F' N' => ?_ | refine call_dots (by assumption) (by assumption) (by k_in) (by assumption) fun h' u tk F' N' => ?_)
section
variable {w : World} {mean : ExcName → Option Value} {mg mb : Str → Option Value}
set_option maxHeartbeats 4000000 in
theorem quote_spec (x : Str) (t : Tok) (hx : x.length ≤ 1000) (hx2 : (ends x).length ≤ 1000) : Spec w mean mg mb 1 92 [.str x t] (fun _ => True) (fun _ v _ => ∃ u, v = .str (dots (ends x)) u) := by
  intro base outer s Q E B KX T hpre hret
  refine wpAny_call ?_
  refine' enter ?k1 ?k2 ?k6 ?k7 ?k8 ?k9 ?kB ?_ ?c2 ?c3 ?c4 ?c5
  case k1 => exact KX
  case k2 => exact T
  case k6 => k_is
  case k7 => k_is
  case k8 => exact Nat.le_of_ble_eq_true rfl
  case k9 => exact BindsTo.of_eq rfl
  case kB => exact locs rfl
  case c2 => rfl
  case c3 => rfl
  case c4 => rfl
  case c5 => decide
  intro h₁ F N
  dsimp only
  k_fold
  k_steps
  exact hret _ _ _ (Fr.keep (by assumption)) ⟨_, rfl⟩
end
end Mine
end
section
open PySem PySem.W PySem.Calls PyProof.Rows
namespace Mine
section
open Builtin Builtin.Str Builtin.BaseException Builtin.Exceptions
variable {prog : Program} {w : World} {M : Model} {A : Around} {E : Value → Shared → Prop} {s : Shared} {KF : Frag} {e t C : Addr} {oe ot : Obj} {ws : Array Value} {x : Str} {tk : Tok} {n : Nat}
theorem own_bexcArgs {Q : Value × List Value → Shared → Prop} (he : s.heap.get? e = some oe) (hd : oe.data = .fields ws) (h0 : ws[0]? = some (.ref t)) (ht : s.heap.get? t = some ot) (htd : ot.data = .seq #[.str x tk] n)
    (hq : Q (.ref t, [.str x tk]) s) : wpAny M A (bexcArgs (.ref e)) Q E s := by
  unfold bexcArgs
  refine wpAny_bind (wpAny_field he hd h0 (wpAny_bind (wpAny_seqItems ht htd ?_)))
  exact wpAny_pure hq
theorem own_bexcStr {Q : Fin → Shared → Prop} (he : s.heap.get? e = some oe) (hd : oe.data = .fields ws) (h0 : ws[0]? = some (.ref t)) (ht : s.heap.get? t = some ot) (htd : ot.data = .seq #[.str x tk] n)
    (hq : Q (.done (.ret (.str x tk))) s) : wpAny (model prog w) A (Builtin.«BaseException.__str__» ⟨[.ref e], []⟩) Q E s := by
  unfold Builtin.«BaseException.__str__»
  repeat (first | with_reducible refine own_bexcArgs he hd h0 ht htd ?_ | wp_step)
  exact hq
theorem bexc_bind (self : Value) : bindSpecial (.builtin "BaseException.__str__") self = pure (.builtin "BaseException.__str__", [self]) := (PySem.F.excStr_ValueError.str).bind self
theorem own_special {Q : Option Value → Shared → Prop} (X : KF.In s.heap) (hs : findIn KF (.ref C) "__str__" = some (some (.builtin "BaseException.__str__"))) (hm : mroIn KF C (.type "BaseException") = some true)
    (he : s.heap.get? e = some oe) (hc : oe.cls = .ref C) (hd : oe.data = .fields ws) (h0 : ws[0]? = some (.ref t)) (ht : s.heap.get? t = some ot) (htd : ot.data = .seq #[.str x tk] n)
    (hq : Q (some (.str x tk)) s) : wpAny (model prog w) A (callSpecial? (.ref e) "__str__" []) Q E s := by
  have ty : Looks (model prog w) s.heap (typeOf (.ref e)) (.ref C) := by
    rw [← hc]
    exact (Looks.ld he).andThen .now
  refine wpAny_bind (wpAny_bind (ty.here ((looks_findIn X hs).here (wpAny_holding (wpAny_bind ((Looks.of_pure (bexc_bind _)).here (wpAny_bind ?_)))))))
  refine wpAny_call (codeAny_call_builtin (by decide +kernel) PySem.F.entry_bexc_str (check_slot (i := "BaseException.__str__") (owner := "BaseException") (n := "__str__") (by decide +kernel) (by decide +kernel) (ty.andThen (looks_mroIn X hm)) (PySem.F.args_bexc_str _) ?_))
  exact own_bexcStr he hd h0 ht htd (wpAny_pure hq)
theorem own_str {Q : Value → Shared → Prop} (hu : A.in1.in1.units < cLine) (X : KF.In s.heap) (hs : findIn KF (.ref C) "__str__" = some (some (.builtin "BaseException.__str__"))) (hm : mroIn KF C (.type "BaseException") = some true)
    (he : s.heap.get? e = some oe) (hc : oe.cls = .ref C) (hd : oe.data = .fields ws) (h0 : ws[0]? = some (.ref t)) (ht : s.heap.get? t = some ot) (htd : ot.data = .seq #[.str x tk] n)
    (hq : Q (.str x tk) s) : wpAny (model prog w) A (call (.type "str") [.ref e]) Q E s := by
  refine callType_codes (T := "str") (Bi := Builtin.«object.__init__») (Q₁ := fun r s₁ => ∃ y u, r = .str y u ∧ Q r s₁) PySem.F.called_str (PySem.F.typeCall_str_1 _) PySem.F.entry_object_init ?_ ?_
  · refine codeAny_of_tree ?_
    show wpAny _ A.in1.in1 (do checkBuiltinCall "str.__new__" ⟨[.type "str", .ref e], []⟩; again (.builtin "str.__new__" ⟨[.type "str", .ref e], []⟩)) _ _ s
    refine wpAny_bind (wpAny_of_eq (PySem.F.newCall_str_1 _) (wpAny_pure ⟨plainId_quiet (by decide +kernel) _, codeAny_builtin PySem.F.entry_str_new ?_⟩))
    rw [Around.under_plainId (by decide +kernel) _]
    rw [str_new_tree]
    refine wpAny_bind (wpAny_pure ?_)
    refine wpAny_bind (wpAny_of_eq isSubtype_str_str ?_)
    have key : wpAny (model prog w) A.in1.in1 (PySem.Builtin.Str.strOf (.ref e)) (fun r s₁ => ∃ y u, r = .str y u ∧ Q r s₁) E s := by
      unfold PySem.Builtin.Str.strOf
      rw [show isExactStr (.ref e) = false from rfl]
      refine wpAny_bind (m := cRoomFor _ _) (wpAny_cRoomFor hu ?_)
      refine wpAny_bind (m := callSpecial? (.ref e) (Str.ofString "__str__")) (own_special X hs hm he hc hd h0 ht htd ?_)
      exact wpAny_pure ⟨_, _, rfl, hq⟩
    exact wpAny_bind (wpAny_mono key (fun r s₁ hr => wpAny_pure hr) fun _ _ y => y)
  · rintro obj s₁ ⟨y, u, rfl, hq⟩
    exact ⟨typeIs_str _ _ _, PySem.F.args_object_init_2 _ _, object_init_meets PySem.F.called_str.init.lookup PySem.F.called_str.made (by decide) prog w A.in1 _ s₁ ⟨typeIs_str _ _ _, rfl, hq⟩⟩
end
section
variable {w : World} {A : Around} {E : Value → Shared → Prop} {s : Shared} {h₀ : Heap} {L : Addr} {m : Str → Option Value} {news : List (Addr × Obj)} {e t : Addr} {x : Str} {tk : Tok} {Q : Value → Shared → Prop}
theorem find54 (P : Params) : findIn (K P) (.ref 54) "__str__" = some (some (.builtin "BaseException.__str__")) := by kernel_rfl
theorem find66 (P : Params) : findIn (K P) (.ref 66) "__str__" = some (some (.builtin "BaseException.__str__")) := by kernel_rfl
theorem mro54 (P : Params) : mroIn (K P) 54 (.type "BaseException") = some true := by kernel_rfl
theorem mro66 (P : Params) : mroIn (K P) 66 (.type "BaseException") = some true := by kernel_rfl
theorem str54 (hu : A.in1.in1.units < cLine) (X : (K w.params).In s.heap) (G : Got news e t (.ref 54) [.str x tk]) (N : News h₀ L s.heap news) (hq : Q (.str x tk) s) : wpAny (MM w) A (call (.type "str") [.ref e]) Q E s := by
  obtain ⟨oe, ot, ws, nt, h1, h2, h3, h4, h5, h6, h7⟩ := G
  exact own_str hu X (find54 _) (mro54 _) (N _ h1).1 h3 h4 h5 (N _ h2).1 h7 hq
theorem str66 (hu : A.in1.in1.units < cLine) (X : (K w.params).In s.heap) (G : Got news e t (.ref 66) [.str x tk]) (N : News h₀ L s.heap news) (hq : Q (.str x tk) s) : wpAny (MM w) A (call (.type "str") [.ref e]) Q E s := by
  obtain ⟨oe, ot, ws, nt, h1, h2, h3, h4, h5, h6, h7⟩ := G
  exact own_str hu X (find66 _) (mro66 _) (N _ h1).1 h3 h4 h5 (N _ h2).1 h7 hq
end
end Mine
end
section
open PySem PySem.W PySem.Calls PyProof.Rows
open PySem.Sem (wp)
namespace Mine
/-! a logic for contexts that stand under claim.caller -/
noncomputable def hasC (l : List (Code × Pos)) : Bool := (l.map (·.1)).any Code.isCaller
noncomputable def wpC {α : Type} (M : Model) (A : Around) (t : Sem α) (Q : α → Shared → Prop) (E : Value → Shared → Prop) (s : Shared) : Prop :=
  ∀ Γ p, Γ.In A → hasC ((Γ.code, p) :: Γ.below) = true → wp M Γ t (fun a _ s' => Q a s') (fun e _ s' => E e s') p s
noncomputable def codeC (M : Model) (A : Around) (c : Code) (R : Result → Shared → Prop) (s : Shared) : Prop :=
  ∀ Γ p, Γ.code = c → Γ.Below A → hasC Γ.below = true → wpCode M Γ R p s
theorem hasC_pos (c : Code) (p p' : Pos) (l : List (Code × Pos)) : hasC ((c, p) :: l) = hasC ((c, p') :: l) := rfl
theorem hasC_cons (c : Code) (p : Pos) (l : List (Code × Pos)) (h : hasC l = true) : hasC ((c, p) :: l) = true := by
  show ((c.isCaller || (l.map (·.1)).any Code.isCaller)) = true
  rw [show (l.map (·.1)).any Code.isCaller = true from h, Bool.or_true]
section
variable {α β : Type} {M : Model} {A : Around} {E : Value → Shared → Prop} {s : Shared}
theorem toC {t : Sem α} {Q : α → Shared → Prop} (h : wpAny M A t Q E s) : wpC M A t Q E s := fun Γ p hΓ _ => h Γ p hΓ
theorem wpC_pure {a : α} {Q : α → Shared → Prop} (h : Q a s) : wpC M A (pure a) Q E s := toC (wpAny_pure h)
theorem wpC_mono {t : Sem α} {Q Q' : α → Shared → Prop} {E' : Value → Shared → Prop} (h : wpC M A t Q E s) (hQ : ∀ a s, Q a s → Q' a s) (hE : ∀ e s, E e s → E' e s) : wpC M A t Q' E' s :=
  fun Γ p hΓ hc => Sem.wp_mono M Γ t (fun a _ s => hQ a s) (fun e _ s => hE e s) p s (h Γ p hΓ hc)
theorem wpC_bind {m : Sem α} {f : α → Sem β} {Q : β → Shared → Prop} (h : wpC M A m (fun a s' => wpC M A (f a) Q E s') E s) : wpC M A (m >>= f) Q E s := fun Γ p hΓ hc => by
  rw [Sem.wp_bind']
  exact Sem.wp_mono M Γ m (fun a p' s' h' => h' Γ p' hΓ hc) (fun _ _ _ h' => h') p s (h Γ p hΓ hc)
theorem wpC_seq {m : Sem α} {f : α → Sem β} {Q : β → Shared → Prop} (h : wpAny M A m (fun a s' => wpC M A (f a) Q E s') E s) : wpC M A (m >>= f) Q E s := wpC_bind (toC h)
theorem wpC_onRaise {m : Sem α} {k : Value → Sem Unit} {Q : α → Shared → Prop} (h : wpC M A m Q (fun e s' => wpAny M A (k e) (fun _ s'' => E e s'') E s') s) : wpC M A (m.onRaise k) Q E s := fun Γ p hΓ hc => by
  rw [Sem.wp_onRaise]
  exact Sem.wp_mono M Γ m (fun _ _ _ h' => h') (fun e p' s' h' => h' Γ p' hΓ) p s (h Γ p hΓ hc)
theorem wpC_tryCatch {m : Sem α} {k : Value → Sem α} {Q : α → Shared → Prop} (h : wpC M A m Q (fun e s' => wpAny M A (k e) Q E s') s) : wpC M A (tryCatch m k) Q E s := fun Γ p hΓ hc => by
  rw [Sem.wp_tryCatch']
  exact Sem.wp_mono M Γ m (fun _ _ _ h' => h') (fun e p' s' h' => h' Γ p' hΓ) p s (h Γ p hΓ hc)
theorem wpC_attempt {m : Sem α} {Q : Except Value α → Shared → Prop} (h : wpC M A m (fun a => Q (.ok a)) (fun e => Q (.error e)) s) : wpC M A m.attempt Q E s := fun Γ p hΓ hc => by rw [Sem.wp_attempt]; exact h Γ p hΓ hc
theorem wpC_holding {vs : List Value} {m : Sem α} {Q : α → Shared → Prop} (h : wpC M A m Q E s) : wpC M A (holding vs m) Q E s := fun Γ p hΓ hc => by rw [Sem.wp_holding]; exact h Γ p hΓ hc
theorem wpC_keep {vs : List Value} {m : Sem α} {Q : α → Shared → Prop} (h : wpC M A m Q E s) : wpC M A (m.keep vs) Q E s := fun Γ p hΓ hc => by rw [Sem.wp_keep]; exact h Γ p hΓ hc
theorem wpC_standAt {pos : Pos} {f : Unit → Sem β} {Q : β → Shared → Prop} (h : wpC M A (f ()) Q E s) : wpC M A (standAt pos >>= f) Q E s := wpC_seq (wpAny_standAt h)
theorem wpC_runValue {c : Code} {Q : Value → Shared → Prop} (hc : codeC M A c (fun r s' => match r with | .ok (.ret v) => Q v s' | .ok _ => False | .error e => E e s') s) :
    wpC M A (runValue c) Q E s := fun Γ p hΓ h => by rw [Sem.wp_runValue]; exact hc _ p rfl (hΓ.enter c none p (by intro x; cases x)) h
theorem wpC_call {f : Value} {pos : List Value} {kw : List (Str × Value)} {Q : Value → Shared → Prop} (hc : codeC M A (.call f ⟨pos, kw⟩) (fun r s' => match r with | .ok (.ret v) => Q v s' | .ok _ => False | .error e => E e s') s) :
    wpC M A (call f pos kw) Q E s := wpC_runValue hc
theorem codeC_of_tree {c : Code} {R : Result → Shared → Prop}
    (h : wpC M (A.under c) (M.den c) (fun fin s' => match fin with | .done f => R (.ok f) s' | .again c' => c'.quiet = true ∧ codeC M A c' R s') (fun e s' => R (.error e) s') s) : codeC M A c R s := fun Γ p hc hΓ hC => by
  rw [wpCode_iff_wp, hc]
  refine Sem.wp_mono M Γ _ (fun fin p' s' h' => ?_) (fun _ _ _ h' => h') p s (h Γ p (hc ▸ hΓ.in) (hasC_cons _ _ _ hC))
  cases fin with
  | done f => exact h'
  | again c' => exact ⟨h'.1, h'.2 (Γ.goto c') p' rfl (hΓ.goto c') hC⟩
theorem weakenC {A' : Around} {t : Sem α} {Q : α → Shared → Prop} (h : wpC M A t Q E s) (h1 : A'.handled = A.handled) (h2 : A'.depth ≤ A.depth) (h3 : A'.frames = A.frames)
    (h4 : A'.guards = A.guards) (h5 : A'.units ≤ A.units) : wpC M A' t Q E s := fun Γ p hΓ hc =>
  h Γ p ⟨hΓ.1.trans h1, Nat.le_trans hΓ.2.1 h2, fun l hl => hΓ.2.2.1 l (h3.trans hl), fun g hg => hΓ.2.2.2.1 g (h4.trans hg), Nat.le_trans hΓ.2.2.2.2 h5⟩ hc
theorem wpC_execs_cons {st : Stmt} {rest : List Stmt} {env : Env} {Q : Flow → Shared → Prop}
    (h : wpC M A (exec st env) (fun f s' => match f with | .next => wpC M A (execs rest env) Q E s' | f => Q f s') E s) : wpC M A (execs (st :: rest) env) Q E s := fun Γ p hΓ hc => by
  rw [execs_cons, Sem.wp_bind']
  refine Sem.wp_mono M Γ _ (fun f p' s' h' => ?_) (fun _ _ _ h' => h') _ _ (h Γ p hΓ hc)
  cases f <;> first | exact h' Γ p' hΓ hc | exact h'
theorem wp_split {rest : List Stmt} {env : Env} {Q : Flow → Shared → Prop} (Γ : Ctx) (hΓ : Γ.In A) (hc : ∀ p, hasC ((Γ.code, p) :: Γ.below) = true) : ∀ (pre : List Stmt) (p : Pos) (s : Shared),
    wp M Γ (execs pre env) (fun f _ s' => match f with | .next => wpC M A (execs rest env) Q E s' | f => Q f s') (fun e _ s' => E e s') p s → wp M Γ (execs (pre ++ rest) env) (fun a _ s' => Q a s') (fun e _ s' => E e s') p s
  | [], p, s, h => by
    have h' : wpC M A (execs rest env) Q E s := h
    exact h' Γ p hΓ (hc p)
  | st :: pre, p, s, h => by
    show wp M Γ (execs (st :: (pre ++ rest)) env) _ _ p s
    rw [execs_cons, Sem.wp_bind'] at h ⊢
    refine Sem.wp_mono M Γ _ (fun f p' s' h' => ?_) (fun _ _ _ h' => h') _ _ h
    cases f with
    | next => exact wp_split Γ hΓ hc pre p' s' h'
    | _ => exact h'
/-- the statements ahead of a spine's are walked by wpAny -/
theorem wpC_execs_split {pre rest : List Stmt} {env : Env} {Q : Flow → Shared → Prop} (h : wpAny M A (execs pre env) (fun f s' => match f with | .next => wpC M A (execs rest env) Q E s' | f => Q f s') E s) :
    wpC M A (execs (pre ++ rest) env) Q E s := fun Γ p hΓ hc => wp_split Γ hΓ (fun _ => hc) pre p s (h Γ p hΓ)
end
/-! calls -/
section
variable {M : Model} {A : Around} {E : Value → Shared → Prop} {s : Shared}
theorem keeper_fn {a : Addr} {o : Obj} {fd : FuncData} {Q : Keeper → Shared → Prop} (ho : s.heap.get? a = some o) (hd : o.data = .func fd) (h : Q .frame s) : wpAny M A (keeperOf (.ref a)) Q E s := by
  unfold keeperOf
  refine wpAny_bind (wpAny_load ho ?_)
  rw [hd]
  exact wpAny_pure h
theorem markedC {mk f : Value} {pos : List Value} {kw : List (Str × Value)} {Q : Value → Shared → Prop} (h : wpC M A (call f pos kw) Q E s) : wpC M A (callMarked mk f pos kw) Q E s := by
  unfold callMarked
  exact wpC_keep h
theorem callWith_functionC {pos : Pos} {a : Addr} {o : Obj} {fd : FuncData} {first : List Value} {args : List (Bool × Sem Value)} {Q : Value → Shared → Prop}
    (h : wpAny M A (evalArgs (.ref a) true args []) (fun x s₁ => (s₁.heap.get? a = some o ∧ o.data = .func fd) ∧ wpC M A (call (.ref a) (first ++ x.pos) x.kw) Q E s₁) E s) :
    wpC M A (callWith pos (.ref a) first args []) Q E s := by
  unfold callWith
  refine wpC_bind (toC (wpAny_holding (wpAny_mono h (fun x s₁ h₁ => wpC_standAt ?_) fun _ _ x => x)))
  have tail : ∀ {t : Sem Value}, wpC M A t Q E s₁ → wpC M A (t >>= fun r => holding [r] point >>= fun _ => pure r) Q E s₁ :=
    fun ht => wpC_bind (wpC_mono ht (fun r s₂ hr => toC (wpAny_bind (wpAny_holding (wpAny_point (wpAny_pure hr))))) fun _ _ x => x)
  cases hs : (args.any (·.1) || ([] : List (Option Str × Sem Value)).any (·.1.isNone)) <;>
    refine wpC_seq (m := keeperOf (.ref a)) (keeper_fn h₁.1.1 h₁.1.2 ?_)
  all_goals
    dsimp only
    first
    | exact tail (markedC h₁.2)
    | exact tail h₁.2
    | (split <;> first | exact tail h₁.2 | exact tail (markedC h₁.2))
theorem Call_NameC {env : Env} {id : Str} {p pos : Pos} {args : List Expr} {keywords : List Keyword} {Q : Value → Shared → Prop}
    (h : wpAny M A (eval (.Name id p) env) (fun f s₁ => wpC M A (callWith pos f [] (backTo pos (starEach args env)) (backToKw pos (keywordEach keywords env))) Q E s₁) E s) :
    wpC M A (eval (.Call (.Name id p) args keywords pos) env) Q E s := by
  rw [arm_eval_Call_Name']
  exact wpC_seq h
theorem Return_C {e : Expr} {pos : Pos} {env : Env} {Q : Flow → Shared → Prop} (h : wpC M A (eval e env) (fun v s₁ => Q (.ret v) s₁) E s) : wpC M A (exec (.Return (some e) pos) env) Q E s := by
  rw [arm_exec_Return]
  refine wpC_standAt ?_
  show wpC M A (eval e env >>= fun v => pure (.ret v)) Q E s
  exact wpC_bind (wpC_mono h (fun v s₁ h₁ => wpC_pure h₁) fun _ _ x => x)
theorem Try_C {body orelse : List Stmt} {h₀ : ExceptHandler} {hs : List ExceptHandler} {pos : Pos} {env : Env} {Q : Flow → Shared → Prop}
    (h : wpC M A (execs body env) (fun f s₁ => match f with | .next => wpAny M A (execs orelse env) Q E s₁ | f => Q f s₁)
      (fun e s₁ => wpAny M A (noteFrame e env) (fun _ s₂ => wpAny M A (setFlight e none) (fun _ s₃ => wpAny M A (handleBy e env (h₀ :: hs)) Q E s₃) E s₂) E s₁) s) :
    wpC M A (exec (.Try body (h₀ :: hs) orelse [] pos) env) Q E s := by
  rw [arm_exec_Try]
  refine wpC_standAt ?_
  unfold tryStmt
  simp only [List.isEmpty_nil, if_true, List.isEmpty_cons, Bool.false_and, Bool.false_eq_true, if_false]
  refine wpC_bind (wpC_attempt (wpC_mono h (fun f s₁ h₁ => ?_) fun e s₁ h₁ => ?_))
  · cases f <;> first | exact toC h₁ | exact wpC_pure h₁
  · exact toC (wpAny_bind (wpAny_mono h₁ (fun _ _ h₂ => wpAny_bind h₂) fun _ _ x => x))
theorem If_C {test : Expr} {body orelse : List Stmt} {pos : Pos} {env : Env} {Q : Flow → Shared → Prop} (h : wpC M A (isTrue test env (eval test env)) (fun b s₁ => wpAny M A (if b then execs body env else execs orelse env) Q E s₁) E s) :
    wpC M A (exec (.If test body orelse pos) env) Q E s := by
  rw [arm_exec_If]
  refine wpC_standAt (wpC_bind (wpC_mono h (fun b s₁ h₁ => ?_) fun _ _ x => x))
  cases b <;> exact toC h₁
end
/-! a test that calls, an assignment that calls -/
section
variable {M : Model} {A : Around} {E : Value → Shared → Prop} {s : Shared} {env : Env}
theorem isTrue_Compare1C {l op r pos whole} {Q : Bool → Shared → Prop}
    (h : wpC M A (eval l env) (fun a s₁ => wpAny M A (eval r env) (fun b s₂ => wpAny M A (compareOp op a b) (fun c s₃ => wpAny M A (truthy c) Q E s₃) E s₂) E s₁) E s)
    (hm : behindInMarks op r = false := by with_unfolding_all rfl) : wpC M A (isTrue (.Compare l [op] [r] pos) env whole) Q E s := fun Γ p hΓ hC => by
  simp only [isTrue_Compare1, markedBehindIn_of_false hm, Sem.wp_bind', Sem.wp_holding, Sem.wp_cmd_standAt, Sem.wp_operate]
  exact Sem.wp_mono M Γ _ (fun a p₁ s₁ h₁ => Sem.wp_mono M Γ _ (fun b _ s₂ h₂ => Sem.wp_mono M Γ _ (fun c p₃ s₃ h₃ => h₃ Γ p₃ hΓ)
    (fun _ _ _ h' => h') _ _ (h₂ Γ _ hΓ)) (fun _ _ _ h' => h') _ _ (h₁ Γ p₁ hΓ)) (fun _ _ _ h' => h') _ _ (h Γ p hΓ hC)
theorem Assign_NameC {x pos' value pos} {Q : Flow → Shared → Prop}
    (h : wpC M A (eval value env) (fun v s₁ => wpAny M A (storeName env x v) (fun _ s₂ => Q .next s₂) E s₁) E s)
    (hs : swapsWith value (some (.Name x pos')) pos.line env = pure false := by rfl) :
    wpC M A (exec (.Assign [.Name x pos'] value pos) env) Q E s := fun Γ p hΓ hC => by
  simp only [exec_Assign_Name env x pos' value pos hs, Sem.wp_bind', Sem.wp_cmd_standAt, Sem.wp_bindName, Sem.wp_pure']
  exact Sem.wp_mono M Γ _ (fun v _ s₁ h₁ => h₁ Γ _ hΓ) (fun _ _ _ h' => h') _ _ (h Γ _ hΓ hC)
theorem run_C {c : Code} {hd : Option Value} {Q : Flow → Shared → Prop} (hc : codeC M (A.mark hd) c (fun r s' => match r with | .ok f => Q f s' | .error e => E e s') s) (hnb : hd ≠ some byPass) : wpC M A (run c hd) Q E s := fun Γ p hΓ h => by
  have := hc _ p rfl (hΓ.enter c hd p hnb) h
  rw [Sem.wp_run]
  exact this
theorem runOwn_C {c : Code} {Q : Flow → Shared → Prop} (hc : codeC M A c (fun r s' => match r with | .ok f => Q f s' | .error e => cameBackBy M A env E e s') s) : wpC M A (runOwn c env) Q E s := by
  unfold runOwn
  refine wpC_onRaise (run_C ?_ (by intro x; cases x))
  rw [Around.mark_none]
  exact hc
theorem For_C {target iter body orelse pos} {Q : Flow → Shared → Prop}
    (h : wpAny M A (eval iter env) (fun x s₁ => wpAny M A (pyIter x) (fun it s₂ =>
      codeC M A (.forLoop target it body orelse env) (fun r s' => match r with | .ok f => Q f s' | .error e => cameBackBy M A env E e s') s₂) E s₁) E s)
    (hs : ∀ x, foldedSetIterable iter env x = pure x := by intro _; rfl) : wpC M A (exec (.For target iter body orelse pos) env) Q E s := by
  rw [exec_For]
  exact wpC_standAt (wpC_seq (wpAny_mono h (fun x s₁ h₁ => wpC_seq (wpAny_of_eq (hs x) (wpC_standAt (wpC_seq (wpAny_holding (wpAny_mono h₁ (fun it s₂ h₂ => runOwn_C h₂) fun _ _ h' => h')))))) fun _ _ h' => h'))
end
section
variable {prog : Program} {w : World} {A : Around} {s : Shared} {R : Result → Shared → Prop}
theorem forTurn_C {target it body orelse env}
    (h : wpAny (model prog w) A (pyNext it) (fun r s₁ => match r with
      | none => wpAny (model prog w) A (execs orelse env) (fun f s₃ => R (.ok f) s₃) (notedBy (model prog w) A env fun e s' => R (.error e) s') s₁
      | some v => wpAny (model prog w) A (letOwnedTupleGo target it v) (fun _ s₁' =>
          wpAny (model prog w) A (assign target env v) (fun _ s₂ => wpC (model prog w) A (execs body env) (fun f s₃ => match f with
            | .next | .cont => codeC (model prog w) A (.forLoop target it body orelse env) R s₃
            | .brk => R (.ok .next) s₃
            | .ret v => R (.ok (.ret v)) s₃) (notedBy (model prog w) A env fun e s' => R (.error e) s') s₂) (notedBy (model prog w) A env fun e s' => R (.error e) s') s₁') (notedBy (model prog w) A env fun e s' => R (.error e) s') s₁) (notedBy (model prog w) A env fun e s' => R (.error e) s') s) :
    codeC (model prog w) A (.forLoop target it body orelse env) R s := by
  refine codeC_of_tree ?_
  show wpC _ A ((forTurn target it body orelse env).onRaise (fun x => do noteFrame x env; theTreesLotGoes x)) _ _ s
  refine wpC_onRaise (wpC_mono (Q := (fun fin s' => match fin with | .done f => R (.ok f) s' | .again c' => c'.quiet = true ∧ codeC (model prog w) A c' R s')) (E := notedBy (model prog w) A env fun e s' => R (.error e) s') ?_ (fun _ _ q => q) fun _ _ hx => wpAny_bind (wpAny_mono hx (fun _ _ e => wpAny_theTreesLotGoes e) fun _ _ e => e))
  simp only [forTurn]
  refine wpC_standAt (wpC_seq (wpAny_onRaise (wpAny_mono h (fun r s₁ h₁ => ?_) fun _ _ h' => wpAny_standAt h')))
  cases r with
  | none => exact wpC_pure ⟨rfl, fun Γ p hc hΓ _ => codeAny_block h₁ Γ p hc hΓ⟩
  | some v =>
    refine wpC_seq (wpAny_mono h₁ (fun _ s₁' h₁' => ?_) fun _ _ h' => h')
    refine wpC_seq (wpAny_mono h₁' (fun _ s₂ h₂ => wpC_bind (wpC_mono h₂ (fun f s₃ h₃ => ?_) fun _ _ h' => h')) fun _ _ h' => h')
    cases f with
    | next => exact wpC_pure ⟨rfl, h₃⟩
    | cont => exact wpC_pure ⟨rfl, h₃⟩
    | brk => exact wpC_pure h₃
    | ret v => exact wpC_pure h₃
end
/-! defs -/
section
variable {prog : Program} {w : World} {A : Around} {s : Shared} {R : Result → Shared → Prop}
theorem codeC_func {body : List Stmt} {env : Env}
    (h : wpC (model prog w) (A.deeper env) (execs body env) (fun f s' => R (.ok (.ret (match f with | .ret v => v | _ => .none))) s')
      (fun e s' => wpAny (model prog w) (A.deeper env) (leaving env e) (fun _ s'' => R (.error e) s'') (fun e' s'' => R (.error e') s'') s') s) :
    codeC (model prog w) A (.func body env) R s := by
  refine codeC_of_tree ?_
  show wpC _ (A.deeper env) (do point; match ← (execs body env).onRaise (leaving env) with | .ret v => ret v | _ => ret .none) _ _ s
  refine wpC_seq (wpAny_point (wpC_bind ?_))
  intro Γ p hΓ hc
  rw [Sem.wp_onRaise]
  refine Sem.wp_mono _ Γ _ (fun f p' s' h' => ?_) (fun e p' s' h' => h' Γ p' hΓ) p s (h Γ p hΓ hc)
  cases f <;> exact wpC_pure h'
theorem codeC_call_function {a : Addr} {args : Args} {o : Obj} {fd : FuncData} {body : List Stmt} (hroom : A.depth < recursionLimit) (ho : s.heap.get? a = some o)
    (hd' : o.data = .func fd) (hco : fd.scope.isCoroutine = false) (hgen : fd.scope.isGenerator = false) (hbody : fd.body = .stmts body) (hcd : s.heap.CodeRec fd.code fd.qualname)
    (h : wpAny (model prog w) A.in1 (bindArgs fd args) (fun binds s₁ =>
      wpAny (model prog w) A.in1 (newFunctionEnv fd.scope fd.globals fd.closure binds (fd.qualname ++ ".<locals>.") (some a) fd.code none fd.builtins)
        (fun env s₂ => s₂.heap.NoLimit ∧ codeC (model prog w) A (.func body env) R s₂) (fun e s' => R (.error e) s') s₁) (fun e s' => R (.error e) s') s) :
    codeC (model prog w) A (.call (.ref a) args) R s := by
  refine codeC_of_tree ?_
  show wpC _ A.in1 (callAny (.ref a) args) _ _ s
  simp only [callAny]
  refine wpC_seq (wpAny_load ho ?_)
  obtain ⟨c, oc, vs, tq, hc, hoc, hdc, hq⟩ := hcd
  simp only [hd', callFunction, hco, hgen, hbody, hc]
  rw [hc] at h
  refine wpC_seq (m := field (.ref c) 1) (wpAny_field hoc hdc hq (wpC_seq (wpAny_pure ?_)))
  exact wpC_seq (wpAny_mono h (fun binds s₁ h₁ => wpC_seq (wpAny_mono h₁ (fun env s₂ h₂ => wpC_seq (wpAny_enterFrame h₂.1 hroom (wpC_pure (And.intro rfl h₂.2)))) fun _ _ h' => h')) fun _ _ h' => h')
theorem codeC_call_def {a : Addr} {o : Obj} {fd : FuncData} {body : List Stmt} {args : Args} {binds : List (Str × Value)}
    (hroom : A.depth < recursionLimit) (ho : s.heap.get? a = some o) (hdata : o.data = .func fd) (hlim : s.heap.NoLimit) (hcd : s.heap.CodeRec fd.code fd.qualname)
    (hbody : fd.body = .stmts body) (hbind : BindsTo s fd args binds) (hcell : ∀ x ∈ fd.scope.names, x.2 ≠ .cell) (hloc : ∀ x ∈ binds, fd.scope.names.lookup x.1 = some .local)
    (h : ∀ h₀, h₀.Ns s.heap.objs.size (fun x => binds.reverse.lookup x) → (∀ b o, s.heap.get? b = some o → h₀.get? b = some o) →
      wpC (model prog w) (A.deeper (callEnv fd s.heap.objs.size a)) (execs body (callEnv fd s.heap.objs.size a)) (fun f s' => R (.ok (.ret (match f with | .ret v => v | _ => .none))) s')
        (fun e s' => wpAny (model prog w) (A.deeper (callEnv fd s.heap.objs.size a)) (leaving (callEnv fd s.heap.objs.size a) e) (fun _ s'' => R (.error e) s'') (fun e' s'' => R (.error e') s'') s')
        { s with heap := h₀, toks := s.toks + binds.length })
    (hco : fd.scope.isCoroutine = false := by rfl) (hgen : fd.scope.isGenerator = false := by rfl) (hk : fd.scope.kind = .function := by rfl) :
    codeC (model prog w) A (.call (.ref a) args) R s := by
  refine codeC_call_function hroom ho hdata hco hgen hbody hcd (hbind _ _ _ _ ?_)
  refine wpAny_newFunctionEnv hcell hloc (fun h₀ hns₀ hsb₀ => ⟨hlim.fresh _ hsb₀, codeC_func (h h₀ hns₀ fun b o e => ?_)⟩) hk
  exact hsb₀.extBut b o (Nat.ne_of_lt (Heap.lt_size e)) (Heap.get?_push_of_some _ e)
end
end Mine
end
section
open PySem PySem.W PySem.NumText PySem.Calls PyProof.Rows
open PySem.Sem (wp)
open PySem.Builtin PySem.Builtin.Int PySem.Builtin.Bytes
namespace Mine
section
variable {M : Model} {A : Around} {E : Value → Shared → Prop} {s : Shared} {env : Env}
theorem callWith_typeC {pos : Pos} {T : String} {args : List (Bool × Sem Value)} {Q : Value → Shared → Prop} (hany : args.any (·.1) = false)
    (h : wpAny M A (evalArgs (.type T) true args []) (fun x s₁ => wpC M A (call (.type T) x.pos x.kw) Q E s₁) E s) :
    wpC M A (callWith pos (.type T) [] args []) Q E s := by
  unfold callWith
  refine wpC_seq (wpAny_holding (wpAny_mono h (fun x s₁ h₁ => wpC_standAt ?_) fun _ _ x => x))
  rw [hany]
  refine wpC_seq (m := keeperOf (.type T)) (wpAny_pure ?_)
  dsimp only
  exact wpC_bind (wpC_mono h₁ (fun r s₂ hr => toC (wpAny_bind (wpAny_holding (wpAny_point (wpAny_pure hr))))) fun _ _ x => x)
end
section
variable {prog : Program} {w : World} {A : Around} {E : Value → Shared → Prop} {s : Shared} {x : PySem.Str} {t : Tok}
theorem codeC_builtin {id : String} {args : Args} {b : Builtin} {R : Result → Shared → Prop} (hb : entryFor table id = some b)
    (h : wpC (model prog w) (A.under (.builtin id args)) (b args) (fun fin s' => match fin with | .done f => R (.ok f) s' | .again c' => c'.quiet = true ∧ codeC (model prog w) A c' R s') (fun e s' => R (.error e) s') s) :
    codeC (model prog w) A (.builtin id args) R s := by
  refine codeC_of_tree ?_
  have e : (model prog w).den (.builtin id args) = b args := by
    show denote table (.builtin id args) = _
    simp [denote, hb]
  rw [e]
  exact h
theorem fromObject_tree (x : PySem.Str) (t : Tok) : ∃ f, (int_private% "intFromObject") (.str x t) = (callSpecial? (.str x t) "__int__" >>= f) ∧
    ∃ g, f none = (specialOf (.str x t) "__index__" >>= g) ∧ ∃ k, g none = (specialOf (.str x t) "__trunc__" >>= k) ∧ ∃ l, k none = ((int_private% "numeralText?") (.str x t) >>= l) ∧ ∀ text, l (some text) = (int_private% "intFromText") (.str x t) text 10 :=
  ⟨_, rfl, _, rfl, _, rfl, _, rfl, fun _ => rfl⟩
theorem numeralText_str (x : PySem.Str) (t : Tok) : (int_private% "numeralText?") (.str x t) = pure (some (numTextOf x)) := rfl
theorem fromText_tree (x : PySem.Str) (t : Tok) (text : List Nat) (hr : (int_private% "readNumeral") 0 10 (text.takeWhile (· != 0)) = (int_private% "Numeral.invalid") ∨
      ∃ i, (int_private% "readNumeral") 0 10 (text.takeWhile (· != 0)) = (int_private% "Numeral.value") i ∧ ¬ ((text.takeWhile (· != 0)).length == text.length) = true) :
    ∃ (f : Nat → Sem Value) (g : Sem Value), (int_private% "intFromText") (.str x t) text 10 = (if (text.takeWhile (· != 0)).length ≤ 640 then (pure 0 >>= f) else g) ∧ ∃ k : Unit → Sem Value, f 0 = (rule "int.__new__.invalid-literal" >>= k) ∧ ∃ m : PySem.Str → Sem Value, k () = (pyRepr (.str x t) >>= m) ∧ ∀ shown : PySem.Str, ∃ o : Value → Sem Value, m shown = (mkStr (Str.ofString (s!"invalid literal for int() with base {10}: ") ++ ⟨shown.cps.extract 0 200⟩) >>= o) ∧
        ∀ msg, o msg = (newExc (.type "ValueError") [msg] >>= fun e => markTheRefusal ["int.__new__"] e >>= fun _ => raiseNew e) := by
  rcases hr with hr | ⟨i, hr, hne⟩
  · refine ⟨_, _, rfl, ?_⟩
    dsimp only
    rw [hr]
    exact ⟨_, rfl, _, rfl, fun shown => ⟨_, rfl, fun msg => rfl⟩⟩
  · refine ⟨_, _, rfl, ?_⟩
    dsimp only
    rw [hr]
    dsimp only
    rw [if_neg hne]
    exact ⟨_, rfl, _, rfl, fun shown => ⟨_, rfl, fun msg => rfl⟩⟩
theorem not_madeBy (own : List String) (l : List Code) (h : l.any Code.isCaller = true) : pythonCodeMadeTheCall own l = false := by
  show (((!(l.any Code.isCaller)) && _) && _) = false
  rw [h]
  rfl
theorem markC {own : List String} {e : Value} {Q : Unit → Shared → Prop} (h : Q () s) : wpC (model prog w) A (markTheRefusal own e) Q E s := fun Γ p hΓ hC => by
  unfold markTheRefusal
  rw [Sem.wp_bind']
  show wp _ Γ (if pythonCodeMadeTheCall own (((Γ.code, p) :: Γ.below).map (·.1)) = true then _ else _) _ _ p s
  have e : pythonCodeMadeTheCall own (((Γ.code, p) :: Γ.below).map (·.1)) = false := not_madeBy _ _ hC
  rw [e]
  exact h
theorem int_raisesC (hn : PySem.intText? x = none) (hl : x.length ≤ 640) (hch : ∀ c ∈ x.cps.toList, c < 16 ^ 8) (hh : A.handled = none) (Q : Value → Shared → Prop) (hE : ∀ h' tk e m, Heap.MadeExc s.heap h' e "ValueError" [m] → E (.ref e) { s with heap := h', toks := tk }) :
    wpC (model prog w) A (call (.type "int") [.str x t]) Q E s := by
  refine wpC_call (codeC_of_tree ?_)
  show wpC _ _ (callAny (.type "int") _) _ _ _
  refine wpC_pure ⟨Code.quiet_builtin _ (by decide +kernel), codeC_builtin F.entry_type_call ?_⟩
  have ft := F.called_int
  rw [Around.under_plain (weight_type_call_type "int" [.str x t] []) rfl]
  have h1 := ft.notType
  have h2 := ft.canCreate
  unfold Builtin.«type.__call__»
  dsimp only
  rw [h1, if_neg Bool.false_ne_true]
  rw [h2, if_neg Bool.false_ne_true]
  obtain ⟨c, tl, hmro⟩ := ft.mro
  refine wpC_seq (wpAny_of_eq (F.typeCall_int_1 _) ?_)
  refine wpC_seq (wpAny_of_eq hmro ?_)
  rw [if_neg (by simp)]
  refine wpC_seq (wpAny_of_eq ft.made ?_)
  dsimp only
  refine wpC_seq (wpAny_pure ?_)
  refine wpC_bind (wpC_holding (wpC_call (codeC_of_tree ?_)))
  show wpC _ _ (do checkBuiltinCall "int.__new__" ⟨[.type "int", .str x t], []⟩; again (.builtin "int.__new__" ⟨[.type "int", .str x t], []⟩)) _ _ s
  refine wpC_seq (wpAny_of_eq (F.newCall_int_1 _) (wpC_pure ⟨plainId_quiet (by decide +kernel) _, codeC_builtin F.entry_int_new ?_⟩))
  rw [Around.under_plainId (by decide +kernel) _]
  unfold Builtin.«int.__new__»
  dsimp only
  refine wpC_seq (wpAny_of_eq (show isType (.type "int") = pure true from rfl) ?_)
  rw [if_neg (by simp)]
  refine wpC_seq (wpAny_of_eq F.conv_sub_int ?_)
  rw [if_neg (by simp)]
  refine wpC_seq (wpAny_of_eq F.madeHere_int ?_)
  rw [if_neg (by simp)]
  rw [if_neg (by simp)]
  refine wpC_seq (wpAny_of_eq (by rfl) ?_)
  show wpC _ _ ((int_private% "intFromObject") (.str x t) >>= _) _ _ _
  refine wpC_bind ?_
  obtain ⟨f, e1, g, e2, k, e3, l, e4, e5⟩ := fromObject_tree x t
  rw [e1]
  refine wpC_seq ?_
  unfold callSpecial?
  refine wpAny_bind (wpAny_specialOf (typeIs_str _ _ _) KIN.str_int (wpAny_pure ?_))
  rw [e2]
  refine wpC_seq (wpAny_specialOf (typeIs_str _ _ _) KIN.str_idx ?_)
  rw [e3]
  refine wpC_seq (wpAny_specialOf (typeIs_str _ _ _) KIN.str_trunc ?_)
  rw [e4]
  refine wpC_seq (wpAny_of_eq (numeralText_str x t) ?_)
  rw [e5]
  have hs : (numSeenOf x).length ≤ 640 := Nat.le_trans (seen_length x) hl
  have hr := (read0 x hs).resolve_left (by rintro ⟨n, h, _⟩; rw [hn] at h; cases h)
  obtain ⟨f', g', q1, k', q2, m, q3, q4⟩ := fromText_tree x t (numTextOf x) hr.2
  rw [q1, if_pos hs]
  refine wpC_seq (wpAny_pure ?_)
  rw [q2]
  refine wpC_seq (wpAny_rule ?_)
  rw [q3]
  refine wpC_seq (wpAny_pyRepr_str ?_ ?_)
  · obtain ⟨o, q5, q6⟩ := q4 (reprText x)
    rw [q5]
    refine wpC_seq (wpAny_mkStr ?_ ?_)
    · rw [q6]
      refine wpC_seq (wpAny_newExc_plain ?_ fun h' e he => ?_)
      · exact plainExc_ValueError
      · refine wpC_bind (markC ?_)
        refine toC (wpAny_raiseNew_none ?_ ?_)
        · exact hh
        · exact hE _ _ _ _ he
    · have hz := StrLaws.reprText_len x hch
      show (_ ++ (⟨_⟩ : PySem.Str)).length ≤ sizeLine
      rw [PySem.Str.length_append]
      have h1 : (⟨(reprText x).cps.extract 0 200⟩ : PySem.Str).length ≤ 200 := by
        show ((reprText x).cps.extract 0 200).size ≤ 200
        simp
        omega
      have h2 : (Str.ofString (s!"invalid literal for int() with base {10}: ")).length ≤ 1000 := by decide +kernel
      unfold sizeLine
      omega
  · have hz := StrLaws.reprText_len x hch
    unfold sizeLine
    omega
end
end Mine
end
section
open PySem PySem.W PySem.Calls PyProof.Rows
namespace Mine
section
variable {w : World} {mean : ExcName → Option Value} {mg mb : Str → Option Value}
theorem enterC {A : Around} {s : Shared} {R : Result → Shared → Prop} {name qual : Str} {params : Arguments} {body : List Stmt} {scope : Scope} {dV kV doc pm cdv ct oc : Value} {an od : Option Addr} {osl : Array (Option Value)} {f : Addr} {args : Args} {binds : List (Str × Value)}
    (X : (K w.params).In s.heap) (T : TopK mean mg mb s.heap) (ho : (K w.params).lookup f = some ⟨oc, od, .func (fnOf name qual params body scope dV kV doc pm an cdv ct), osl⟩) (hcd : codeIn (K w.params) cdv qual = true) (hroom : A.depth < recursionLimit)
    (hbind : BindsTo s (fnOf name qual params body scope dV kV doc pm an cdv ct) args binds) (hloc : ∀ y ∈ binds, scope.names.lookup y.1 = some .local)
    (h : ∀ h₁, Fr s.heap s.heap.objs.size h₁ (fun y => binds.reverse.lookup y) → News s.heap s.heap.objs.size h₁ [] →
      wpC (MM w) (A.deeper (envOf qual scope s.heap.objs.size f cdv)) (execs body (envOf qual scope s.heap.objs.size f cdv))
        (fun fl s' => R (.ok (.ret (match fl with | .ret v => v | _ => .none))) s')
        (fun e s' => wpAny (MM w) (A.deeper (envOf qual scope s.heap.objs.size f cdv)) (leaving (envOf qual scope s.heap.objs.size f cdv) e) (fun _ s'' => R (.error e) s'') (fun e' s'' => R (.error e') s'') s')
        { s with heap := h₁, toks := s.toks + binds.length })
    (hco : scope.isCoroutine = false) (hgen : scope.isGenerator = false) (hk : scope.kind = .function) (hcell : ∀ x ∈ scope.names, x.2 ≠ .cell) :
    codeC (MM w) A (.call (.ref f) args) R s :=
  codeC_call_def (fd := fnOf name qual params body scope dV kV doc pm an cdv ct) (body := body) (binds := binds) hroom (X _ _ ho) rfl T.nolimit (codeRec_of X hcd) rfl hbind hcell hloc
    (fun h₁ hns hk₁ => h h₁ ⟨hns, hk₁, Nat.le_refl _⟩ News.nil) hco hgen hk
noncomputable def LeafC (h₀ : Heap) (L : Addr) (m : Str → Option Value) (g : Heap) (L' : Addr) (R : Result → Shared → Prop) (v : Value) (s' : Shared) : Prop :=
  ∃ m' news', Fr g L' s'.heap m' ∧ News g L' s'.heap news' ∧ (Fr h₀ L s'.heap m → News h₀ L s'.heap news' → R (.ok (.ret v)) s')
/-- a def called from a def, under the caller: what the caller holds stays apart -/
theorem enterInC {A₀ A : Around} {s : Shared} {base h₀ : Heap} {outer : List Env} {L a : Addr} {m : Str → Option Value} {cn : Str} {cs : Scope} {ccd : Value} {news : List (Addr × Obj)}
    {R : Result → Shared → Prop} {name qual : Str} {params : Arguments} {body : List Stmt} {scope : Scope} {dV kV doc pm cdv ct oc : Value} {an od : Option Addr} {osl : Array (Option Value)} {f : Addr} {args : Args} {binds : List (Str × Value)}
    (B : Below A₀ base outer h₀) (F : Fr h₀ L s.heap m) (N : News h₀ L s.heap news) (X₀ : (K w.params).In h₀) (T : TopK mean mg mb h₀) (D : KtsDicts (outer.filterMap (·.frame)) h₀) (hA : A.frames = some (envOf cn cs L a ccd :: outer))
    (ho : (K w.params).lookup f = some ⟨oc, od, .func (fnOf name qual params body scope dV kV doc pm an cdv ct), osl⟩) (hcd : codeIn (K w.params) cdv qual = true) (hroom : A.depth < recursionLimit)
    (hbind : BindsTo s (fnOf name qual params body scope dV kV doc pm an cdv ct) args binds) (hloc : ∀ y ∈ binds, scope.names.lookup y.1 = some .local)
    (h : ∀ g L' h₁, Fr h₀ L g m → Fr g L' h₁ (fun y => binds.reverse.lookup y) → News g L' h₁ news → Below A base (envOf cn cs L a ccd :: outer) g → (K w.params).In g → TopK mean mg mb g → KtsDicts ((envOf cn cs L a ccd :: outer).filterMap (·.frame)) g →
      wpC (MM w) (A.deeper (envOf qual scope L' f cdv)) (execs body (envOf qual scope L' f cdv))
        (fun fl s' => LeafC h₀ L m g L' R (match fl with | .ret v => v | _ => .none) s')
        (fun e s' => wpAny (MM w) (A.deeper (envOf qual scope L' f cdv)) (leaving (envOf qual scope L' f cdv) e) (fun _ s'' => R (.error e) s'') (fun e' s'' => R (.error e') s'') s')
        { s with heap := h₁, toks := s.toks + binds.length })
    (hck : cs.kind = .function) (hco : scope.isCoroutine = false) (hgen : scope.isGenerator = false) (hk : scope.kind = .function)
    (hcell : ∀ x ∈ scope.names, x.2 ≠ .cell) : codeC (MM w) A (.call (.ref f) args) R s := by
  have X := X₀.keeps F.keep
  refine codeC_call_def (fd := fnOf name qual params body scope dV kV doc pm an cdv ct) (body := body) (binds := binds) hroom (X _ _ ho) rfl (T.nolimit.keeps F.keep) (codeRec_of X hcd) rfl hbind hcell hloc (fun h₁ hns hk₁ => ?_) hco hgen hk
  obtain ⟨oL, es, ep, hLg, hLd, hN, hNs, st, B₂⟩ := kts_enter B F N hA hck
  refine wpC_mono (h _ s.heap.objs.size h₁ ⟨hN _ hLg, st, F.above⟩ ⟨hns, fun b o e => hk₁ b o (of_hideAll _ e), Nat.le_of_eq (hideAll_size _ _)⟩
    (fun p hp => ⟨hk₁ _ _ (N p hp).1, Nat.ne_of_lt (Heap.lt_size (N p hp).1), hideAll_none _ (List.mem_map_of_mem hp)⟩) B₂ (X₀.keeps st) (T.keeps st) (fun b hb => by
      rcases kts_mem hb with rfl | hb
      · exact ⟨oL, es, ep, hLg, hLd⟩
      · obtain ⟨o, es', n', ho', hd'⟩ := D b hb
        exact ⟨o, es', n', st b o ho', hd'⟩)) (fun fl s' hl => ?_) fun _ _ y => y
  obtain ⟨m', news', F', N', k⟩ := hl
  refine k ⟨hN _ (F'.keep _ _ hLg), fun b o e => F'.keep b o (st b o e), F.above⟩ fun p hp => ⟨(N' p hp).1, fun q => ?_, ?_⟩
  · have := (N' p hp).2.2
    rw [q, hLg] at this
    cases this
  · cases q : h₀.get? p.1 with
    | none => rfl
    | some o =>
      have := (N' p hp).2.2
      rw [st _ _ q] at this
      cases this
end
end Mine
end
local macro_rules | `(tactic| walk_at "idle 4") => `(tactic| fail)
local macro_rules | `(tactic| walk_at "idle 5") => `(tactic| fail)
local macro_rules | `(tactic| walk_at "idle 6") => `(tactic| fail)
section
open PySem PySem.W PySem.Calls PyProof.Rows
namespace Mine
local macro_rules | `(tactic| k_room) => `(tactic| exact Nat.le_of_ble_eq_true rfl)
theorem fill_askC : (K = K ∧ PySem.Challenge.rw_tr0051_01 = PySem.Challenge.rw_tr0051_01) → True := by
  k_fill
  intro _
  trivial
theorem asked_facts (x : Str) (h1 : ¬ Txt.find x (Str.ofString "(") < 0) (h2 : ¬ Txt.find3 x (Str.ofString ")") (Txt.find x (Str.ofString "(") + 1) < 0) :
    0 ≤ Txt.find x (Str.ofString "(") ∧ Txt.find x (Str.ofString "(") + 1 ≤ Txt.find3 x (Str.ofString ")") (Txt.find x (Str.ofString "(") + 1) ∧ Txt.find3 x (Str.ofString ")") (Txt.find x (Str.ofString "(") + 1) < x.length := by
  have e1 : Str.ofString "(" = ⟨#[40]⟩ := by decide +kernel
  have e2 : Str.ofString ")" = ⟨#[41]⟩ := by decide +kernel
  rw [find_is_find3, e1, e2] at h2
  rw [find_is_find3, e1] at h1
  rw [find_is_find3, e1, e2]
  rcases StrLaws.find3_spec x 40 0 with ⟨h, _⟩ | ⟨k, h, r⟩
  · rw [h] at h1; omega
  · rw [h] at h1 h2 ⊢
    rcases StrLaws.find3_spec x 41 ((k : Int) + 1) with ⟨h', _⟩ | ⟨k', h', r'⟩
    · rw [h'] at h2; omega
    · rw [h']
      obtain ⟨r1, r2, _⟩ := r'
      unfold PySem.fromIndex at r1
      rw [if_neg (by omega)] at r1
      have := Int.le_max_right 0 ((k : Int) + 1)
      omega
local macro_rules | `(tactic| walk_at "subscriptTail Name BinOp str int") => `(tactic| (have hAsk := asked_facts _ (by assumption) (by assumption); refine KXi.item rfl (by omega) (by omega) (by omega) ?_; intro hItem))
local macro_rules | `(tactic| walk_at "call type:str") => `(tactic| first | refine str54 (by k_units) (by k_in) (by assumption) (by assumption) ?_ | refine str66 (by k_units) (by k_in) (by assumption) (by assumption) ?_)
theorem callWithK {w : World} {A : Around} {E : Value → Shared → Prop} {s : Shared} {env : Env} {f : Addr} {o : Obj} {fd : FuncData} {pos : Pos} {e : Expr} {rest : List Expr} {Q : Value → Shared → Prop} (hl : (K w.params).lookup f = some o) (hd : o.data = .func fd)
    (h : wpAny (MM w) A (spliced (backTo pos (starEach (e :: rest) env))) (fun vs s₁ => (K w.params).In s₁.heap ∧ wpC (MM w) A (call (.ref f) vs) Q E s₁) E s)
    (he : starEach (e :: rest) env = (false, eval e env) :: starEach rest env := by rfl) : wpC (MM w) A (callWith pos (.ref f) [] (backTo pos (starEach (e :: rest) env)) []) Q E s := by
  rw [he] at h ⊢
  exact callWith_functionC (Calls.evalArgs_plain (wpAny_mono h (fun vs s₁ h₁ => ⟨⟨h₁.1 _ _ hl, hd⟩, h₁.2⟩) fun _ _ e => e))
theorem callWith_typeK {M : Model} {A : Around} {E : Value → Shared → Prop} {s : Shared} {env : Env} {T : String} {pos : Pos} {e : Expr} {rest : List Expr} {Q : Value → Shared → Prop}
    (h : wpAny M A (spliced (backTo pos (starEach (e :: rest) env))) (fun vs s₁ => wpC M A (call (.type T) vs) Q E s₁) E s)
    (he : starEach (e :: rest) env = (false, eval e env) :: starEach rest env := by rfl) (hplain : (backTo pos (starEach rest env)).any (·.1) = false := by rfl) : wpC M A (callWith pos (.type T) [] (backTo pos (starEach (e :: rest) env)) []) Q E s := by
  rw [he] at h ⊢
  exact callWith_typeC (by show (false || (backTo pos (starEach rest env)).any (·.1)) = false; rw [hplain]; rfl) (Calls.evalArgs_plain h)
theorem wpC_execs_at {M : Model} {A : Around} {E : Value → Shared → Prop} {s : Shared} (n : Nat) {body : List Stmt} {env : Env} {Q : Flow → Shared → Prop}
    (h : wpAny M A (execs (body.take n) env) (fun f s' => match f with | .next => wpC M A (execs (body.drop n) env) Q E s' | f => Q f s') E s) : wpC M A (execs body env) Q E s := by
  have := wpC_execs_split (rest := body.drop n) h
  rw [List.take_append_drop] at this
  exact this
/-- the spec of a def that catches: the frames above it may get other slots -/
noncomputable def KeptBut (fs : List Addr) (h h' : Heap) : Prop := (∀ b o, h.get? b = some o → b ∉ fs → h'.get? b = some o) ∧ h.UpToSlots h'
noncomputable def SpecX (w : World) (mean : ExcName → Option Value) (mg mb : Str → Option Value) (n : Nat) (f : Addr) (vs : List Value) (Post : Heap → Value → Heap → Prop) : Prop :=
  ∀ (base : Heap) (outer : List Env) (s : Shared) (Q E : Value → Shared → Prop), Below (Lv n outer) base outer s.heap → (K w.params).In base → TopK mean mg mb base → KtsDicts (outer.filterMap (·.frame)) s.heap →
    (∀ v h' tk', KeptBut (outer.filterMap (·.frame)) s.heap h' → base.StaysIn h' → Post s.heap v h' → Q v { s with heap := h', toks := tk' }) → wpC (MM w) (Lv n outer) (call (.ref f) vs) Q E s
/-- what _law_asked answers on a text -/
inductive Ans where
  | reply | proto | value
  | ok (p : Int)
noncomputable abbrev pL (x : Str) : Int := Txt.find x (Str.ofString "(") + 1
noncomputable abbrev pR (x : Str) : Int := Txt.find3 x (Str.ofString ")") (Txt.find x (Str.ofString "(") + 1)
noncomputable abbrev pParts (x : Str) : List Str := Txt.split (Txt.slice x (some (pL x)) (some (pR x))) (Txt.item x (pL x))
noncomputable def AnsAt (h : Heap) (v : Value) : Ans → Prop
  | .reply => ∃ a u, v = .ref a ∧ h.get? a = some (W.listOf #[.str (Str.ofString "error_reply") u, .bool true] 0)
  | .proto => ∃ a u, v = .ref a ∧ h.get? a = some (W.listOf #[.str (Str.ofString "error_proto") u, .bool true] 0)
  | .value => ∃ a u, v = .ref a ∧ h.get? a = some (W.listOf #[.str (Str.ofString "ValueError") u] 0)
  | .ok p => ∃ a u k, v = .ref a ∧ h.get? a = some { cls := .type "tuple", data := .seq #[.str (Str.ofString "10.0.0.7") u, .int p k] }
noncomputable def parseAns (x : Str) : Ans :=
  if (Txt.slice x none (some 3) != Str.ofString "229") = true then .reply
  else if Txt.find x (Str.ofString "(") < 0 then .proto
  else if pR x < 0 then .proto
  else if (Txt.item x (pL x) != Txt.item x (pR x - 1)) = true then .proto
  else if ((pParts x).length : Int) ≠ 5 then .proto
  else match (pParts x)[3]? with
    | none => .value
    | some y => match PySem.intText? y with
      | none => .value
      | some p => .ok p
section
variable {x : Str}
theorem ans1 (h : (Txt.slice x none (some 3) != Str.ofString "229") = true) : parseAns x = .reply := if_pos h
theorem ans2 (h0 : (Txt.slice x none (some 3) != Str.ofString "229") = false) (h1 : Txt.find x (Str.ofString "(") < 0) : parseAns x = .proto := by
  unfold parseAns
  rw [h0, if_neg Bool.false_ne_true, if_pos h1]
theorem ans3 (h0 : (Txt.slice x none (some 3) != Str.ofString "229") = false) (h1 : ¬ Txt.find x (Str.ofString "(") < 0) (h2 : pR x < 0) : parseAns x = .proto := by
  unfold parseAns
  rw [h0, if_neg Bool.false_ne_true, if_neg h1, if_pos h2]
theorem ans4 (h0 : (Txt.slice x none (some 3) != Str.ofString "229") = false) (h1 : ¬ Txt.find x (Str.ofString "(") < 0) (h2 : ¬ pR x < 0) (h3 : (Txt.item x (pL x) != Txt.item x (pR x - 1)) = true) : parseAns x = .proto := by
  unfold parseAns
  rw [h0, if_neg Bool.false_ne_true, if_neg h1, if_neg h2, if_pos h3]
theorem ans5 {l : List (Str × Tok)} (h0 : (Txt.slice x none (some 3) != Str.ofString "229") = false) (h1 : ¬ Txt.find x (Str.ofString "(") < 0) (h2 : ¬ pR x < 0) (h3 : (Txt.item x (pL x) != Txt.item x (pR x - 1)) = false)
    (hl : l.map (·.1) = pParts x) (h4 : (l.length : Int) ≠ 5) : parseAns x = .proto := by
  unfold parseAns
  rw [h0, if_neg Bool.false_ne_true, if_neg h1, if_neg h2, h3, if_neg Bool.false_ne_true, if_pos (by rw [← hl, List.length_map]; exact h4)]
theorem ans6 {l : List (Str × Tok)} {y : Str} (h0 : (Txt.slice x none (some 3) != Str.ofString "229") = false) (h1 : ¬ Txt.find x (Str.ofString "(") < 0) (h2 : ¬ pR x < 0) (h3 : (Txt.item x (pL x) != Txt.item x (pR x - 1)) = false)
    (hl : l.map (·.1) = pParts x) (h4 : (l.length : Int) = 5) (hy : (l.map (·.1))[Int.toNat 3]? = some y) : parseAns x = match PySem.intText? y with | none => .value | some p => .ok p := by
  unfold parseAns
  rw [h0, if_neg Bool.false_ne_true, if_neg h1, if_neg h2, h3, if_neg Bool.false_ne_true, if_neg (by rw [← hl, List.length_map]; exact fun q => q h4), ← hl, show (l.map (·.1))[3]? = some y from hy]
end
theorem at_list {g h' : Heap} {L a : Addr} {b : Bool} {rest : List (Addr × Obj)} {v : Value} (N : News g L h' ((a, W.listOf #[v, .bool b] 0) :: rest)) (hb : b = true) : h'.get? a = some (W.listOf #[v, .bool true] 0) := by
  subst hb
  exact (N _ (.head _)).1
theorem at_one {g h' : Heap} {L a : Addr} {rest : List (Addr × Obj)} {o : Obj} (N : News g L h' ((a, o) :: rest)) : h'.get? a = some o := (N _ (.head _)).1
theorem kept {fs : List Addr} {h g' h' : Heap} {L : Addr} {m : Str → Option Value} (F : Fr g' L h' m) (T : KtsTurn fs h g') : KeptBut fs h h' :=
  ⟨fun b o e hb => F.keep b o (T.other b o e hb), fun b o e _ => let ⟨sl, hs⟩ := T.up e; ⟨sl, F.keep _ _ hs⟩⟩
theorem stays_on {A₀ : Around} {base g' h' : Heap} {outer : List Env} {L : Addr} {m : Str → Option Value} (F : Fr g' L h' m) (B : Below A₀ base outer g') : base.StaysIn h' := fun b o e => F.keep b o (B.stays b o e)
section
variable {w : World} {mean : ExcName → Option Value} {mg mb : Str → Option Value}
set_option maxHeartbeats 4000000 in
theorem asked_spec (x : Str) (t : Tok) (hx : x.length ≤ 1000) (hp : ∀ y ∈ pParts x, y.length ≤ 640 ∧ ∀ c ∈ y.cps.toList, c < 16 ^ 8) : SpecX w mean mg mb 1 187 [.str x t] (fun _ v h' => AnsAt h' v (parseAns x)) := by
  intro base outer s Q E B XB TB D hret
  have KX : (K w.params).In s.heap := XB.keeps B.stays
  have T : TopK mean mg mb s.heap := TB.keeps B.stays
  refine wpC_call ?_
  refine' enterC ?k1 ?k2 ?k6 ?k7 ?k8 ?k9 ?kB ?_ ?c2 ?c3 ?c4 ?c5
  case k1 => exact KX
  case k2 => exact T
  case k6 => k_is
  case k7 => k_is
  case k8 => exact Nat.le_of_ble_eq_true rfl
  case k9 => exact BindsTo.of_eq rfl
  case kB => exact locs rfl
  case c2 => rfl
  case c3 => rfl
  case c4 => rfl
  case c5 => decide
  intro h₁ F N
  dsimp only
  refine wpC_execs_cons (Try_C (wpC_execs_cons (Return_C (Call_NameC ?_))))
  k_steps
  refine callWithK rfl rfl ?_
  k_steps
  refine wpC_call ?_
  refine' enterInC ?k1 ?k2 ?k3 ?k4 ?k5 ?kD ?kA ?k6 ?k7 ?k8 ?k9 ?kB ?_ ?cK ?c2 ?c3 ?c4 ?c5
  case kA => exact rfl
  case k2 => assumption
  case k1 => assumption
  case k3 => assumption
  case k4 => assumption
  case k5 => assumption
  case kD => assumption
  case k6 => k_is
  case k7 => k_is
  case k8 => exact Nat.le_of_ble_eq_true rfl
  case k9 => exact BindsTo.of_eq rfl
  case kB => exact locs rfl
  case cK => rfl
  case c2 => rfl
  case c3 => rfl
  case c4 => rfl
  case c5 => decide
  intro g L' h₂ Fg F' N' B' X' T' D'
  dsimp only
  refine wpC_execs_at 9 ?_
  simp only [List.take_succ_cons, List.take_zero, List.drop_succ_cons, List.drop_zero]
  k_steps
  rotate_left 5
  · dsimp only
    refine wpC_execs_cons (Assign_NameC (Call_NameC ?_))
    k_steps
    refine callWith_typeK ?_
    k_steps
    rename_i y ty hy
    have hal : parseAns x = _ := ans6 (by assumption) (by assumption) (by assumption) (by assumption) (by assumption) (by assumption) hy
    have hy' : y.length ≤ 640 ∧ ∀ c ∈ y.cps.toList, c < 16 ^ 8 := hp y (by rw [← (by assumption : _ = pParts x)]; exact List.mem_of_getElem? hy)
    cases hq : PySem.intText? y with
    | some p =>
      refine toC (KIN.call_text hq hy'.1 ?_)
      k_steps
      refine toC ?_
      k_steps
      refine ⟨_, _, by assumption, by assumption, fun F'' N'' => ?_⟩
      dsimp only
      refine hret _ _ _ (kept F'' KtsTurn.refl) (stays_on F'' B) ?_
      rw [hal, hq]
      exact ⟨_, _, _, rfl, at_one N''⟩
    | none =>
      refine int_raisesC hq hy'.1 hy'.2 rfl _ fun h' tk e m he => ?_
      have heX := Heap.MadeExc.of he
      clear he
      dsimp only
      k_steps
      refine hret _ _ _ (kept (by assumption) (by assumption)) (stays_on (by assumption) (by assumption)) ?_
      rw [hal, hq]
      exact ⟨_, _, rfl, at_one (by assumption)⟩
  all_goals (refine hret _ _ _ (kept (by assumption) (by assumption)) (stays_on (by assumption) (by assumption)) ?_)
  · rw [ans1 (by assumption)]; exact ⟨_, _, rfl, at_list (by assumption) (by simp)⟩
  · rw [ans2 (by assumption) (by assumption)]; exact ⟨_, _, rfl, at_list (by assumption) (by simp)⟩
  · rw [ans3 (by assumption) (by assumption) (by assumption)]; exact ⟨_, _, rfl, at_list (by assumption) (by simp)⟩
  · rw [ans4 (by assumption) (by assumption) (by assumption) (by assumption)]; exact ⟨_, _, rfl, at_list (by assumption) (by simp)⟩
  · rw [ans5 (by assumption) (by assumption) (by assumption) (by assumption) (by assumption) (by assumption)]; exact ⟨_, _, rfl, at_list (by assumption) (by simp)⟩
end
end Mine
end
section
open PySem PySem.W PySem.Calls PyProof.Rows PySem.Spec
open PySem.Sem (wp)
namespace Mine
/-! from a law walked under its caller to the statement -/
theorem ends_C {prog : Program} {w : World} {t : Sem Fin} {s : Shared} {R : Result → Shared → Prop} (hreg : s.asleep)
    (h : wpC (model prog w) callerA t (fun fin s' => ∃ f, fin = .done f ∧ (R (.ok f) s' ∧ leftWithCleanup s'.gens = false)) (fun e s' => R (.error e) s' ∧ leftWithCleanup s'.gens = false) s) :
    ∃ n r s' s'', runN (denote table) prog w n s ⟨t, .builtin "claim.caller" {}, default, []⟩ = .halted (outcomeOf r) s' ∧
      schedN (denote table) prog w n (.single s ⟨t, .builtin "claim.caller" {}, default, []⟩) = .halted (outcomeOf r) s' ∧ s'.forget = s''.forget ∧ R r s'' := by
  have h0 : wp (model prog w) ⟨.builtin "claim.caller" {}, none, none, [], none⟩ t (Sem.finPost (model prog w) ⟨.builtin "claim.caller" {}, none, none, [], none⟩ fun r s' => R r s' ∧ leftWithCleanup s'.gens = false)
      (fun e _ s' => R (.error e) s' ∧ leftWithCleanup s'.gens = false) default s := by
    refine Sem.wp_mono _ _ t (fun fin p' s' h' => ?_) (fun _ _ _ h' => h') default s (h _ default caller_in rfl)
    obtain ⟨f, rfl, hf⟩ := h'
    exact hf
  obtain ⟨n, r, s₁, s₂, hs, hn, hfo, hR⟩ := wp_halts_full (M := model prog w) (R := R) hreg h0
  exact ⟨n, r, s₂, s₁, hn, hs, hfo, hR⟩
theorem callFrom_C {c : ClaimW} {tree : List Value → Sem Fin} {w : World} {s : Shared} {free : Addr → Prop} {gens : Prop} {kept : Heap → Prop} (hz : s.asleep) (hgens : s.gens = #[])
    (hspec : ∀ args, c.pre args = true → WData.layableAll args = true → ∀ ord : List DictEntry → List DictEntry, (∀ l, (ord l).Perm l) →
      ∃ vs s₁, layAllW c.records (classAt s.heap) w.params ord args s = some (vs, s₁) ∧
        wpC (model c.prog w) callerA (tree vs) (fun fin s' => ∃ f, fin = .done f ∧ (c.Ends s args vs s₁ (.ok f) s' ∧ s'.os = s.os ∧ AllBare s'.gens ∧ kept s'.heap))
          (fun e s' => c.Ends s args vs s₁ (.error e) s' ∧ s'.os = s.os ∧ AllBare s'.gens ∧ kept s'.heap) s₁) :
    c.CallFrom (fun vs => ⟨tree vs, .builtin "claim.caller" {}, default, []⟩) w free gens kept s := by
  intro args hpre hlay ord hord
  obtain ⟨vs, s₁, hlaid, hcode⟩ := hspec args hpre hlay ord hord
  have hal := layAllW_rest _ _ _ hlaid
  obtain ⟨k, r, s', s'', hrun, hsched, hfo, hcase, hos, hkp⟩ := ends_C (prog := c.prog) (w := w) (t := tree vs) (s := s₁) (R := fun r s' => c.Ends s args vs s₁ r s' ∧ s'.os = s.os ∧ kept s'.heap)
    (Shared.asleep_of_life hal.2.2.2 hz)
    (wpC_mono hcode (fun fin s' h' => by
      obtain ⟨f, e, h1, h2, h3, h4⟩ := h'
      exact ⟨f, e, ⟨h1, h2, h4⟩, leftWithCleanup_false_of_bare h3⟩) (fun e s' h' => by
      obtain ⟨h1, h2, h3, h4⟩ := h'
      exact ⟨⟨h1, h2, h4⟩, leftWithCleanup_false_of_bare h3⟩))
  obtain ⟨eh, _, _, eo, _⟩ := Shared.forget_eq hfo
  have hcase := hcase.congr eh
  have hkp : kept s'.heap := eh ▸ hkp
  rw [← eo] at hos
  have hlife : s'.heap.life = s.heap.life := (runN_life _ _ _ hrun).trans hal.2.2.2
  refine ⟨vs, s₁, hlaid, k, _, s', hsched, ?_, (fun _ i x hx => by rw [hgens] at hx; simp at hx), hkp, by rw [hlife], Shared.rest_eq hos⟩
  rcases hcase with ⟨v, rfl, d1, d2, d3, d4, d5⟩ | ⟨e, ob, cls, rfl, d1, d2, d3, d4, d5⟩
  · exact .inl ⟨v, rfl, d1, d2, d3, fun b o y _ => d4 b o y, d5⟩
  · exact .inr ⟨e, ob, cls, rfl, d1, d2, d3, d4, fun b o y _ => d5 b o y⟩
/-- what is left to show of a law: its call, under the caller -/
noncomputable abbrev LawC (q : Program) (loose : List Str) (XP : (Str → Option Value) → Heap → Prop) (YP : World → Heap → Prop) (r : RowW) (d : DefRec) (kwd : List (Str × Expr)) : Prop :=
  ∀ (w : World) (s₀ s₁ : Shared) (mg mb : Str → Option Value), Ground q loose r.records XP w s₀ mg mb s₁.heap → YP w s₁.heap → ∀ (a : Addr) (o : Obj) (pm cd doc dV kV : Value), s₁.heap.get? a = some o →
    o.data = .func { docDef d.name d.params d.body d.scope pm cd doc with defaults := dV, kwdefaults := kV } → s₁.heap.CodeRec cd d.name → Dflts mg s₁.heap d.params kwd dV kV → mg d.name = some (.ref a) → s₁.gens = #[] →
    ∀ (args : List WData) (vals : List Value) (as : List Addr), r.claim.pre args = true → WData.layableAll args = true → ReadsAllW r.records (classAt s₀.heap) s₁.heap vals args as → WellAll w.params s₁.heap vals args → (∀ a ∈ as, (a == sysModules) = false) →
      wpC (model r.prog w) callerA (PySem.call (.ref a) vals) (fun v s' => GoodWG r.claim (classAt s₀.heap) (ExcName.means s₀.heap) args s₁ (.ok (.ret v)) s')
        (fun e s' => GoodWG r.claim (classAt s₀.heap) (ExcName.means s₀.heap) args s₁ (.error e) s') s₁
theorem open_C {r : RowW} {tree : List Value → Sem Fin} {q : Program} {loose defs kps : List Str} {writes : Bool} {Xt : Shared → Bool} {XP : (Str → Option Value) → Heap → Prop} {α : Type} {Yf : Shared → α} {Ya : World → α} {YP : World → Heap → Prop} {N : Nat}
    (left : LeftO r.prog q loose Xt Yf Ya N) (hY : ∀ w s, Yf s = Ya w → YP w s.heap) (hYk : ∀ w h h', YP w h → (∀ b o, h.get? b = some o → h'.get? b = some o) → YP w h') (hX : ∀ s, Xt s = true → XP (s.heap.nsMap mainGlobals) s.heap) (hXk : ∀ mg h h', XP mg h → (∀ b o, h.get? b = some o → h'.get? b = some o) → XP mg h')
    (hRf : ∀ s, Xt s = true → RecFacts r.records s.heap) (hwr : (!writes || r.records.isEmpty) = true) (ok : (chainsOk q && opensWell r.prog && (frees r && r.within.isEmpty)) = true) (hb : r.prog.bare) (hw : r.promised)
    (ht : ∀ vs (w : World) (s : Shared) mg f (Q : Fin → Shared → Prop) (E : Value → Shared → Prop), s.heap.Ns mainGlobals mg → mg r.name = some f → wpC (model r.prog w) callerA (PySem.call f vs) (fun v s' => Q (.done (.ret v)) s') E s → wpC (model r.prog w) callerA (tree vs) Q E s)
    (pin : ∀ w s, s.heap.isNs mainGlobals = true → Ground q loose [] XP w s (s.heap.nsMap mainGlobals) (s.heap.nsMap builtinsNs) s.heap → ∀ n ∈ defs, isTheDefsW r.prog s.heap n)
    (call : ∀ (w : World) (s₀ s₁ : Shared) (mg mb : Str → Option Value), Ground q loose r.records XP w s₀ mg mb s₁.heap → YP w s₁.heap → ∀ (args : List WData) (vs : List Value) (as : List Addr),
      r.claim.pre args = true → WData.layableAll args = true → Laid r.records w s₀ s₁ args vs as → sysModules < s₀.heap.objs.size → ∃ f, mg r.name = some f ∧
        wpC (model r.prog w) callerA (PySem.call f vs) (fun v s' => GoodWG r.claim (classAt s₀.heap) (ExcName.means s₀.heap) args s₁ (.ok (.ret v)) s')
          (fun e s' => GoodWG r.claim (classAt s₀.heap) (ExcName.means s₀.heap) args s₁ (.error e) s') s₁) : r.claim.HoldsOpenBy (fun vs => ⟨tree vs, .builtin "claim.caller" {}, default, []⟩) defs kps writes := by
  obtain ⟨ok, k5⟩ := Bool.and_eq_true_iff.mp ok
  obtain ⟨hch, o1⟩ := Bool.and_eq_true_iff.mp ok
  obtain ⟨k5, k6⟩ := Bool.and_eq_true_iff.mp k5
  obtain ⟨hsame, hu, ha, hap, hm⟩ := frees_parts k5
  refine ⟨⟨hb, o1, by show r.makers.map _ = []; rw [hm]; rfl⟩, hw.witness, fun w => ⟨(left.behind hX hch w).1, fun s' hs' => ?_⟩⟩
  obtain ⟨s₀, hf, hg0, s, hT, hz, hgens, hg, G00, y⟩ := (left.behind (XP := fun mg h => XP mg h ∧ RecFacts r.records h) (fun s hs => ⟨hX s hs, hRf s hs⟩) hch w).2 s' hs'
  have G0 : Ground q loose [] XP w s (s.heap.nsMap mainGlobals) (s.heap.nsMap builtinsNs) s.heap := ⟨G00.T, G00.B, G00.D, G00.TE, G00.TD, G00.W, G00.X.1, G00.cls, G00.has, G00.apart, G00.once, G00.K⟩
  have RF := G00.X.2
  have hT' := hT
  refine ⟨s₀, hf, hg0, s, hT, pin w s hg G0, RF.1, RF.2.1, ?_⟩
  have hgens : s.gens = #[] := Array.eq_empty_of_size_eq_zero (beq_iff_eq.mp hgens)
  have G : Ground q loose r.records XP w s _ _ s.heap := RF.ground G0
  refine callFrom_C (c := r.claim) hz hgens fun args hpre hlay ord hord => ?_
  obtain ⟨⟨vs, s₁⟩, hlaid⟩ := Option.isSome_iff_exists.mp (layAllW_isSome (P := w.params) (ord := ord) G.has args r.args s (pre_splitW hpre).1)
  have keeps := layAllW_keeps _ _ _ hlaid
  have hal := layAllW_rest _ _ _ hlaid
  obtain ⟨as, hrd, hin, hold⟩ := reads_layAllW hord _ _ _ hlaid hlay s₁.heap (fun _ _ e => e)
  have L : Laid r.records w s s₁ args vs as := ⟨⟨ord, hord, hlaid⟩, hrd, hin, hold, keeps, hal.1.trans hgens, hal.2.2.1⟩
  have G₁ := G.keeps hXk keeps
  obtain ⟨f, hf, h⟩ := call w s s₁ _ _ G₁ (hYk _ _ _ (hY w s y) keeps) args vs as hpre hlay L G.low
  have hi := ident_freeW hu ha hap
  have hwi : r.claim.within = [] := List.isEmpty_iff.mp k6
  exact ⟨vs, s₁, hlaid, ht vs w s₁ _ f _ _ G₁.T.g hf (wpC_mono h (fun v s' g => ⟨_, rfl, have z := g.laid (c := r.claim) hsame hwi hi L; ⟨z.1, z.2.1, z.2.2, fun q => ⟨namesKept_of hT' hg kps keeps g.2.1.old, noTable hwr q⟩⟩⟩) fun e s' g => have z := g.laid (c := r.claim) hsame hwi hi L; ⟨z.1, z.2.1, z.2.2, fun q => ⟨namesKept_of hT' hg kps keeps g.2.1.old, noTable hwr q⟩⟩)⟩
theorem holds_C {r : OpenRow} {q : Program} {loose : List Str} {Xt : Shared → Bool} {XP : (Str → Option Value) → Heap → Prop} {α : Type} {Yf : Shared → α} {Ya : World → α} {YP : World → Heap → Prop} {d : DefRec} {kwd : List (Str × Expr)} {N : Nat}
    (left : LeftO r.prog q loose Xt Yf Ya N) (hY : ∀ w s, Yf s = Ya w → YP w s.heap) (hYk : ∀ w h h', YP w h → (∀ b o, h.get? b = some o → h'.get? b = some o) → YP w h')
    (hX : ∀ s, Xt s = true → XP (s.heap.nsMap mainGlobals) s.heap) (hXk : ∀ mg h h', XP mg h → (∀ b o, h.get? b = some o → h'.get? b = some o) → XP mg h')
    (hdef : defOf q r.name = some (d, kwd)) (hp : r.prog.theDef r.name = some (d.params, d.body, d.scope)) (hk : kwWritten? d.params.kwonlyargs d.params.kw_defaults = some kwd) (hRf : ∀ s, Xt s = true → RecFacts r.records s.heap) (hwr : (!r.writes || r.records.isEmpty) = true)
    (k1 : r.wellSaid = true) (ok : (chainsOk q && opensWell r.prog && (frees r.toRowW && r.within.isEmpty)) = true) (hb : r.prog.bare) (hw : r.toRowW.promised)
    (call : LawC q loose XP YP r.toRowW d kwd) : r.Holds := by
  refine ⟨k1, hw, open_C (r := r.toRowW) (tree := fun vs => do match ← nsGet mainNs r.name with
      | some f => do ret (← PySem.call f vs)
      | none => unsupported "claim.caller:no-such-global") left hY hYk hX hXk hRf hwr ok hb hw
    (fun vs w s mg f Q E hg hf h => wpC_seq (wpAny_nsGet hg (by rw [hf]; exact wpC_bind (wpC_mono h (fun _ _ x => wpC_pure x) fun _ _ x => x))))
    (fun w s hg G n hn => ?_) fun w s₀ s₁ mg mb G Y args vs as hpre hlay L low => ?_⟩
  · obtain rfl : n = r.name := by split at hn <;> simp_all
    exact pinned_of_view hg G hdef hp hk
  · obtain ⟨a, o, pm, cd, doc, dV, kV, h1, h2, h3, h4, h5⟩ := G.fn hdef
    exact ⟨.ref a, h1, call w s₀ s₁ mg mb G Y a o pm cd doc dV kV h2 h3 h4 h5 (defOf_name hdef ▸ h1) L.gens args vs as hpre hlay L.reads L.well (L.low low)⟩
end Mine
end
local macro_rules | `(tactic| walk_at "idle 7") => `(tactic| fail)
local macro_rules | `(tactic| walk_at "idle 8") => `(tactic| fail)
local macro_rules | `(tactic| walk_at "idle 9") => `(tactic| fail)
section
open PySem PySem.W PySem.Calls PyProof.Rows
namespace Mine
local macro_rules | `(tactic| k_room) => `(tactic| exact Nat.le_of_ble_eq_true rfl)
theorem fill_signs : (K = K ∧ PySem.Challenge.rw_tr0051_01 = PySem.Challenge.rw_tr0051_01) → True := by
  k_fill
  intro _
  trivial
/-- kind, sign, fold of one sign -/
structure T3 where
  k : Str
  s : Str
  f : Str
inductive Tr (ts : List (Addr × Obj)) : List Value → List T3 → Prop
  | nil : Tr ts [] []
  | cons {a : Addr} {x : T3} {u1 u2 u3 : Tok} {vs : List Value} {xs : List T3} : (a, tri (.str x.k u1) (.str x.s u2) (.str x.f u3)) ∈ ts → Tr ts vs xs → Tr ts (.ref a :: vs) (x :: xs)
theorem Tr.mono {ts ts' : List (Addr × Obj)} (h : ∀ p ∈ ts, p ∈ ts') : ∀ {vs : List Value} {xs : List T3}, Tr ts vs xs → Tr ts' vs xs
  | _, _, .nil => .nil
  | _, _, .cons a r => .cons (h _ a) (Tr.mono h r)
theorem Tr.append {ts : List (Addr × Obj)} {ws : List Value} {ys : List T3} (h2 : Tr ts ws ys) : ∀ {vs : List Value} {xs : List T3}, Tr ts vs xs → Tr ts (vs ++ ws) (xs ++ ys)
  | _, _, .nil => h2
  | _, _, .cons a r => .cons a (Tr.append h2 r)
theorem Tr.length {ts : List (Addr × Obj)} : ∀ {vs : List Value} {xs : List T3}, Tr ts vs xs → vs.length = xs.length
  | _, _, .nil => rfl
  | _, _, .cons _ r => by simp [Tr.length r]
noncomputable def TT (ts : List (Addr × Obj)) : Prop := ∀ p ∈ ts, p.2.cls = .type "tuple"
/-- the loop's ledger at a heap -/
structure SgAt (h₀ : Heap) (L S I : Addr) (it : Obj) (m : Str → Option Value) (b : Nat) (xs : List T3) (s s₁ : Shared) : Prop where
  it : ∃ h tk vs c ts, s₁ = { s with heap := h, toks := tk } ∧ Fr h₀ L h m ∧ News h₀ L h ((S, W.listOf vs.toArray c) :: (I, it) :: ts) ∧ TT ts ∧ Tr ts vs xs ∧ xs.length ≤ b
section
variable {prog : Program} {w : World} {A : Around} {E : Value → Shared → Prop} {s : Shared} {env : Env} {h₀ : Heap} {x : Str} {body : List Stmt} {Q : Flow → Shared → Prop}
theorem cut {M : Model} {st : Stmt} {rest : List Stmt} (Mid : Shared → Prop) (h : ∀ P : Shared → Prop, (∀ s₁, Mid s₁ → P s₁) → wpAny M A (exec st env) (fun f s₁ => Done (f = .next ∧ P s₁)) E s) (k : ∀ s₁, Mid s₁ → wpAny M A (execs rest env) Q E s₁) : wpAny M A (execs (st :: rest) env) Q E s :=
  wpAny_execs_cons (wpAny_mono (h Mid fun _ a => a) (fun f s₁ hh => by
    obtain ⟨⟨rfl, hm⟩⟩ := hh
    exact k s₁ hm) fun _ _ e => e)
theorem Done.to {p : Prop} {Mid P : Shared → Prop} {s : Shared} (k : ∀ s, Mid s → P s) (h : Done (p ∧ Mid s)) : Done (p ∧ P s) := ⟨⟨h.it.1, k _ h.it.2⟩⟩
theorem open_post {M : Model} {α : Type} {c : Sem α} {Q : α → Shared → Prop} {E : Value → Shared → Prop} (h : ∀ Q' : α → Shared → Prop, (∀ a s, Q a s → Q' a s) → wpAny M A c Q' E s) : wpAny M A c Q E s := h Q fun _ _ a => a
theorem range_loop {I : Addr} {a : Int} {n : Nat} {m₀ : Str → Option Value} {news₀ : List (Addr × Obj)} (J : Nat → (Str → Option Value) → List (Addr × Obj) → Prop) (h0 : J 0 m₀ news₀)
    (turn : ∀ i m news t h tk, i < n → J i m news → Fr h₀ env.locals h (fun y => if y = x then some (.int (a + (i : Int)) t) else m y) → News h₀ env.locals h ((I, itR (a + ((i + 1 : Nat) : Int)) ((n : Int) - ((i + 1 : Nat) : Int))) :: news) →
      wpAny (model prog w) A (execs body env) (fun f s₂ => Done (f = .next ∧ UnrEnd h₀ env.locals { s with heap := h, toks := tk } I (itR (a + ((i + 1 : Nat) : Int)) ((n : Int) - ((i + 1 : Nat) : Int))) (J (i + 1)) s₂)) E { s with heap := h, toks := tk })
    (done : ∀ m news h tk, J n m news → Fr h₀ env.locals h m → News h₀ env.locals h news → Q .next { s with heap := h, toks := tk }) :
    RangeRest prog w A E h₀ env x body Q s I a n n 0 m₀ news₀ := by
  have key : ∀ k i m news, k + i = n → J i m news → RangeRest prog w A E h₀ env x body Q s I a n k i m news := by
    intro k
    induction k with
    | zero =>
      intro i m news hki hJ
      obtain rfl : i = n := by omega
      exact .zero fun h tk F N => done m news h tk hJ F N
    | succ k ih =>
      intro i m news hki hJ
      refine .succ fun t h tk F N => ?_
      refine wpAny_mono (turn i m news t h tk (by omega) hJ F N) (fun f s₂ hh => ?_) fun _ _ e => e
      obtain ⟨⟨rfl, h', tk', m', news', e, F', N', off, hJ'⟩⟩ := hh
      exact ⟨h', tk', m', news', e, F', N', off, ih (i + 1) m' news' (by omega) hJ'⟩
  exact key n 0 m₀ news₀ (by omega) h0
end
/-! what the loop adds -/
noncomputable def tF : T3 := ⟨Str.ofString "feed", Str.ofString "\n", Str.ofString "\n"⟩
noncomputable def tR : T3 := ⟨Str.ofString "return", Str.ofString "\r", Str.ofString "\r"⟩
noncomputable def tD : T3 := ⟨Str.ofString "dot", Str.ofString ".", Str.ofString "."⟩
noncomputable def tC : T3 := ⟨Str.ofString "lasting", Str.ofString "㏇", Str.ofString "co."⟩
noncomputable def tQ : T3 := ⟨Str.ofString "lasting", Str.ofString "Q", Str.ofString "q"⟩
noncomputable def tU (k : Int) : T3 := ⟨Str.ofString "unseen", ⟨#[(un k).toNat]⟩, Str.ofString ""⟩
noncomputable def tL (c : Nat) : T3 := ⟨Str.ofString "lasting", ⟨#[c]⟩, ⟨#[c]⟩⟩
noncomputable def sg1 (n : Int) : List T3 := if n.fmod 8 = 1 ∨ n.fmod 8 = 5 then [tF] else []
noncomputable def sg2 (n : Int) : List T3 := if n.fmod 8 = 2 ∨ n.fmod 8 = 7 then [tR] else []
noncomputable def sg3 (n : Int) : List T3 := if n.fmod 8 = 4 ∨ n.fmod 8 = 5 ∨ (n.fmod 8 = 2 ∧ (n.fdiv 32).fmod 2 = 1) then [tU (n.fdiv 32)] else []
noncomputable def sg4 (n : Int) : List T3 := if n.fmod 8 = 3 then [tC] else if n.fmod 8 ≠ 6 ∧ n.fmod 8 ≠ 2 then [tD] else []
noncomputable def sgb (i : Nat) (n : Int) : Int := if i < 4 then (n.fdiv 8).fmod 4 else 0
noncomputable def sg5 (b n : Int) : List T3 := if b = 2 then [tU (n.fdiv 32 + 1)] else []
noncomputable def dg (n : Int) : Str := Str.ofString (toString (n.fmod 1000))
noncomputable def sg6 (b n : Int) : List T3 := if b = 1 ∨ b = 2 then ((dg (n.fdiv 32)).cps.toList.map tL) else []
noncomputable def sg7 (b : Int) : List T3 := if b = 3 then [tQ] else []
noncomputable def sgOne (i : Nat) (n : Int) : List T3 := sg1 n ++ (sg2 n ++ (sg3 n ++ (sg4 n ++ (sg5 (sgb i n) n ++ (sg6 (sgb i n) n ++ sg7 (sgb i n))))))
noncomputable def sgTo (ns : List Int) : Nat → List T3
  | 0 => []
  | i + 1 => sgTo ns i ++ sgOne i (ns.getD i 0)
theorem ne_news {h₀ h : Heap} {L a b : Addr} {o o' : Obj} {all : List (Addr × Obj)} (N : News h₀ L h all) (h1 : (a, o) ∈ all) (h2 : (b, o') ∈ all) (hc : o.cls ≠ o'.cls) : @Ne Nat a b := by
  intro e
  have x : h.get? a = some o := (N _ h1).1
  have y : h.get? b = some o' := (N _ h2).1
  have e' : a = b := e
  rw [e', y] at x
  injection x with x
  exact hc (x ▸ rfl)
theorem digs : ∀ k : Fin 1000, 1 ≤ (Str.ofString (toString ((k.val : Nat) : Int))).cps.size ∧ (Str.ofString (toString ((k.val : Nat) : Int))).cps.size ≤ 3 := by decide +kernel
theorem digs' (n : Int) : 1 ≤ (dg n).cps.size ∧ (dg n).cps.size ≤ 3 := by
  have h1 : 0 ≤ n.fmod 1000 := Int.fmod_nonneg_of_pos _ (by decide)
  have h2 : n.fmod 1000 < 1000 := Int.fmod_lt_of_pos _ (by decide)
  have h3 : (((n.fmod 1000).toNat : Nat) : Int) = n.fmod 1000 := Int.toNat_of_nonneg h1
  have h := digs ⟨(n.fmod 1000).toNat, by omega⟩
  rw [h3] at h
  exact h
theorem sg_end0' {h₀ h : Heap} {L S I : Addr} {it : Obj} {m : Str → Option Value} {b c tk : Nat} {xs ys : List T3} {vs : List Value} {ts : List (Addr × Obj)} {s : Shared} (F : Fr h₀ L h m) (N : News h₀ L h ((S, W.listOf vs.toArray c) :: (I, it) :: ts)) (hT : TT ts) (hTr : Tr ts vs xs) (hl : xs.length ≤ b) (e : ys = xs) :
    Done (Flow.next = .next ∧ SgAt h₀ L S I it m (b + 3) ys s { s with heap := h, toks := tk }) := ⟨rfl, ⟨h, tk, vs, c, ts, rfl, F, N, hT, e ▸ hTr, by subst e; omega⟩⟩
theorem sg_endN {h₀ h : Heap} {L S I D : Addr} {it oD : Obj} {m : Str → Option Value} {b c tk : Nat} {xs ys zs : List T3} {vs ws : List Value} {ts ts' : List (Addr × Obj)} {s : Shared} (F : Fr h₀ L h m)
    (N : News h₀ L h ((D, oD) :: (S, W.listOf (vs ++ ws).toArray c) :: (I, it) :: ts')) (hT : TT ts') (hs : ∀ p ∈ ts, p ∈ ts') (hTr : Tr ts vs xs) (hTr' : Tr ts' ws ys) (hl : xs.length ≤ b) (hl' : ys.length ≤ 3) (e : zs = xs ++ ys) :
    Done (Flow.next = .next ∧ SgAt h₀ L S I it m (b + 3) zs s { s with heap := h, toks := tk }) := by
  subst e
  refine ⟨rfl, ⟨h, tk, vs ++ ws, c, ts', rfl, F, fun p hp => N p (.tail _ hp), hT, Tr.append hTr' (hTr.mono hs), ?_⟩⟩
  rw [List.length_append]; omega
theorem figs_rest {prog : Program} {w : World} {A : Around} {h₀ : Heap} {L : Addr} {m : Str → Option Value} {env : Env} {elt : Expr} {x : Str} {scope : Scope} {cl : List (Str × Addr)} {s : Shared} {Fin : List Value → List (Addr × Obj) → Prop}
    {y : Str} {S J : Addr} {o1 o2 : Obj} {ts : List (Addr × Obj)} (hT : TT ts) (h1 : o1.cls ≠ .type "tuple") (h2 : o2.cls ≠ .type "tuple")
    (turn : ∀ c t I oI C oC D m₂ ys ts h tk (E' : Value → Shared → Prop), LCg.NsObj oC m₂ → m₂ x = some (.str ⟨#[c]⟩ t) → Fr h₀ L h m → News h₀ L h ((I, oI) :: (C, oC) :: (D, LCg.lst ys) :: (S, o1) :: (J, o2) :: ts) → TT ts →
      wpAny (model prog w) A (eval elt (compEnvC scope cl C env)) (fun v s' => Done (∃ h' tk' T u1 u2 u3, v = .ref T ∧ s' = { s with heap := h', toks := tk' } ∧ Fr h₀ L h' m ∧ T ≠ I ∧ T ≠ C ∧
        News h₀ L h' ((T, tri (.str (tL c).k u1) (.str (tL c).s u2) (.str (tL c).f u3)) :: (I, oI) :: (C, oC) :: (D, LCg.lst ys) :: (S, o1) :: (J, o2) :: ts))) E' { s with heap := h, toks := tk })
    (fin : ∀ ys ts', TT ts' → (∀ p ∈ ts, p ∈ ts') → Tr ts' ys (y.cps.toList.map tL) → Fin ys ((S, o1) :: (J, o2) :: ts')) :
    LCg.CompRest prog w A h₀ L m env elt x scope cl s (fun _ => True) (SignAt y) Fin y.cps.size 0 [] ((S, o1) :: (J, o2) :: ts) := by
  have key : ∀ (j i : Nat) (ys : List Value) (ts' : List (Addr × Obj)), i + j = y.cps.size → TT ts' → (∀ p ∈ ts, p ∈ ts') → Tr ts' ys ((y.cps.toList.take i).map tL) →
      LCg.CompRest prog w A h₀ L m env elt x scope cl s (fun _ => True) (SignAt y) Fin j i ys ((S, o1) :: (J, o2) :: ts') := by
    intro j
    induction j with
    | zero =>
      intro i ys ts' hi hT' hs hTr
      have e : i = y.cps.toList.length := by simpa using hi
      rw [e, List.take_length] at hTr
      exact .zero (fin ys ts' hT' hs hTr)
    | succ j ih =>
      intro i ys ts' hi hT' hs hTr
      refine .succ ?_
      intro v I oI C oC D m₂ h tk E' hv hC hx F N off ne
      obtain ⟨c, t, hc, rfl⟩ := hv
      refine wpAny_mono (turn c t I oI C oC D m₂ ys ts' h tk E' hC hx F N hT') (fun v s' hd => ?_) fun _ _ e => e
      obtain ⟨⟨h', tk', T, u1, u2, u3, rfl, rfl, F', nI, nC, N'⟩⟩ := hd
      have nD : @Ne Nat T D := ne_news N' (.head _) (.tail _ (.tail _ (.tail _ (.head _)))) (fun e => absurd (Value.type.inj e) (by decide))
      obtain ⟨oS, oJ, off⟩ := off
      refine ⟨h', tk', (S, o1) :: (J, o2) :: (T, tri (.str (tL c).k u1) (.str (tL c).s u2) (.str (tL c).f u3)) :: ts', rfl, F', ?_, ?_, trivial, ?_⟩
      · intro p hp
        refine N' p ?_
        rcases List.mem_cons.mp hp with rfl | hp
        · exact .tail _ (.head _)
        rcases List.mem_cons.mp hp with rfl | hp
        · exact .tail _ (.tail _ (.head _))
        rcases List.mem_cons.mp hp with rfl | hp
        · exact .tail _ (.tail _ (.tail _ (.head _)))
        rcases List.mem_cons.mp hp with rfl | hp
        · exact .tail _ (.tail _ (.tail _ (.tail _ (.head _))))
        rcases List.mem_cons.mp hp with rfl | hp
        · exact .tail _ (.tail _ (.tail _ (.tail _ (.tail _ (.head _)))))
        rcases List.mem_cons.mp hp with rfl | hp
        · exact .head _
        · exact .tail _ (.tail _ (.tail _ (.tail _ (.tail _ (.tail _ hp)))))
      · exact ⟨oS, oJ, ⟨nI, nC, nD⟩, off⟩
      · refine ih (i + 1) _ _ (by omega) (fun p hp => ?_) (fun p hp => .tail _ (hs p hp)) ?_
        · rcases List.mem_cons.mp hp with rfl | hp
          · rfl
          · exact hT' p hp
        · have hc' : y.cps.toList[i]? = some c := by simpa using hc
          rw [List.take_add_one, hc', List.map_append]
          exact Tr.append (.cons (.head _) .nil) (hTr.mono fun _ hp => .tail _ hp)
  exact key y.cps.size 0 [] ts (by omega) hT (fun _ hp => hp) (by simp only [List.take_zero, List.map_nil]; exact .nil)
noncomputable def mC (N S : Addr) (P n k b : Option Value) : Str → Option Value := fun y => if y = Str.ofString "body" then b else if y = Str.ofString "kind" then k else if y = Str.ofString "n" then n else if y = Str.ofString "place" then P else if y = Str.ofString "signs" then some (.ref S) else if y = Str.ofString "numbers" then some (.ref N) else none
theorem mC_start (N S : Addr) : (fun y => if y = Str.ofString "signs" then some (Value.ref S) else List.lookup y [(Str.ofString "numbers", .ref N)]) = mC N S none none none none := by
  funext y
  by_cases h1 : y = Str.ofString "signs"
  · subst h1; rfl
  by_cases h2 : y = Str.ofString "numbers"
  · subst h2; rfl
  have hb : (y == Str.ofString "numbers") = false := beq_false_of_ne h2
  simp only [mC, if_neg h1, if_neg h2, List.lookup, hb, ite_self]
theorem mC_t3 (N S : Addr) (P n k b P' n' k' : Option Value) : (fun y => if y = Str.ofString "kind" then k' else (fun y => if y = Str.ofString "n" then n' else (fun y => if y = Str.ofString "place" then P' else mC N S P n k b y) y) y) = mC N S P' n' k' b := by
  funext y
  by_cases h2 : y = Str.ofString "kind"
  · subst h2; rfl
  by_cases h3 : y = Str.ofString "n"
  · subst h3; rfl
  by_cases h4 : y = Str.ofString "place"
  · subst h4; rfl
  simp only [mC, if_neg h2, if_neg h3, if_neg h4]
theorem mC_b (N S : Addr) (P n k b b' : Option Value) : (fun y => if y = Str.ofString "body" then b' else mC N S P n k b y) = mC N S P n k b' := by
  funext y
  by_cases h1 : y = Str.ofString "body"
  · subst h1; rfl
  simp only [mC, if_neg h1]
theorem news_swap {h₀ h : Heap} {L : Addr} {a b : Addr × Obj} {ts : List (Addr × Obj)} (N : News h₀ L h (a :: b :: ts)) : News h₀ L h (b :: a :: ts) := fun p hp => N p (by
  rcases List.mem_cons.mp hp with rfl | hp
  · exact .tail _ (.head _)
  rcases List.mem_cons.mp hp with rfl | hp
  · exact .head _
  · exact .tail _ (.tail _ hp))
theorem sg_end0 {h₀ h : Heap} {L S I : Addr} {it : Obj} {m : Str → Option Value} {b c tk : Nat} {xs ys : List T3} {vs : List Value} {ts : List (Addr × Obj)} {s : Shared} (F : Fr h₀ L h m) (N : News h₀ L h ((S, W.listOf vs.toArray c) :: (I, it) :: ts)) (hT : TT ts) (hTr : Tr ts vs xs) (hl : xs.length ≤ b) (e : ys = xs) :
    Done (Flow.next = .next ∧ SgAt h₀ L S I it m (b + 1) ys s { s with heap := h, toks := tk }) := ⟨rfl, ⟨h, tk, vs, c, ts, rfl, F, N, hT, e ▸ hTr, by subst e; omega⟩⟩
theorem sg_end1 {h₀ h : Heap} {L S I D : Addr} {it : Obj} {m : Str → Option Value} {b c tk : Nat} {xs ys : List T3} {vs : List Value} {ts : List (Addr × Obj)} {s : Shared} {u1 u2 u3 : Tok} (x : T3) (F : Fr h₀ L h m)
    (N : News h₀ L h ((D, tri (.str x.k u1) (.str x.s u2) (.str x.f u3)) :: (S, W.listOf (vs.toArray.push (.ref D)) c) :: (I, it) :: ts)) (hT : TT ts) (hTr : Tr ts vs xs) (hl : xs.length ≤ b) (e : ys = xs ++ [x]) :
    Done (Flow.next = .next ∧ SgAt h₀ L S I it m (b + 1) ys s { s with heap := h, toks := tk }) := by
  refine ⟨rfl, ⟨h, tk, vs ++ [.ref D], c, (D, tri (.str x.k u1) (.str x.s u2) (.str x.f u3)) :: ts, rfl, F, ?_, ?_, ?_, ?_⟩⟩
  · intro p hp
    rw [← List.push_toArray] at hp
    refine N p ?_
    rcases List.mem_cons.mp hp with rfl | hp
    · exact .tail _ (.head _)
    rcases List.mem_cons.mp hp with rfl | hp
    · exact .tail _ (.tail _ (.head _))
    rcases List.mem_cons.mp hp with rfl | hp
    · exact .head _
    · exact .tail _ (.tail _ (.tail _ hp))
  · intro p hp
    rcases List.mem_cons.mp hp with rfl | hp
    · rfl
    · exact hT p hp
  · rw [e]
    exact Tr.append (.cons (.head _) .nil) (hTr.mono fun _ hp => .tail _ hp)
  · rw [e, List.length_append, List.length_singleton]; omega
theorem off_of {h₀ h : Heap} {L S : Addr} {o : Obj} {all ts : List (Addr × Obj)} (N : News h₀ L h all) (h1 : (S, o) ∈ all) (h2 : ∀ p ∈ ts, p ∈ all) (hT : TT ts) (hc : o.cls ≠ .type "tuple") : ∀ p ∈ ts, p.1 ≠ S := by
  intro p hp e
  have a := (N p (h2 p hp)).1
  have b : h.get? S = some o := (N _ h1).1
  rw [e, b] at a
  injection a with a
  exact hc (a ▸ hT p hp)
section
variable {w : World} {mean : ExcName → Option Value} {mg mb : Str → Option Value}
local macro_rules | `(tactic| k_all) => `(tactic| assumption)
theorem tr_size {ts : List (Addr × Obj)} {vs : List Value} {xs : List T3} {b : Nat} (h : Tr ts vs xs) (h1 : xs.length ≤ b) (h2 : b ≤ 1000) : vs.toArray.size ≤ sizeLine := by
  rw [List.size_toArray, h.length, PySem.sizeLine_eq]; omega
local macro_rules | `(tactic| walk_at "call ref") => `(tactic| (k_here; (with_reducible show wpAny _ _ (call (Value.ref 163) [Value.int _ _]) _ _ _); (rename Fr _ _ _ _ => lF'); (rename News _ _ _ _ => lN'); k_dflt ((refine' unseen_use ?B lF' lN' ?X ?T ?hf ?hk ?h1 ?h2 ?h3 ?h4 ?h5 ?_); (case h3 => rfl); (case B => assumption); (case X => assumption); (case T => assumption); (case hf => rfl); (case hk => rfl); (case h1 => rfl); (case h2 => exact Nat.le_of_ble_eq_true rfl); (case h4 => rfl); (case h5 => exact Nat.le_of_ble_eq_true rfl)); intro a' u1' u2' u3' h' tk' F' N'; k_dflt (have nA' := ne_news N' (.head _) (.tail _ (.head _)) (fun e => absurd (Value.type.inj e) (by decide)))))
local macro_rules | `(tactic| walk_at "eval ListComp") => `(tactic| refine Hold.it ?_)
local macro_rules | `(tactic| walk_at "call builtin:list.append") => `(tactic| (k_here; (with_reducible show wpAny _ _ (call (Value.builtin _) [Value.ref _, _]) _ _ _); k_dflt (refine' append_K ?k1 ?k2 ?k3 ?_ ?z; (case k1 => k_asm); (case k2 => k_asm); (case k3 => k_upd); (case z => exact tr_size (by assumption) (by assumption) (by omega)); k_whole); intro h' F' N'))
local macro_rules | `(tactic| walk_at "RangeRest") => `(tactic| refine Hold.it ?_)
set_option maxHeartbeats 4000000 in
theorem signs_spec (N : Addr) (vs : List Value) (ns : List Int) (hi : IntsAre vs ns) (hn : ns.length = 5) : Spec w mean mg mb 0 168 [.ref N] (fun h => h.IsList N vs.toArray)
    (fun h v h' => ∃ S us c ts, v = .ref S ∧ TT ts ∧ Tr ts us (sgTo ns 5) ∧ ∀ p ∈ (S, W.listOf us.toArray c) :: ts, h'.get? p.1 = some p.2 ∧ h.get? p.1 = none) := by
  intro base outer s Q E B KX T hpre hret
  refine wpAny_call ?_
  refine' enter ?k1 ?k2 ?k6 ?k7 ?k8 ?k9 ?kB ?_ ?c2 ?c3 ?c4 ?c5
  case k1 => exact KX
  case k2 => exact T
  case k6 => k_is
  case k7 => k_is
  case k8 => exact Nat.le_of_ble_eq_true rfl
  case k9 => exact BindsTo.of_eq rfl
  case kB => exact locs rfl
  case c2 => rfl
  case c3 => rfl
  case c4 => rfl
  case c5 => decide
  intro h₁ F Nn
  dsimp only
  k_fold
  k_steps
  rename_i S hA lA hB FB NB hC tkC t1 u1 v1 aA aB I lI
  refine ⟨range_loop (fun i m news => ∃ P n k b vs c ts, m = mC N S P n k b
    ∧ news = (S, W.listOf vs.toArray c) :: ts ∧ TT ts ∧ Tr ts vs (sgTo ns i) ∧ (sgTo ns i).length ≤ 9 * i) ?_ ?_ ?_⟩
  · exact ⟨none, none, none, none, [], 0, [], mC_start N S, rfl, (fun p hp => nomatch hp), .nil, Nat.zero_le _⟩
  · rintro i m news t h tk hlt ⟨P, n, k, b, vs, c, ts, rfl, rfl, hT, hTr, hlen⟩ F N'
    generalize hxs : sgTo ns i = xs at hTr hlen
    have hx := hi.length
    have hni : ns[i]? = some (ns.getD i 0) := by rw [List.getD_eq_getElem?_getD, List.getElem?_eq_getElem (by omega)]; rfl
    rw [show (0 + (i : Int)) = (i : Int) from Int.zero_add _] at F
    refine open_post fun Q2 hQ2 => ?_
    refine cut (fun s₁ => ∃ t', SgAt s.heap s.heap.objs.size S I (itR (0 + ((i + 1 : Nat) : Int)) (((5 : Nat) : Int) - ((i + 1 : Nat) : Int))) (fun y => if y = Str.ofString "n" then some (.int (ns.getD i 0) t') else (fun y => if y = Str.ofString "place" then some (.int (i : Int) t) else mC N S P n k b y) y) (9 * i) xs s s₁) ?_ ?_
    · intro Mq hMq
      k_steps
      exact ⟨rfl, hMq _ ⟨_, ⟨_, _, _, _, _, rfl, by assumption, news_swap (by assumption : News _ _ _ ((I, _) :: (S, _) :: ts)), hT, hTr, hlen⟩⟩⟩
    clear F N'
    generalize hxx : ns.getD i 0 = x at hni ⊢
    rintro s₁ ⟨t1, ⟨h1, tk1, vs1, c1, ts1, rfl, F, N', hT, hTr, hlen⟩⟩
    refine cut (fun s₁ => ∃ t2, SgAt s.heap s.heap.objs.size S I (itR (0 + ((i + 1 : Nat) : Int)) (((5 : Nat) : Int) - ((i + 1 : Nat) : Int))) (mC N S (some (.int (i : Int) t)) (some (.int x t1)) (some (.int (x.fmod 8) t2)) b) (9 * i) xs s s₁) ?_ ?_
    · intro Mq hMq
      k_steps
      exact ⟨rfl, hMq _ ⟨_, ⟨_, _, _, _, _, rfl, mC_t3 .. ▸ (by assumption : Fr _ _ _ fun y => if y = Str.ofString "kind" then _ else _), by assumption, hT, hTr, hlen⟩⟩⟩
    clear F N'
    generalize hit : itR (0 + ((i + 1 : Nat) : Int)) (((5 : Nat) : Int) - ((i + 1 : Nat) : Int)) = it
    have hic : it.cls ≠ .type "tuple" := by rw [← hit]; exact (fun e => absurd (Value.type.inj e) (by decide))
    rintro s₁ ⟨t2, ⟨h1, tk1, vs1, c1, ts1, rfl, F, N', hT, hTr, hlen⟩⟩
    have oS := off_of N' (.head _) (fun p hp => .tail _ (.tail _ hp)) hT (fun e => absurd (Value.type.inj e) (by decide))
    have oI := off_of N' (.tail _ (.head _)) (fun p hp => .tail _ (.tail _ hp)) hT hic
    refine cut (fun s₁ => SgAt s.heap s.heap.objs.size S I it (mC N S (some (.int (i : Int) t)) (some (.int x t1)) (some (.int (x.fmod 8) t2)) b) (9 * i + 1) (xs ++ sg1 x) s s₁) ?_ ?_
    · intro Mq hMq
      k_steps
      · exact Done.to hMq (sg_end1 tF (by assumption) (by assumption) hT hTr hlen (by rw [sg1, if_pos (by omega)]))
      · exact Done.to hMq (sg_end1 tF (by assumption) (by assumption) hT hTr hlen (by rw [sg1, if_pos (by omega)]))
      · exact Done.to hMq (sg_end0 (by assumption) (by assumption) hT hTr hlen (by rw [sg1, if_neg (by omega), List.append_nil]))
    clear F N' oS oI hT hTr hlen
    generalize hxs1 : xs ++ sg1 x = xs1
    rintro s₁ ⟨h1, tk1, vs1, c1, ts1, rfl, F, N', hT, hTr, hlen⟩
    have oS := off_of N' (.head _) (fun p hp => .tail _ (.tail _ hp)) hT (fun e => absurd (Value.type.inj e) (by decide))
    have oI := off_of N' (.tail _ (.head _)) (fun p hp => .tail _ (.tail _ hp)) hT hic
    refine cut (fun s₁ => SgAt s.heap s.heap.objs.size S I it (mC N S (some (.int (i : Int) t)) (some (.int x t1)) (some (.int (x.fmod 8) t2)) b) (9 * i + 1 + 1) (xs1 ++ sg2 x) s s₁) ?_ ?_
    · intro Mq hMq
      k_steps
      · exact Done.to hMq (sg_end1 tR (by assumption) (by assumption) hT hTr hlen (by rw [sg2, if_pos (by omega)]))
      · exact Done.to hMq (sg_end1 tR (by assumption) (by assumption) hT hTr hlen (by rw [sg2, if_pos (by omega)]))
      · exact Done.to hMq (sg_end0 (by assumption) (by assumption) hT hTr hlen (by rw [sg2, if_neg (by omega), List.append_nil]))
    clear F N' oS oI hT hTr hlen
    generalize hxs2 : xs1 ++ sg2 x = xs2
    rintro s₁ ⟨h1, tk1, vs1, c1, ts1, rfl, F, N', hT, hTr, hlen⟩
    have oS := off_of N' (.head _) (fun p hp => .tail _ (.tail _ hp)) hT (fun e => absurd (Value.type.inj e) (by decide))
    have oI := off_of N' (.tail _ (.head _)) (fun p hp => .tail _ (.tail _ hp)) hT hic
    refine cut (fun s₁ => SgAt s.heap s.heap.objs.size S I it (mC N S (some (.int (i : Int) t)) (some (.int x t1)) (some (.int (x.fmod 8) t2)) b) (9 * i + 1 + 1 + 1) (xs2 ++ sg3 x) s s₁) ?_ ?_
    · intro Mq hMq
      k_steps
      all_goals first
        | exact Done.to hMq (sg_end1 (tU (x.fdiv 32)) (by assumption) (by assumption) hT hTr hlen (by rw [sg3, if_pos (by omega)]))
        | exact Done.to hMq (sg_end0 (by assumption) (by assumption) hT hTr hlen (by rw [sg3, if_neg (by omega), List.append_nil]))
    clear F N' oS oI hT hTr hlen
    generalize hxs3 : xs2 ++ sg3 x = xs3
    rintro s₁ ⟨h1, tk1, vs1, c1, ts1, rfl, F, N', hT, hTr, hlen⟩
    have oS := off_of N' (.head _) (fun p hp => .tail _ (.tail _ hp)) hT (fun e => absurd (Value.type.inj e) (by decide))
    have oI := off_of N' (.tail _ (.head _)) (fun p hp => .tail _ (.tail _ hp)) hT hic
    refine cut (fun s₁ => SgAt s.heap s.heap.objs.size S I it (mC N S (some (.int (i : Int) t)) (some (.int x t1)) (some (.int (x.fmod 8) t2)) b) (9 * i + 1 + 1 + 1 + 1) (xs3 ++ sg4 x) s s₁) ?_ ?_
    · intro Mq hMq
      k_steps
      all_goals first
        | exact Done.to hMq (sg_end1 tC (by assumption) (by assumption) hT hTr hlen (by rw [sg4, if_pos (by omega)]))
        | exact Done.to hMq (sg_end1 tD (by assumption) (by assumption) hT hTr hlen (by rw [sg4, if_neg (by omega), if_pos (by omega)]))
        | exact Done.to hMq (sg_end0 (by assumption) (by assumption) hT hTr hlen (by rw [sg4, if_neg (by omega), if_neg (by omega), List.append_nil]))
    clear F N' oS oI hT hTr hlen
    generalize hxs4 : xs3 ++ sg4 x = xs4
    rintro s₁ ⟨h1, tk1, vs1, c1, ts1, rfl, F, N', hT, hTr, hlen⟩
    have oS := off_of N' (.head _) (fun p hp => .tail _ (.tail _ hp)) hT (fun e => absurd (Value.type.inj e) (by decide))
    have oI := off_of N' (.tail _ (.head _)) (fun p hp => .tail _ (.tail _ hp)) hT hic
    refine cut (fun s₁ => ∃ t3, SgAt s.heap s.heap.objs.size S I it (mC N S (some (.int (i : Int) t)) (some (.int x t1)) (some (.int (x.fmod 8) t2)) (some (.int (sgb i x) t3))) (9 * i + 1 + 1 + 1 + 1) xs4 s s₁) ?_ ?_
    · intro Mq hMq
      k_steps
      · refine ⟨rfl, hMq _ ?_⟩
        rw [show sgb i x = (x.fdiv 8).fmod 4 from if_pos (by omega)]
        exact ⟨_, ⟨_, _, _, _, _, rfl, mC_b .. ▸ (by assumption : Fr _ _ _ fun y => if y = Str.ofString "body" then _ else _), by assumption, hT, hTr, hlen⟩⟩
      · refine ⟨rfl, hMq _ ?_⟩
        rw [show sgb i x = 0 from if_neg (by omega)]
        exact ⟨_, ⟨_, _, _, _, _, rfl, mC_b .. ▸ (by assumption : Fr _ _ _ fun y => if y = Str.ofString "body" then _ else _), by assumption, hT, hTr, hlen⟩⟩
    clear F N' oS oI hT hTr hlen
    generalize hy : sgb i x = y
    rintro s₁ ⟨t3, ⟨h1, tk1, vs1, c1, ts1, rfl, F, N', hT, hTr, hlen⟩⟩
    have oS := off_of N' (.head _) (fun p hp => .tail _ (.tail _ hp)) hT (fun e => absurd (Value.type.inj e) (by decide))
    have oI := off_of N' (.tail _ (.head _)) (fun p hp => .tail _ (.tail _ hp)) hT hic
    refine cut (fun s₁ => SgAt s.heap s.heap.objs.size S I it (mC N S (some (.int (i : Int) t)) (some (.int x t1)) (some (.int (x.fmod 8) t2)) (some (.int y t3))) (9 * i + 1 + 1 + 1 + 1 + 1) (xs4 ++ sg5 y x) s s₁) ?_ ?_
    · intro Mq hMq
      k_steps
      all_goals first
        | exact Done.to hMq (sg_end1 (tU (x.fdiv 32 + 1)) (by assumption) (by assumption) hT hTr hlen (by rw [sg5, if_pos (by omega)]))
        | exact Done.to hMq (sg_end0 (by assumption) (by assumption) hT hTr hlen (by rw [sg5, if_neg (by omega), List.append_nil]))
    clear F N' oS oI hT hTr hlen
    generalize hxs5 : xs4 ++ sg5 y x = xs5
    rintro s₁ ⟨h1, tk1, vs1, c1, ts1, rfl, F, N', hT, hTr, hlen⟩
    have oS := off_of N' (.head _) (fun p hp => .tail _ (.tail _ hp)) hT (fun e => absurd (Value.type.inj e) (by decide))
    have oI := off_of N' (.tail _ (.head _)) (fun p hp => .tail _ (.tail _ hp)) hT hic
    refine cut (fun s₁ => SgAt s.heap s.heap.objs.size S I it (mC N S (some (.int (i : Int) t)) (some (.int x t1)) (some (.int (x.fmod 8) t2)) (some (.int y t3))) (9 * i + 1 + 1 + 1 + 1 + 1 + 3) (xs5 ++ sg6 y x) s s₁) ?_ ?_
    · intro Mq hMq
      k_steps
      all_goals first
        | exact Done.to hMq (sg_end0' (by assumption) (by assumption) hT hTr hlen (by rw [sg6, if_neg (by omega), List.append_nil]))
        | skip
      all_goals
        refine ⟨?_⟩
        refine ListComp_T (h₀ := s.heap) (L := s.heap.objs.size) (m := (mC N S (some (.int (i : Int) t)) (some (.int x t1)) (some (.int (x.fmod 8) t2)) (some (.int y t3)))) (by rfl) (by decide) (by rfl) (by decide) (by rfl) ?_
        k_steps
        have hd := digs' (x.fdiv 32)
        refine ⟨_, _, _, rfl, rfl, by assumption, by assumption, by show (dg (x.fdiv 32)).cps.size ≤ _; rw [PySem.sizeLine_eq]; omega, ?_⟩
        rintro s₂ ⟨g, rfl⟩
        refine figs_rest hT (fun e => absurd (Value.type.inj e) (by decide)) hic ?_ ?_
        · intro c t I oI C oC D m₂ ys ts h tk E' hC hx F N' hT'
          k_steps
          exact ⟨⟨_, _, _, _, _, _, rfl, rfl, by assumption, Nat.ne_of_gt (by omega), Nat.ne_of_gt (by omega), by assumption⟩⟩
        · intro ys ts' hT' hs hTr'
          have hTr' : Tr ts' ys ((dg (x.fdiv 32)).cps.toList.map tL) := hTr'
          have hl' : ys.length = (dg (x.fdiv 32)).cps.size := by rw [hTr'.length, List.length_map, Array.length_toList]
          unfold LCg.FinE
          intro D h tk F N' o1
          have oS := off_of N' (.tail _ (.head _)) (fun p hp => .tail _ (.tail _ (.tail _ hp))) hT' (fun e => absurd (Value.type.inj e) (by decide))
          have oI := off_of N' (.tail _ (.tail _ (.head _))) (fun p hp => .tail _ (.tail _ (.tail _ hp))) hT' hic
          obtain ⟨oDS, oDI, _⟩ := o1
          k_steps
          have hv : vs1.length ≤ 100 := by rw [hTr.length]; omega
          have U : Upd S (W.listOf vs1.toArray c1) (W.listOf (vs1 ++ ys).toArray (c1 + 1)) ((D, LCg.lst ys) :: (S, W.listOf vs1.toArray c1) :: (I, it) :: ts') ((D, LCg.lst ys) :: (S, W.listOf (vs1 ++ ys).toArray (c1 + 1)) :: (I, it) :: ts') := by k_upd
          refine kl_extend (by assumption) N' (.head _) rfl ?_ U ?_ ?_ ?_ ?_
          · show ys.length ≠ 0; omega
          · simp only [Bool.and_eq_true, Builtin.List.listTooLong, decide_eq_true_eq, List.size_toArray]
            rw [PySem.sizeLine_eq]
            omega
          · show vs1.length ≤ _; rw [PySem.sizeLine_eq]; omega
          · rw [List.size_toArray, List.size_toArray, PySem.sizeLine_eq]; omega
          intro h' F' N'
          k_steps
          exact Done.to hMq (sg_endN (by assumption) (by assumption) hT' hs hTr hTr' hlen (by rw [List.length_map, Array.length_toList]; omega) (by rw [sg6, if_pos (by omega)]))
    clear F N' oS oI hT hTr hlen
    generalize hxs6 : xs5 ++ sg6 y x = xs6
    rintro s₁ ⟨h1, tk1, vs1, c1, ts1, rfl, F, N', hT, hTr, hlen⟩
    have oS := off_of N' (.head _) (fun p hp => .tail _ (.tail _ hp)) hT (fun e => absurd (Value.type.inj e) (by decide))
    have oI := off_of N' (.tail _ (.head _)) (fun p hp => .tail _ (.tail _ hp)) hT hic
    refine cut (fun s₁ => SgAt s.heap s.heap.objs.size S I it (mC N S (some (.int (i : Int) t)) (some (.int x t1)) (some (.int (x.fmod 8) t2)) (some (.int y t3))) (9 * i + 1 + 1 + 1 + 1 + 1 + 3 + 1) (xs6 ++ sg7 y) s s₁) ?_ ?_
    · intro Mq hMq
      k_steps
      all_goals first
        | exact Done.to hMq (sg_end1 tQ (by assumption) (by assumption) hT hTr hlen (by rw [sg7, if_pos (by omega)]))
        | exact Done.to hMq (sg_end0 (by assumption) (by assumption) hT hTr hlen (by rw [sg7, if_neg (by omega), List.append_nil]))
    clear F N' oS oI hT hTr hlen
    generalize hxs7 : xs6 ++ sg7 y = xs7
    rintro s₁ ⟨h1, tk1, vs1, c1, ts1, rfl, F, N', hT, hTr, hlen⟩
    have oS := off_of N' (.head _) (fun p hp => .tail _ (.tail _ hp)) hT (fun e => absurd (Value.type.inj e) (by decide))
    have oI := off_of N' (.tail _ (.head _)) (fun p hp => .tail _ (.tail _ hp)) hT hic
    k_steps
    subst hit
    refine hQ2 _ _ ⟨rfl, _, _, _, (S, W.listOf vs1.toArray c1) :: ts1, rfl, by assumption, news_swap N', ?_, _, _, _, _, vs1, c1, ts1, rfl, rfl, hT, ?_, ?_⟩
    · intro p hp
      rcases List.mem_cons.mp hp with rfl | hp
      · exact Nat.ne_of_lt (by assumption)
      · exact oI p hp
    · show Tr ts1 vs1 (sgTo ns i ++ sgOne i (ns.getD i 0))
      rw [hxx, hxs, sgOne, hy, ← List.append_assoc, hxs1, ← List.append_assoc, hxs2, ← List.append_assoc, hxs3, ← List.append_assoc, hxs4, ← List.append_assoc, hxs5, ← List.append_assoc, hxs6, hxs7]
      exact hTr
    · show (sgTo ns i ++ sgOne i (ns.getD i 0)).length ≤ _
      rw [hxx, hxs, sgOne, hy, ← List.append_assoc, hxs1, ← List.append_assoc, hxs2, ← List.append_assoc, hxs3, ← List.append_assoc, hxs4, ← List.append_assoc, hxs5, ← List.append_assoc, hxs6, hxs7]
      omega
  · rintro m news h tk ⟨P, n, k, b, vs, c, ts, rfl, rfl, hT, hTr, hlen⟩ F N'
    k_steps
    exact hret _ _ _ (Fr.keep (by assumption)) ⟨S, vs, c, ts, rfl, hT, hTr, fun p hp => ⟨(N' p hp).1, (N' p hp).2.2⟩⟩
end
end Mine
end
section
open PySem PySem.W PySem.Calls PyProof.Rows
namespace Mine
section
variable {prog : Program} {w : World} {A : Around} {E : Value → Shared → Prop} {s : Shared} {env : Env} {h₀ : Heap} {target : Expr} {body : List Stmt} {Q : Flow → Shared → Prop}
/-- one turn's end -/
noncomputable def TurnEnd (h₀ : Heap) (L : Addr) (led : List (Addr × Obj)) (J : (Str → Option Value) → Prop) (s : Shared) (f : Flow) (s₃ : Shared) : Prop :=
  f = .next ∧ ∃ h' tk' m', s₃ = { s with heap := h', toks := tk' } ∧ Fr h₀ L h' m' ∧ News h₀ L h' led ∧ J m'
theorem items_rest {I : Addr} {cl : String} {news : List (Addr × Obj)} (off : ∀ p ∈ news, p.1 < I) {vs : List Value} (J : Nat → (Str → Option Value) → Prop)
    (turn : ∀ i v m h tk oI, vs[i]? = some v → J i m → Fr h₀ env.locals h m → News h₀ env.locals h ((I, oI) :: news) → oI.cls = .type cl →
      wpAny (model prog w) A (assign target env v) (fun _ s₂ => wpAny (model prog w) A (execs body env) (fun f s₃ => Done (TurnEnd h₀ env.locals ((I, oI) :: news) (J (i + 1)) { s with heap := h, toks := tk } f s₃)) E s₂) E { s with heap := h, toks := tk })
    (done : ∀ m h tk, J vs.length m → Fr h₀ env.locals h m → News h₀ env.locals h news → Q .next { s with heap := h, toks := tk }) :
    ∀ (r : List Value) i m, vs.drop i = r → i ≤ vs.length → J i m → ItemsRest prog w A E h₀ env target body Q s [(I, cl)] [] (r.map .val) m news := by
  intro r
  induction r with
  | nil =>
    intro i m hr hi hJ
    have e : i = vs.length := by
      have := congrArg List.length hr
      simp at this; omega
    subst e
    exact .zero fun h tk F N => done m h tk hJ F N
  | cons v r ih =>
    intro i m hr hi hJ
    have hv : vs[i]? = some v := by
      have := congrArg List.head? hr
      simpa using this
    have hi' : i < vs.length := (List.getElem?_eq_some_iff.mp hv).1
    have hr' : vs.drop (i + 1) = r := by
      have := congrArg List.tail hr
      simpa using this
    refine .val fun h tk F => .cons fun oI hc => .nil fun N => ?_
    have N' : News h₀ env.locals h ((I, oI) :: news) := N
    refine wpAny_mono (turn i v m h tk oI hv hJ F N' hc) (fun _ s₂ h₂ => wpAny_mono h₂ (fun f s₃ h₃ => ?_) fun _ _ e => e) fun _ _ e => e
    obtain ⟨⟨rfl, h', tk', m', rfl, F', N'', hJ'⟩⟩ := h₃
    refine ⟨h', tk', m', news, rfl, F', N'', fun p hp q hq => ?_, trivial, ih (i + 1) m' hr' hi' hJ'⟩
    rw [List.mem_singleton.mp hq]
    exact Nat.ne_of_lt (off p hp)
theorem for_list {l : Addr} {vs : List Value} {m₀ : Str → Option Value} {news : List (Addr × Obj)} (J : Nat → (Str → Option Value) → Prop)
    (hh : A.handled = none) (F : Fr h₀ env.locals s.heap m₀) (N : News h₀ env.locals s.heap news) (hl : h₀.IsList l vs.toArray) (h0 : J 0 m₀)
    (turn : ∀ I i v m h tk oI, vs[i]? = some v → J i m → Fr h₀ env.locals h m → News h₀ env.locals h ((I, oI) :: news) → oI.cls = .type "list_iterator" →
      wpAny (model prog w) A (assign target env v) (fun _ s₂ => wpAny (model prog w) A (execs body env) (fun f s₃ => Done (TurnEnd h₀ env.locals ((I, oI) :: news) (J (i + 1)) { s with heap := h, toks := tk } f s₃)) E s₂) E { s with heap := h, toks := tk })
    (done : ∀ m h tk, J vs.length m → Fr h₀ env.locals h m → News h₀ env.locals h news → Q .next { s with heap := h, toks := tk }) :
    wpAny (model prog w) A (pyIter (.ref l)) (fun it s₂ => TurnsAt prog w A h₀ env target body Q E it s₂) E s := by
  obtain ⟨lo, hlo, hc, n, hd⟩ := id hl
  have hax : s.heap.get? l = some lo := F.keep _ _ hlo
  have hls : s.heap.IsList l vs.toArray := ⟨lo, hax, hc, n, hd⟩
  have hlt : l < s.heap.objs.size := Heap.lt_size hax
  have hne : l ≠ s.heap.objs.size := Nat.ne_of_lt hlt
  refine wpAny_pyIter_list hls ?_
  refine ktg_core (tk0 := s.toks) (keep := []) (ws := [(s.heap.objs.size, "list_iterator")]) (xs := vs.map .val) (KTurns.ofWalks (Walks.list hh s.heap.objs.size l hne vs.toArray) fun i v s Q E st q => letGo_listiter st.1 q) (by simp) (fun i v h hp => ⟨.val v, ?_, rfl⟩) (fun i h st => ?_) (fun b hb => ?_) (fun b hb => by simpa using hb) (fun b hb => ?_) ?_ (fun p hp hI => ?_) ?_ (F.push _) (fun p hp => ⟨Heap.get?_push_of_some _ (N p hp).1, (N p hp).2⟩) trivial
    (items_rest (fun p hp => Heap.lt_size (N p hp).1) J (turn _) done vs 0 m₀ rfl (Nat.zero_le _) h0)
  · have hp' : vs.toArray[i]? = some v := hp
    simpa using hp'
  · obtain ⟨it, hit, hic, _⟩ := st.1
    exact ⟨[(s.heap.objs.size, it)], ⟨⟨rfl, hic⟩, trivial⟩, fun p hp => by rw [List.mem_singleton.mp hp]; exact hit⟩
  · have hb' : b = s.heap.objs.size := by simpa using hb
    rw [hb']
    exact ⟨List.mem_cons_self .., next_is_new F⟩
  · have hb' : b = s.heap.objs.size ∨ b = l := by simpa using hb
    rcases hb' with e | e
    · exact .inl (by simp [e])
    · exact .inr (.inr ⟨lo, by rw [e]; exact hlo⟩)
  · intro hI
    rcases List.mem_cons.mp hI with e | hI
    · exact absurd F.ns.lt (e ▸ Nat.lt_irrefl _)
    · have e : env.locals = l := List.mem_singleton.mp hI
      exact absurd (Heap.lt_size hlo) (Nat.not_lt.mpr (e ▸ F.above))
  · exact absurd (Heap.lt_size (N p hp).1) ((List.mem_singleton.mp hI) ▸ Nat.lt_irrefl _)
  · exact ⟨⟨_, Heap.get?_push_size _ rfl, rfl, rfl⟩, hls.at fun o e => Heap.get?_push_of_some _ e⟩
theorem items_restT {I : Addr} {cl : String} {news : List (Addr × Obj)} (off : ∀ p ∈ news, p.1 < I) {cs : List Nat} (J : Nat → (Str → Option Value) → Prop)
    (turn : ∀ i c u m h tk oI, cs[i]? = some c → J i m → Fr h₀ env.locals h m → News h₀ env.locals h ((I, oI) :: news) → oI.cls = .type cl →
      wpAny (model prog w) A (assign target env (.str ⟨#[c]⟩ u)) (fun _ s₂ => wpAny (model prog w) A (execs body env) (fun f s₃ => Done (TurnEnd h₀ env.locals ((I, oI) :: news) (J (i + 1)) { s with heap := h, toks := tk } f s₃)) E s₂) E { s with heap := h, toks := tk })
    (done : ∀ m h tk, J cs.length m → Fr h₀ env.locals h m → News h₀ env.locals h news → Q .next { s with heap := h, toks := tk }) :
    ∀ (r : List Nat) i m, cs.drop i = r → i ≤ cs.length → J i m → ItemsRest prog w A E h₀ env target body Q s [(I, cl)] [] (r.map fun c => .tok fun u => .str ⟨#[c]⟩ u) m news := by
  intro r
  induction r with
  | nil =>
    intro i m hr hi hJ
    have e : i = cs.length := by
      have := congrArg List.length hr
      simp at this; omega
    subst e
    exact .zero fun h tk F N => done m h tk hJ F N
  | cons c r ih =>
    intro i m hr hi hJ
    have hv : cs[i]? = some c := by
      have := congrArg List.head? hr
      simpa using this
    have hi' : i < cs.length := (List.getElem?_eq_some_iff.mp hv).1
    have hr' : cs.drop (i + 1) = r := by
      have := congrArg List.tail hr
      simpa using this
    refine .tok fun u h tk F => .cons fun oI hc => .nil fun N => ?_
    have N' : News h₀ env.locals h ((I, oI) :: news) := N
    refine wpAny_mono (turn i c u m h tk oI hv hJ F N' hc) (fun _ s₂ h₂ => wpAny_mono h₂ (fun f s₃ h₃ => ?_) fun _ _ e => e) fun _ _ e => e
    obtain ⟨⟨rfl, h', tk', m', rfl, F', N'', hJ'⟩⟩ := h₃
    refine ⟨h', tk', m', news, rfl, F', N'', fun p hp q hq => ?_, trivial, ih (i + 1) m' hr' hi' hJ'⟩
    rw [List.mem_singleton.mp hq]
    exact Nat.ne_of_lt (off p hp)
theorem for_str {x : Str} {t : Tok} {m₀ : Str → Option Value} {news : List (Addr × Obj)} (J : Nat → (Str → Option Value) → Prop)
    (hh : A.handled = none) (hgo : ∀ it v, letOwnedTupleGo target it v = pure ()) (F : Fr h₀ env.locals s.heap m₀) (N : News h₀ env.locals s.heap news) (h0 : J 0 m₀)
    (turn : ∀ I i c u m h tk oI, x.cps.toList[i]? = some c → J i m → Fr h₀ env.locals h m → News h₀ env.locals h ((I, oI) :: news) →
      wpAny (model prog w) A (assign target env (.str ⟨#[c]⟩ u)) (fun _ s₂ => wpAny (model prog w) A (execs body env) (fun f s₃ => Done (TurnEnd h₀ env.locals ((I, oI) :: news) (J (i + 1)) { s with heap := h, toks := tk } f s₃)) E s₂) E { s with heap := h, toks := tk })
    (done : ∀ m h tk, J x.cps.toList.length m → Fr h₀ env.locals h m → News h₀ env.locals h news → Q .next { s with heap := h, toks := tk }) :
    wpAny (model prog w) A (pyIter (.str x t)) (fun it s₂ => TurnsAt prog w A h₀ env target body Q E it s₂) E s := by
  have core : ∀ (cl : String) (o : Obj) (St : Nat → Heap → Prop), Walks prog w A s.heap.objs.size [s.heap.objs.size] [s.heap.objs.size] x.cps.size (SignAt x) St → (∀ i h, St i h → ∃ it, h.get? s.heap.objs.size = some it ∧ it.cls = .type cl) → St 0 (s.heap.push o) →
      TurnsAt prog w A h₀ env target body Q E (.ref s.heap.objs.size) { s with heap := s.heap.push o } := by
    intro cl o St W hI hst
    refine ktg_core (tk0 := s.toks) (keep := []) (ws := [(s.heap.objs.size, cl)]) (xs := x.cps.toList.map fun c => .tok fun u => .str ⟨#[c]⟩ u) (KTurns.ofWalks W fun i v s Q E st q => wpAny_of_eq (hgo _ v) q) (by simp) (fun i v h hp => ?_) (fun i h st => ?_) (fun b hb => ?_) (fun b hb => by simpa using hb) (fun b hb => ?_) ?_ (fun p hp hI => ?_) hst (F.push _) (fun p hp => ⟨Heap.get?_push_of_some _ (N p hp).1, (N p hp).2⟩) trivial
      (items_restT (fun p hp => Heap.lt_size (N p hp).1) J (fun i c u m h tk oI a b d e _ => turn _ i c u m h tk oI a b d e) done x.cps.toList 0 m₀ rfl (Nat.zero_le _) h0)
    · obtain ⟨c, u, hc, rfl⟩ := hp
      exact ⟨.tok fun u => .str ⟨#[c]⟩ u, by simp [hc], u, rfl⟩
    · obtain ⟨it, hit, hic⟩ := hI i h st
      exact ⟨[(s.heap.objs.size, it)], ⟨⟨rfl, hic⟩, trivial⟩, fun p hp => by rw [List.mem_singleton.mp hp]; exact hit⟩
    · have hb' : b = s.heap.objs.size := by simpa using hb
      rw [hb']
      exact ⟨List.mem_cons_self .., next_is_new F⟩
    · exact .inl (by simpa using hb)
    · intro hI
      exact absurd F.ns.lt ((List.mem_singleton.mp hI) ▸ Nat.lt_irrefl _)
    · exact absurd (Heap.lt_size (N p hp).1) ((List.mem_singleton.mp hI) ▸ Nat.lt_irrefl _)
  cases ha : x.cps.all (· < 128)
  · refine wpAny_pyIter_wide ha ?_
    exact core "str_iterator" _ _ (Walks.strWide hh _ x t) (fun i h st => by obtain ⟨o, e, c, _⟩ := st; exact ⟨o, e, c⟩) ⟨_, Heap.get?_push_size _ rfl, rfl, rfl⟩
  · refine wpAny_pyIter_ascii ha ?_
    exact core "str_ascii_iterator" _ _ (Walks.strAscii hh _ x t) (fun i h st => by obtain ⟨o, e, c, _⟩ := st; exact ⟨o, e, c⟩) ⟨_, Heap.get?_push_size _ rfl, rfl, rfl⟩
end
/-! texts of one sign each -/
inductive Ones : List Value → List Nat → Prop
  | nil : Ones [] []
  | cons (c : Nat) (u : Tok) {vs : List Value} {cs : List Nat} : Ones vs cs → Ones (.str ⟨#[c]⟩ u :: vs) (c :: cs)
theorem Ones.of_at : ∀ (vs : List Value) (cs : List Nat), vs.length = cs.length → (∀ (j : Nat) (v : Value), vs[j]? = some v → ∃ c u, cs[j]? = some c ∧ v = Value.str ⟨#[c]⟩ u) → Ones vs cs
  | [], [], _, _ => .nil
  | [], _ :: _, h, _ => by simp at h
  | _ :: _, [], h, _ => by simp at h
  | v :: vs, c :: cs, h, hv => by
    obtain ⟨k, t, hk, e⟩ := hv 0 v rfl
    have e' : c = k := by simpa using hk
    subst e'
    subst e
    exact .cons _ _ (Ones.of_at vs cs (by simpa using h) fun j u hu => by simpa using hv (j + 1) u (by simpa using hu))
theorem Ones.filter {p : Value → Bool} {q : Nat → Bool} (h : ∀ c u, p (Value.str ⟨#[c]⟩ u) = q c) : ∀ {vs : List Value} {cs : List Nat}, Ones vs cs → Ones (vs.filter p) (cs.filter q)
  | _, _, .nil => .nil
  | _, _, .cons c u r => by
    rw [List.filter_cons, List.filter_cons, h c u]
    cases q c
    · exact Ones.filter h r
    · exact .cons c u (Ones.filter h r)
theorem Ones.reads (h : Heap) : ∀ {vs : List Value} {cs : List Nat}, Ones vs cs → ReadsAll h vs (cs.map fun c => PyData.str ⟨#[c]⟩) []
  | _, _, .nil => .nil
  | _, _, .cons c u r => .cons (as := []) (bs := []) (.str _ _) (Ones.reads h r)
theorem ones_lay : ∀ (cs : List Nat), (∀ c ∈ cs, c < 0x110000) → PyData.canLayAll0 (cs.map fun c => PyData.str ⟨#[c]⟩) = true
  | [], _ => rfl
  | c :: cs, h => by
    rw [List.map_cons, PyData.canLayAll0, ones_lay cs fun d hd => h d (.tail _ hd)]
    have := h c (.head _)
    simp [PyData.canLay0, PyData.strOk, this]
end Mine
end
local macro_rules | `(tactic| walk_at "idle 10") => `(tactic| fail)
local macro_rules | `(tactic| walk_at "idle 11") => `(tactic| fail)
local macro_rules | `(tactic| walk_at "idle 12") => `(tactic| fail)
local macro_rules | `(tactic| walk_at "idle 13") => `(tactic| fail)
local macro_rules | `(tactic| walk_at "idle 14") => `(tactic| fail)
section
open PySem PySem.W PySem.Calls PyProof.Rows
namespace Mine
local macro_rules | `(tactic| k_room) => `(tactic| exact Nat.le_of_ble_eq_true rfl)
theorem fill_told : (K = K ∧ PySem.Challenge.rw_tr0051_01 = PySem.Challenge.rw_tr0051_01) → True := by
  k_fill
  intro _
  trivial
theorem Tr.get {ts : List (Addr × Obj)} : ∀ {vs : List Value} {xs : List T3}, Tr ts vs xs → ∀ {i : Nat} {v : Value}, vs[i]? = some v → ∃ x a u1 u2 u3, v = .ref a ∧ xs[i]? = some x ∧ (a, tri (.str x.k u1) (.str x.s u2) (.str x.f u3)) ∈ ts
  | _, _, .nil, i, v, h => by simp at h
  | _, _, .cons (a := a) (x := x) (u1 := u1) (u2 := u2) (u3 := u3) hm r, 0, v, h => by
    simp at h
    exact ⟨x, a, u1, u2, u3, h.symm, rfl, hm⟩
  | _, _, .cons hm r, i + 1, v, h => by
    obtain ⟨x, a, u1, u2, u3, e, hx, hm⟩ := Tr.get r (i := i) (by simpa using h)
    exact ⟨x, a, u1, u2, u3, e, by simpa using hx, hm⟩
noncomputable def kq (a : Str) (b : String) : Bool := a == Str.ofString b
/-- one sign's turn: what is told, and the kind ahead -/
noncomputable def tstep (sent seen prep : Bool) (p : Str × Str) (x : T3) : Str × Str :=
  if kq x.k "unseen" then (if prep then p.1 else p.1 ++ x.s, if seen then x.k else p.2)
  else (if sent && (kq x.k "return" || (kq x.k "feed" && p.2 != Str.ofString "return")) then p.1 ++ Str.ofString "\r\n"
    else if sent && (kq x.k "dot" && (kq p.2 "return" || kq p.2 "feed")) then p.1 ++ Str.ofString ".."
    else if sent && kq x.k "feed" then p.1 else p.1 ++ (if prep then x.f else x.s), x.k)
noncomputable def toldTo (sent seen prep : Bool) (xs : List T3) : Str × Str := xs.foldl (tstep sent seen prep) (Str.ofString "", Str.ofString "lasting")
noncomputable def mT (S : Addr) (sent seen prep : Bool) (told ahead kd sg fo be : Option Value) : Str → Option Value := fun y =>
  if y = Str.ofString "behind_end" then be else if y = Str.ofString "ahead" then ahead else if y = Str.ofString "told" then told else
  if y = Str.ofString "fold" then fo else if y = Str.ofString "sign" then sg else if y = Str.ofString "kind" then kd else
  if y = Str.ofString "prepared" then some (.bool prep) else if y = Str.ofString "seen" then some (.bool seen) else if y = Str.ofString "sent" then some (.bool sent) else if y = Str.ofString "signs" then some (.ref S) else none
theorem mT_kinds (S : Addr) (sent seen prep : Bool) (told ahead kd sg fo be kd' sg' fo' : Option Value) :
    (fun y => if y = Str.ofString "fold" then fo' else (fun y => if y = Str.ofString "sign" then sg' else (fun y => if y = Str.ofString "kind" then kd' else mT S sent seen prep told ahead kd sg fo be y) y) y) = mT S sent seen prep told ahead kd' sg' fo' be := by
  funext y
  by_cases h1 : y = Str.ofString "fold"
  · subst h1; rfl
  by_cases h2 : y = Str.ofString "sign"
  · subst h2; rfl
  by_cases h3 : y = Str.ofString "kind"
  · subst h3; rfl
  simp only [mT, if_neg h1, if_neg h2, if_neg h3]
theorem mT_told (S : Addr) (sent seen prep : Bool) (told ahead kd sg fo be v : Option Value) : (fun y => if y = Str.ofString "told" then v else mT S sent seen prep told ahead kd sg fo be y) = mT S sent seen prep v ahead kd sg fo be := by
  funext y
  by_cases h1 : y = Str.ofString "told"
  · subst h1; rfl
  simp only [mT, if_neg h1]
theorem mT_ahead (S : Addr) (sent seen prep : Bool) (told ahead kd sg fo be v : Option Value) : (fun y => if y = Str.ofString "ahead" then v else mT S sent seen prep told ahead kd sg fo be y) = mT S sent seen prep told v kd sg fo be := by
  funext y
  by_cases h1 : y = Str.ofString "ahead"
  · subst h1; rfl
  simp only [mT, if_neg h1]
theorem mT_be (S : Addr) (sent seen prep : Bool) (told ahead kd sg fo be v : Option Value) : (fun y => if y = Str.ofString "behind_end" then v else mT S sent seen prep told ahead kd sg fo be y) = mT S sent seen prep told ahead kd sg fo v := by
  funext y
  by_cases h1 : y = Str.ofString "behind_end"
  · subst h1; rfl
  simp only [mT, if_neg h1]
theorem add3 {x y : Str} (h1 : x.length ≤ 180) (h2 : y.length ≤ 3) : x.length + y.length ≤ sizeLine := by rw [PySem.sizeLine_eq]; omega
theorem mT_both (S : Addr) (sent seen prep : Bool) (told ahead kd sg fo be v v' : Option Value) : (fun y => if y = Str.ofString "ahead" then v' else if y = Str.ofString "told" then v else mT S sent seen prep told ahead kd sg fo be y) = mT S sent seen prep v v' kd sg fo be := by
  funext y
  by_cases h1 : y = Str.ofString "ahead"
  · subst h1; rfl
  by_cases h2 : y = Str.ofString "told"
  · subst h2; rfl
  simp only [mT, if_neg h1, if_neg h2]
noncomputable def TJ (S : Addr) (sent seen prep : Bool) (p : Str × Str) (m : Str → Option Value) : Prop := ∃ u1 u2 kd sg fo be, m = mT S sent seen prep (some (.str p.1 u1)) (some (.str p.2 u2)) kd sg fo be
theorem t_end {h₀ h : Heap} {L S : Addr} {led : List (Addr × Obj)} {m : Str → Option Value} {sent seen prep : Bool} {p q : Str × Str} {u1 u2 : Tok} {kd sg fo be : Option Value} {s : Shared} {tk : Nat} (F : Fr h₀ L h m) (N : News h₀ L h led)
    (e : m = mT S sent seen prep (some (.str q.1 u1)) (some (.str q.2 u2)) kd sg fo be) (hq : p = q) : Done (TurnEnd h₀ L led (TJ S sent seen prep p) s .next { s with heap := h, toks := tk }) := by
  subst hq
  exact ⟨rfl, h, tk, m, rfl, F, N, u1, u2, kd, sg, fo, be, e⟩
structure TAt (h₀ : Heap) (L : Addr) (led : List (Addr × Obj)) (m : Str → Option Value) (s s₁ : Shared) : Prop where
  it : ∃ h tk, s₁ = { s with heap := h, toks := tk } ∧ Fr h₀ L h m ∧ News h₀ L h led
theorem be_end {h₀ h : Heap} {L : Addr} {led : List (Addr × Obj)} {m m' : Str → Option Value} {s : Shared} {tk : Nat} (F : Fr h₀ L h m) (N : News h₀ L h led) (e : m = m') : Done (Flow.next = .next ∧ TAt h₀ L led m' s { s with heap := h, toks := tk }) := by
  subst e
  exact ⟨rfl, ⟨h, tk, rfl, F, N⟩⟩
theorem if_end {h₀ h : Heap} {L : Addr} {led : List (Addr × Obj)} {m : Str → Option Value} {g : Str → Tok → Str → Option Value} {s : Shared} {tk : Nat} {t t' : Str} {u : Tok} (F : Fr h₀ L h m) (N : News h₀ L h led) (e : m = g t u) (h2 : t' = t) :
    Done (Flow.next = .next ∧ ∃ u3, TAt h₀ L led (g t' u3) s { s with heap := h, toks := tk }) := by
  subst e h2
  exact ⟨rfl, u, ⟨h, tk, rfl, F, N⟩⟩
theorem toldTo_succ {sent seen prep : Bool} {xs : List T3} {i : Nat} {x : T3} (hx : xs[i]? = some x) : toldTo sent seen prep (xs.take (i + 1)) = tstep sent seen prep (toldTo sent seen prep (xs.take i)) x := by
  unfold toldTo
  rw [List.take_add_one, hx, List.foldl_append]
  rfl
theorem str_len_append (x y : Str) : (x ++ y).length = x.length + y.length := by
  show (x.cps ++ y.cps).size = _
  rw [Array.size_append]; rfl
theorem tstep_len {sent seen prep : Bool} {p : Str × Str} {x : T3} (h1 : x.s.length ≤ 3) (h2 : x.f.length ≤ 3) : (tstep sent seen prep p x).1.length ≤ p.1.length + 3 := by
  have e1 : (Str.ofString "\r\n").length = 2 := by decide
  have e2 : (Str.ofString "..").length = 2 := by decide
  unfold tstep
  repeat' split
  all_goals dsimp only
  all_goals (try rw [str_len_append])
  all_goals omega
theorem toldTo_len {sent seen prep : Bool} : ∀ (xs : List T3) (p : Str × Str), (∀ x ∈ xs, x.s.length ≤ 3 ∧ x.f.length ≤ 3) → (xs.foldl (tstep sent seen prep) p).1.length ≤ p.1.length + 3 * xs.length
  | [], p, _ => Nat.le_refl _
  | x :: xs, p, h => by
    have a := toldTo_len (sent := sent) (seen := seen) (prep := prep) xs (tstep sent seen prep p x) fun y hy => h y (.tail _ hy)
    have b := tstep_len (sent := sent) (seen := seen) (prep := prep) (p := p) (h x (.head _)).1 (h x (.head _)).2
    rw [List.foldl_cons, List.length_cons]
    omega
theorem mT_start (S : Addr) (sent seen prep : Bool) (v v' : Option Value) : (fun y => if y = Str.ofString "ahead" then v' else if y = Str.ofString "told" then v else List.lookup y [(Str.ofString "prepared", .bool prep), (Str.ofString "seen", .bool seen), (Str.ofString "sent", .bool sent), (Str.ofString "signs", .ref S)]) = mT S sent seen prep v v' none none none none := by
  funext y
  by_cases h1 : y = Str.ofString "ahead"
  · subst h1; rfl
  by_cases h2 : y = Str.ofString "told"
  · subst h2; rfl
  by_cases h3 : y = Str.ofString "prepared"
  · subst h3; rfl
  by_cases h4 : y = Str.ofString "seen"
  · subst h4; rfl
  by_cases h5 : y = Str.ofString "sent"
  · subst h5; rfl
  by_cases h6 : y = Str.ofString "signs"
  · subst h6; rfl
  have b3 : (y == Str.ofString "prepared") = false := beq_false_of_ne h3
  have b4 : (y == Str.ofString "seen") = false := beq_false_of_ne h4
  have b5 : (y == Str.ofString "sent") = false := beq_false_of_ne h5
  have b6 : (y == Str.ofString "signs") = false := beq_false_of_ne h6
  simp only [mT, if_neg h1, if_neg h2, if_neg h3, if_neg h4, if_neg h5, if_neg h6, List.lookup, b3, b4, b5, b6, ite_self]
section
variable {w : World} {mean : ExcName → Option Value} {mg mb : Str → Option Value}
local macro_rules | `(tactic| walk_at "exec For Tuple Name cons nil") => `(tactic| refine Hold.it ?_)
local macro_rules | `(tactic| walk_at "pyIter ref") => `(tactic| refine Hold.it ?_)
local macro_rules | `(tactic| walk_at "execs cons") => `(tactic| ((with_reducible show wpAny _ _ (execs (Stmt.Assign [Expr.Name (Str.ofString "behind_end") _] _ _ :: _) _) _ _ _); refine Hold.it ?_))
local macro_rules | `(tactic| walk_at "binaryOp Add str str") => `(tactic| (k_dflt (refine add_str (fun t' tk' => ?_) (add3 (by assumption) (by first | assumption | decide)))))
set_option maxHeartbeats 1000000 in
theorem told_spec (S : Addr) (us : List Value) (c : Nat) (ts : List (Addr × Obj)) (xs : List T3) (hTr : Tr ts us xs) (hlx : xs.length ≤ 60) (hsx : ∀ x ∈ xs, x.s.length ≤ 3 ∧ x.f.length ≤ 3) (sent seen prep : Bool) :
    Spec w mean mg mb 0 175 [.ref S, .bool sent, .bool seen, .bool prep] (fun h => ∀ p ∈ (S, W.listOf us.toArray c) :: ts, h.get? p.1 = some p.2) (fun _ v _ => ∃ u, v = .str (toldTo sent seen prep xs).1 u) := by
  intro base outer s Q E B KX T hpre hret
  refine wpAny_call ?_
  refine' enter ?k1 ?k2 ?k6 ?k7 ?k8 ?k9 ?kB ?_ ?c2 ?c3 ?c4 ?c5
  case k1 => exact KX
  case k2 => exact T
  case k6 => k_is
  case k7 => k_is
  case k8 => exact Nat.le_of_ble_eq_true rfl
  case k9 => exact BindsTo.of_eq rfl
  case kB => exact locs rfl
  case c2 => rfl
  case c3 => rfl
  case c4 => rfl
  case c5 => decide
  intro h₁ F Nn
  dsimp only
  k_fold
  k_steps
  refine ⟨For_turns (by assumption) ?_⟩
  k_steps
  refine ⟨for_list (fun i m => TJ S sent seen prep (toldTo sent seen prep (xs.take i)) m) rfl (by assumption) (by assumption) ⟨_, hpre _ (.head _), rfl, _, rfl⟩ ?_ ?_ ?_⟩
  · exact ⟨_, _, _, _, _, _, mT_start ..⟩
  · rintro I i v m h tk oI hv ⟨u1, u2, kd, sg, fo, be, rfl⟩ F N hc
    obtain ⟨x, a, v1, v2, v3, rfl, hx, ha⟩ := hTr.get hv
    have hi : i < xs.length := (List.getElem?_eq_some_iff.mp hx).1
    obtain ⟨hs1, hs2⟩ := hsx x (List.mem_of_getElem? hx)
    have hl : (toldTo sent seen prep (xs.take i)).1.length ≤ 180 := by
      have a := toldTo_len (sent := sent) (seen := seen) (prep := prep) (xs.take i) (Str.ofString "", Str.ofString "lasting") fun y hy => hsx y (List.mem_of_mem_take hy)
      have b : (xs.take i).length ≤ 60 := by rw [List.length_take]; omega
      have e0 : (Str.ofString "").length = 0 := by decide
      unfold toldTo
      dsimp only at a
      omega
    have hst : toldTo sent seen prep (xs.take (i + 1)) = tstep sent seen prep (toldTo sent seen prep (xs.take i)) x := toldTo_succ hx
    rw [hst]
    clear hst
    generalize toldTo sent seen prep (xs.take i) = p at hl F ⊢
    obtain ⟨tt, ah⟩ := p
    dsimp only at hl F ⊢
    refine unpackN_ F N ⟨_, F.keep _ _ (hpre _ (.tail _ ha)), rfl, _, rfl⟩ rfl rfl rfl ?_
    clear F N
    intro h' F N
    refine wpAny_mono (Q := fun _ s₂ => Done (TAt s.heap s.heap.objs.size [(I, oI)] (mT S sent seen prep (some (.str tt u1)) (some (.str ah u2)) (some (.str x.k v1)) (some (.str x.s v2)) (some (.str x.f v3)) be) s s₂)) ?_ ?_ (fun _ _ e => e)
    · k_steps
      exact ⟨⟨_, _, rfl, mT_kinds .. ▸ (by assumption : Fr _ _ _ fun y => if y = Str.ofString "fold" then _ else _), by assumption⟩⟩
    clear F N
    rintro _ s₁ ⟨⟨h1, tk1, rfl, F, N⟩⟩
    refine open_post fun Q2 hQ2 => ?_
    k_steps
    · exact hQ2 _ _ (t_end (q := (tt, x.k)) (by assumption) (by assumption) (mT_ahead ..) (by simp [tstep, kq, *]))
    · exact hQ2 _ _ (t_end (q := (tt, ah)) (by assumption) (by assumption) rfl (by simp [tstep, kq, *]))
    · exact hQ2 _ _ (t_end (q := (tt ++ x.s, x.k)) (by assumption) (by assumption) (mT_both ..) (by simp [tstep, kq, *]))
    · exact hQ2 _ _ (t_end (q := (tt ++ x.s, ah)) (by assumption) (by assumption) (mT_told ..) (by simp [tstep, kq, *]))
    refine ⟨?_⟩
    refine cut (fun s₁ => TAt s.heap s.heap.objs.size [(I, oI)] (mT S sent seen prep (some (.str tt u1)) (some (.str ah u2)) (some (.str x.k v1)) (some (.str x.s v2)) (some (.str x.f v3)) (some (.bool (kq ah "return" || kq ah "feed")))) s s₁) ?_ ?_
    · intro Mq hMq
      k_steps
      · exact Done.to hMq (be_end (by assumption) (by assumption) ((mT_be ..).trans (by simp [kq, *])))
      · exact Done.to hMq (be_end (by assumption) (by assumption) ((mT_be ..).trans (by simp [kq, *])))
    clear F N
    rintro s₁ ⟨⟨h1, tk1, rfl, F, N⟩⟩
    generalize hbe : (kq ah "return" || kq ah "feed") = be1 at F
    have hbe : ((ah == Str.ofString "return") || (ah == Str.ofString "feed")) = be1 := hbe
    have hne : kq x.k "unseen" = false := by assumption
    refine cut (fun s₁ => ∃ u3, TAt s.heap s.heap.objs.size [(I, oI)] (mT S sent seen prep (some (.str (tstep sent seen prep (tt, ah) x).1 u3)) (some (.str ah u2)) (some (.str x.k v1)) (some (.str x.s v2)) (some (.str x.f v3)) (some (.bool be1))) s s₁) ?_ ?_
    · intro Mq hMq
      k_steps
      all_goals first
        | exact Done.to hMq (if_end (g := fun t u => mT S sent seen prep (some (.str t u)) (some (.str ah u2)) (some (.str x.k v1)) (some (.str x.s v2)) (some (.str x.f v3)) (some (.bool be1))) (by assumption) (by assumption) (mT_told ..) (by simp [tstep, kq, *]))
        | exact Done.to hMq (if_end (g := fun t u => mT S sent seen prep (some (.str t u)) (some (.str ah u2)) (some (.str x.k v1)) (some (.str x.s v2)) (some (.str x.f v3)) (some (.bool be1))) (by assumption) (by assumption) rfl (by simp [tstep, kq, *]))
    clear F N
    rintro s₁ ⟨u3, ⟨h1, tk1, rfl, F, N⟩⟩
    k_steps
    exact hQ2 _ _ (t_end (q := ((tstep sent seen prep (tt, ah) x).1, x.k)) (by assumption) (by assumption) (mT_ahead ..) (by simp [tstep, hne]))
  · rintro m h tk ⟨u1, u2, kd, sg, fo, be, rfl⟩ F N
    k_steps
    refine hret _ _ _ (Fr.keep (by assumption)) ⟨u1, ?_⟩
    rw [List.take_of_length_le (Nat.le_of_eq hTr.length.symm)]
end
end Mine
end
local macro_rules | `(tactic| walk_at "idle 15") => `(tactic| fail)
local macro_rules | `(tactic| walk_at "idle 16") => `(tactic| fail)
local macro_rules | `(tactic| walk_at "idle 17") => `(tactic| fail)
local macro_rules | `(tactic| walk_at "idle 18") => `(tactic| fail)
local macro_rules | `(tactic| walk_at "idle 19") => `(tactic| fail)
section
open PySem PySem.W PySem.Calls PyProof.Rows
namespace Mine
section
variable {w : World} {mean : ExcName → Option Value} {mg mb : Str → Option Value}
/-- a def with cells is entered -/
theorem enterX {A : Around} {s : Shared} {R : Result → Shared → Prop} {name qual : Str} {params : Arguments} {body : List Stmt} {scope : Scope} {dV kV doc pm cdv ct oc : Value} {an od : Option Addr} {osl : Array (Option Value)} {f : Addr} {args : Args} {binds : List (Str × Value)}
    (X : (K w.params).In s.heap) (T : TopK mean mg mb s.heap) (ho : (K w.params).lookup f = some ⟨oc, od, .func (fnX name qual params body scope [] dV kV doc pm an cdv ct), osl⟩) (hcd : codeIn (K w.params) cdv qual = true) (hroom : A.depth < recursionLimit)
    (hbind : BindsTo s (fnX name qual params body scope [] dV kV doc pm an cdv ct) args binds)
    (hkind : ∀ n, ∀ x ∈ binds, scope.names.lookup x.1 = some .local ∨ (scope.names.lookup x.1 = some .cell ∧ ((cellsFrom n scope.names []).lookup x.1).isSome = true))
    (hnd : ((cellsFrom 0 scope.names []).map (·.1)).Nodup)
    (h : ∀ h₁ tk cells, Fr s.heap s.heap.objs.size h₁ (bindL (envOfC qual scope s.heap.objs.size f cdv).kindOf binds fun _ => none) → News s.heap s.heap.objs.size h₁ cells →
      CellsAre (bindC (envOfC qual scope s.heap.objs.size f cdv).kindOf binds fun _ => none) (cellsFrom (s.heap.objs.size + 1) scope.names []) cells →
      wpAny (MM w) (A.deeper (envOfC qual scope s.heap.objs.size f cdv)) (execs body (envOfC qual scope s.heap.objs.size f cdv))
        (fun fl s' => R (.ok (.ret (match fl with | .ret v => v | _ => .none))) s')
        (fun e s' => wpAny (MM w) (A.deeper (envOfC qual scope s.heap.objs.size f cdv)) (leaving (envOfC qual scope s.heap.objs.size f cdv) e) (fun _ s'' => R (.error e) s'') (fun e' s'' => R (.error e') s'') s')
        { s with heap := h₁, toks := tk })
    (hco : scope.isCoroutine = false) (hgen : scope.isGenerator = false) (hk : scope.kind = .function) : codeAny (MM w) A (.call (.ref f) args) R s := by
  refine codeAny_call_function hroom (X _ _ ho) rfl hco hgen rfl (codeRec_of X hcd) (hbind _ _ _ _ ?_)
  refine wpAny_newFunctionEnv_cells hk (hkind _) fun env' he s' x => ?_
  subst he
  refine ⟨T.nolimit.keeps x.toInCall.keep, codeAny_func ?_⟩
  obtain ⟨h₁, tk, rfl, _⟩ := x.done
  obtain ⟨cells, NC, Y⟩ := Cl.news (h₀ := s.heap) (Nat.le_refl _) fun n c hm => ⟨x.cell n c (lookup_of_mem_nodup (cellsFrom_names scope.names 0 (s.heap.objs.size + 1) [] [] rfl ▸ hnd) hm), x.above n c hm⟩
  exact h h₁ tk cells ⟨x.toInCall.ns, fun b o e => x.toInCall.keep b o e, Nat.le_refl _⟩ NC Y
end
local macro_rules | `(tactic| k_room) => `(tactic| exact Nat.le_of_ble_eq_true rfl)
theorem fill_due : (K = K ∧ PySem.Challenge.rw_tr0051_01 = PySem.Challenge.rw_tr0051_01) → True := by
  k_fill
  intro _
  trivial
theorem ld_cellC {M : Model} {A : Around} {E : Value → Shared → Prop} {s : Shared} {h₀ : Heap} {L C c : Addr} {news : List (Addr × Obj)} {scope : Scope} {cl : List (Str × Addr)} {env : Env} {x : Str} {pos : Pos} {v : Value} {o : Obj} {Q : Value → Shared → Prop}
    (N : News h₀ L s.heap news) (hm : (c, o) ∈ news) (hd : o.data = .cell (some v)) (h : Q v s) (hc : cl.lookup x = some c)
    (hk : (compEnvC scope cl C env).scope.kind = .function := by rfl) (hx : (compEnvC scope cl C env).kindOf x = some .cell := by rfl) (hb : (x == ("__debug__" : Str)) = false := by decide) :
    wpAny M A (eval (.Name x pos) (compEnvC scope cl C env)) Q E s := wpAny_Name (wpAny_loadName_cell hk hx hc ⟨o, N.get hm, hd⟩ h) hb
theorem IntsAre.filter {p : Value → Bool} {q : Int → Bool} (h : ∀ k t, p (Value.int k t) = q k) : ∀ {vs : List Value} {ns : List Int}, IntsAre vs ns → IntsAre (vs.filter p) (ns.filter q)
  | _, _, .nil => .nil
  | _, _, .cons k t r => by
    rw [List.filter_cons, List.filter_cons, h k t]
    cases q k
    · exact IntsAre.filter h r
    · exact .cons k t (IntsAre.filter h r)
theorem ints_of_at : ∀ (vs : List Value) (ns : List Int), vs.length = ns.length → (∀ (j : Nat) (v : Value), vs[j]? = some v → ∃ k t, ns[j]? = some k ∧ v = Value.int k t) → IntsAre vs ns
  | [], [], _, _ => .nil
  | [], _ :: _, h, _ => by simp at h
  | _ :: _, [], h, _ => by simp at h
  | v :: vs, n :: ns, h, hv => by
    obtain ⟨k, t, hk, e⟩ := hv 0 v rfl
    have e' : n = k := by simpa using hk
    subst e'
    subst e
    exact .cons _ _ (ints_of_at vs ns (by simpa using h) fun j u hu => by simpa using hv (j + 1) u (by simpa using hu))
theorem paired_eq : ∀ {l₁ l₂ : List Value}, Paired (fun v y => y = v) l₁ l₂ → l₂ = l₁
  | _, _, .nil => rfl
  | _, _, .cons h t => by rw [h, paired_eq t]
section
variable {prog : Program} {w : World} {A : Around} {E : Value → Shared → Prop} {s : Shared} {h₀ : Heap} {L l : Addr}
theorem due_len {news : List (Addr × Obj)} {us : List Value} {ns : List Int} {n : Nat} {Q : Value → Shared → Prop} (N : News h₀ L s.heap news) (hm : (l, W.listOf us.toArray n) ∈ news) (hi : IntsAre us ns) (hfit : ns.length ≤ 1000)
    (h : Q (.int (ns.length : Int) (s.toks + 1)) { s with toks := s.toks + 1 + 1 }) : wpAny (model prog w) A (call (.builtin "len") [.ref l]) Q E s := by
  have hl : s.heap.IsList l us.toArray := ⟨_, (N _ hm).1, rfl, n, rfl⟩
  have e : us.toArray.size = ns.length := by rw [List.size_toArray, hi.length]
  exact len_list hl (by rw [e]; omega) (by rw [e]; exact h)
theorem due_item {value slice : PySem.Expr} {news : List (Addr × Obj)} {us : List Value} {ns : List Int} {n : Nat} {k : Int} {u : Tok} {Q : Value → Shared → Prop} (N : News h₀ L s.heap news) (hm : (l, W.listOf us.toArray n) ∈ news) (hi : IntsAre us ns)
    (h0 : 0 ≤ k) (h1 : k < (ns.length : Int)) (hfit : k < 2 ^ 63) (h : ∀ t, Q (.int (ns.getD k.toNat 0) t) s)
    (hs : subscripted slice false (.ref l) (.int k u) = operate [.ref l, .int k u] (getItem (.ref l) (.int k u)) := by with_unfolding_all rfl) :
    wpAny (model prog w) A (subscriptTail value slice (.ref l) (.int k u)) Q E s := by
  have hl : s.heap.IsList l us.toArray := ⟨_, (N _ hm).1, rfl, n, rfl⟩
  obtain ⟨t, ht⟩ := hi.get k.toNat (ns.getD k.toNat 0) (by rw [List.getD_eq_getElem?_getD, List.getElem?_eq_getElem (by omega)]; rfl)
  exact tail_any hl.typeIs slot_list_getitem.lookup (wpAny_getItem_list hl h0 hfit (by simpa using ht) (h t)) hs
end
theorem reads_N {h₀ h : Heap} {L l : Addr} {us : List Value} {cs : List Nat} {n : Nat} {news : List (Addr × Obj)} (N : News h₀ L h news) (hm : (l, W.listOf us.toArray n) ∈ news) (ho : Ones us cs) : Reads h (.ref l) (.list (cs.map fun c => PyData.str ⟨#[c]⟩)) [l] :=
  .list (as := []) (N _ hm).1 rfl rfl (ho.reads h)
noncomputable def digits : Str := Str.ofString "0123456789"
noncomputable def notDig : Value → Bool
  | .str y _ => !Txt.contains digits y
  | _ => false
noncomputable def bad (y : Str) : List Nat := y.cps.toList.filter fun c => !Txt.contains digits ⟨#[c]⟩
noncomputable def portOf (cs : List Nat) : Int := cs.foldl (fun p c => 10 * p + Txt.find digits ⟨#[c]⟩) 0
theorem cutR {M : Model} {A : Around} {E : Value → Shared → Prop} {s : Shared} {env : Env} {Q : Flow → Shared → Prop} {st : Stmt} {rest : List Stmt} (Mid : Shared → Prop) (h : wpAny M A (exec st env) (fun f s₁ => Done (match f with | .next => Mid s₁ | f => Q f s₁)) E s) (k : ∀ s₁, Mid s₁ → wpAny M A (execs rest env) Q E s₁) : wpAny M A (execs (st :: rest) env) Q E s :=
  wpAny_execs_cons (wpAny_mono h (fun f s₁ hh => by
    obtain ⟨hh⟩ := hh
    cases f <;> first | exact k s₁ hh | exact hh) fun _ _ e => e)
noncomputable def inds (x : Str) : List Int := (List.range x.length).map fun (k : Nat) => (k : Int)
noncomputable def marksOf (x : Str) : List Int := (inds x).filter fun k => Txt.item x k == Txt.item x 0
noncomputable def figsOf (x : Str) : Str := Txt.stripChars (Txt.slice x (some ((marksOf x).getD 2 0 + 1)) (some ((marksOf x).getD 3 0))) (Str.ofString "\r\n")
noncomputable def dueOf (x : Str) : Ans :=
  if (marksOf x).length ≠ 4 ∨ (marksOf x).getD 3 0 ≠ (x.length : Int) - 1 then .proto
  else if figsOf x == Str.ofString "" || bad (figsOf x) ≠ [] then .value else .ok (portOf (figsOf x).cps.toList)
theorem ans_proto {h : Heap} {a : Addr} {u : Tok} {A : Ans} (e : A = .proto) (ha : h.get? a = some (W.listOf #[.str (Str.ofString "error_proto") u, .bool true] 0)) : AnsAt h (.ref a) A := by
  subst e
  exact ⟨a, u, rfl, ha⟩
theorem ans_value {h : Heap} {a : Addr} {u : Tok} {A : Ans} (e : A = .value) (ha : h.get? a = some (W.listOf #[.str (Str.ofString "ValueError") u] 0)) : AnsAt h (.ref a) A := by
  subst e
  exact ⟨a, u, rfl, ha⟩
theorem ans_ok {h : Heap} {a : Addr} {u k : Tok} {p : Int} {A : Ans} (e : A = .ok p) (ha : h.get? a = some { cls := .type "tuple", data := .seq #[.str (Str.ofString "10.0.0.7") u, .int p k] }) : AnsAt h (.ref a) A := by
  subst e
  exact ⟨a, u, k, rfl, ha⟩
theorem eqv_nil (cs : List Nat) : (PyData.list (cs.map fun c => PyData.str ⟨#[c]⟩)).eqv (PyData.list (([] : List Nat).map fun c => PyData.str ⟨#[c]⟩)) = decide (cs = []) := by
  cases cs <;> rfl
theorem bad_not {fg : Str} {i c : Nat} (h : bad fg = []) (hv : fg.cps.toList[i]? = some c) : (Builtin.Str.occurrences (Str.ofString "0123456789") ⟨#[c]⟩ 0 (Str.ofString "0123456789").length 1).isEmpty = false := by
  have a := List.filter_eq_nil_iff.mp h c (List.mem_of_getElem? hv)
  simpa [Txt.contains, digits] using a
theorem portOf_succ {cs : List Nat} {i c : Nat} (hv : cs[i]? = some c) : portOf (cs.take (i + 1)) = 10 * portOf (cs.take i) + Txt.find digits ⟨#[c]⟩ := by
  unfold portOf
  rw [List.take_add_one, hv, List.foldl_append]
  rfl
theorem ans_new {h₀ h : Heap} {L a : Addr} {o : Obj} {A : Ans} (f : h.get? a = some o → AnsAt h (.ref a) A) (N : h.get? a = some o ∧ a ≠ L ∧ h₀.get? a = none) : AnsAt h (.ref a) A ∧ ∀ b, Value.ref a = .ref b → h₀.get? b = none :=
  ⟨f N.1, fun b e => by injection e with e; exact e ▸ N.2.2⟩
theorem bad_ok {x fg : Str} (hcx : ∀ c ∈ (figsOf x).cps.toList, c < 0x110000) (e : figsOf x = fg) : ∀ c ∈ bad fg, c < 0x110000 := by
  subst e
  exact fun c hc => hcx c (List.mem_filter.mp hc).1
theorem due_more {h₀ h h' : Heap} {L D : Addr} {m : Str → Option Value} {it oD : Obj} {news : List (Addr × Obj)} (F : Fr h₀ L h m) (N : News h₀ L h news) (hD : (h.push it).get? D = none) (hpl : h'.get? D = some oD) (hk : ∀ b o, ¬ b ∈ [h.objs.size] → (h.push it).get? b = some o → h'.get? b = some o) :
    Fr h₀ L h' m ∧ News h₀ L h' ((D, oD) :: news) := by
  have hk' : ∀ b o, h.get? b = some o → h'.get? b = some o := fun b o e => hk b o (fun hb => Nat.ne_of_lt (Heap.lt_size e) (List.mem_singleton.mp hb)) (Heap.get?_push_of_some _ e)
  have hDn : h.get? D = none := by
    cases q : h.get? D with
    | none => rfl
    | some o => rw [show (h.push it).get? D = some o from Heap.get?_push_of_some _ q] at hD; cases hD
  refine ⟨F.keeps hk', fun p hp => ?_⟩
  rcases List.mem_cons.mp hp with rfl | hp
  · refine ⟨hpl, fun e => ?_, ?_⟩
    · obtain ⟨oL, _, _, hL, _⟩ := F.ns
      have e' : D = L := e
      rw [e', hL] at hDn; cases hDn
    · cases q : h₀.get? D with
      | none => rfl
      | some o => rw [F.keep _ _ q] at hDn; cases hDn
  · exact ⟨hk' _ _ (N p hp).1, (N p hp).2⟩
noncomputable def mD (D : Addr) (fg : Str) (uf : Tok) (sg po : Option Value) : Str → Option Value := fun y => if y = Str.ofString "sign" then sg else if y = Str.ofString "port" then po else if y = Str.ofString "figures" then some (.str fg uf) else if y = Str.ofString "marks" then some (.ref D) else none
theorem mD_start (D : Addr) (fg : Str) (uf : Tok) (po : Option Value) : (fun y => if y = Str.ofString "port" then po else if y = Str.ofString "figures" then some (Value.str fg uf) else if y = Str.ofString "marks" then some (.ref D) else none) = mD D fg uf none po := by
  funext y
  by_cases h1 : y = Str.ofString "sign"
  · subst h1; rfl
  simp only [mD, if_neg h1]
theorem mD_turn (D : Addr) (fg : Str) (uf : Tok) (sg po sg' po' : Option Value) : (fun y => if y = Str.ofString "port" then po' else if y = Str.ofString "sign" then sg' else mD D fg uf sg po y) = mD D fg uf sg' po' := by
  funext y
  by_cases h1 : y = Str.ofString "port"
  · subst h1; rfl
  by_cases h2 : y = Str.ofString "sign"
  · subst h2; rfl
  simp only [mD, if_neg h1, if_neg h2]
noncomputable def dueMark (x : Str) : Value → Bool
  | .int k _ => Txt.item x k == Txt.item x 0
  | _ => false
theorem due_news {h₀ h h' : Heap} {L C : Addr} {m : Str → Option Value} {oC : Obj} {news : List (Addr × Obj)} {it : Obj} (N : News h₀ L h news) (F : Fr h₀ L h m) (hC : (h.push it).objs.size ≤ C) (heC : h'.get? C = some oC) (hk : ∀ b o, ¬ b ∈ [h.objs.size] → h.get? b = some o → h'.get? b = some o) :
    News h₀ L h' ((C, oC) :: news) := by
  rw [Heap.size_push] at hC
  intro p hp
  rcases List.mem_cons.mp hp with rfl | hp
  · refine ⟨heC, fun e => ?_, ?_⟩
    · have e' : C = L := e
      exact Nat.lt_irrefl _ (Nat.lt_of_lt_of_le (e' ▸ F.ns.lt : C < h.objs.size) (Nat.le_of_succ_le hC))
    · cases q : h₀.get? C with
      | none => rfl
      | some o => exact absurd (Nat.lt_of_lt_of_le (Heap.lt_size (F.keep _ _ q)) (Nat.le_of_succ_le hC)) (Nat.lt_irrefl _)
  · exact ⟨hk _ _ (fun hb => Nat.ne_of_lt (Heap.lt_size (N p hp).1) (List.mem_singleton.mp hb)) (N p hp).1, (N p hp).2⟩
theorem due_fr {h₀ h h' : Heap} {L : Addr} {m : Str → Option Value} (F : Fr h₀ L h m) (hk : ∀ b o, ¬ b ∈ [h.objs.size] → h.get? b = some o → h'.get? b = some o) : Fr h₀ L h' m :=
  F.keeps fun b o e => hk b o (fun hb => Nat.ne_of_lt (Heap.lt_size e) (List.mem_singleton.mp hb)) e
section
variable {w : World} {mean : ExcName → Option Value} {mg mb : Str → Option Value}
local macro_rules | `(tactic| walk_at "exec Assign cons ListComp") => `(tactic| refine Hold.it ?_)
local macro_rules | `(tactic| walk_at "pyIter ref") => `(tactic| refine Hold.it ?_)
local macro_rules | `(tactic| walk_at "eval Name") => `(tactic| (k_here; (with_reducible show wpAny _ _ (eval (Expr.Name (Str.ofString "inner") _) (compEnvC _ _ _ _)) _ _ _); k_dflt (refine ld_cellC (by assumption) (.tail _ (.head _)) (by assumption) ?_ rfl)))
local macro_rules | `(tactic| walk_at "eval ListComp") => `(tactic| refine Hold.it ?_)
local macro_rules | `(tactic| walk_at "pyIter str") => `(tactic| refine Hold.it ?_)
local macro_rules | `(tactic| walk_at "exec For Name Name cons nil") => `(tactic| refine Hold.it ?_)
local macro_rules | `(tactic| walk_at "compareOp NotEq ref ref") => `(tactic| refine Hold.it ?_)
local macro_rules | `(tactic| walk_at "binaryOp Mult int int") => `(tactic| (k_dflt (refine mul_int ?_ (IntMulOk.of_left (by decide)))))
local macro_rules | `(tactic| walk_at "call builtin:len") => `(tactic| (k_here; (with_reducible show wpAny _ _ (call (Value.builtin "len") [Value.ref _]) _ _ _); k_dflt (refine due_len (by assumption) (.head _) (by assumption) (by omega) ?_)))
local macro_rules | `(tactic| walk_at "subscriptTail") => `(tactic| (k_here; (with_reducible show wpAny _ _ (subscriptTail _ _ (Value.ref _) (Value.int _ _)) _ _ _); k_dflt (refine due_item (by assumption) (.head _) (by assumption) (by omega) (by omega) (by omega) (fun t9 => ?_))))
set_option maxHeartbeats 4000000 in
theorem due_spec (x : Str) (t : Tok) (hlx : x.length ≤ 300) (hcx : ∀ c ∈ (figsOf x).cps.toList, c < 0x110000) :
    Spec w mean mg mb 0 180 [.str x t] (fun _ => True) (fun h v h' => AnsAt h' v (dueOf x) ∧ ∀ a, v = .ref a → h.get? a = none) := by
  intro base outer s Q E B KX T hpre hret
  refine wpAny_call ?_
  refine' enterX ?k1 ?k2 ?k6 ?k7 ?k8 ?k9 ?kB ?kn ?_ ?c2 ?c3 ?c4
  case k1 => exact KX
  case k2 => exact T
  case k6 => k_is
  case k7 => k_is
  case k8 => exact Nat.le_of_ble_eq_true rfl
  case k9 => exact BindsTo.of_eq rfl
  case kB =>
    intro n y hy
    rw [List.mem_singleton.mp hy]
    exact .inr ⟨rfl, rfl⟩
  case kn => decide
  case c2 => rfl
  case c3 => rfl
  case c4 => rfl
  intro h₁ tk cells F N Y
  obtain ⟨o, rfl, ho⟩ := CellsAre.one Y
  dsimp only
  k_fold
  have ho' : o.data = .cell (some (.str x t)) := ho
  have F' : Fr s.heap s.heap.objs.size h₁ (fun _ => none) := F
  clear ho Y F
  refine cutR (fun s₁ => ∃ D us n2 h tk, s₁ = { s with heap := h, toks := tk } ∧ IntsAre us (marksOf x) ∧ News s.heap s.heap.objs.size h [(D, W.listOf us.toArray n2), (s.heap.objs.size + 1, o)] ∧ Fr s.heap s.heap.objs.size h (fun z => if z = Str.ofString "marks" then some (.ref D) else none)) ?_ ?_
  rotate_left
  · rintro s₁ ⟨D, us, n2, h1, tk1, rfl, hM, N2, F2⟩
    have hml : (marksOf x).length ≤ 1000 := by
      have a := List.length_filter_le (fun k => Txt.item x k == Txt.item x 0) (inds x)
      have b : (inds x).length = x.length := by rw [inds, List.length_map, List.length_range]
      unfold marksOf; omega
    clear F' N
    refine cutR (fun s₁ => (marksOf x).length = 4 ∧ (marksOf x).getD 3 0 = (x.length : Int) - 1 ∧ ∃ h tk, s₁ = { s with heap := h, toks := tk } ∧ News s.heap s.heap.objs.size h [(D, W.listOf us.toArray n2), (s.heap.objs.size + 1, o)] ∧ Fr s.heap s.heap.objs.size h (fun z => if z = Str.ofString "marks" then some (.ref D) else none)) ?_ ?_
    · k_steps
      · exact ⟨hret _ _ _ (Fr.keep (by assumption)) (ans_new (fun h => ans_proto (if_pos (.inl (by omega))) h) ((by assumption : News _ _ _ ((_, W.listOf #[_, _] 0) :: _)) _ (.head _)))⟩
      · exact ⟨hret _ _ _ (Fr.keep (by assumption)) (ans_new (fun h => ans_proto (if_pos (.inr (by assumption))) h) ((by assumption : News _ _ _ ((_, W.listOf #[_, _] 0) :: _)) _ (.head _)))⟩
      · exact ⟨by omega, by assumption, _, _, rfl, N2, F2⟩
    clear F2 N2
    rintro s₁ ⟨h4, h3, h2, tk2, rfl, N2, F2⟩
    refine cutR (fun s₁ => (figsOf x).length ≤ 300 ∧ ∃ h tk uf, s₁ = { s with heap := h, toks := tk } ∧ News s.heap s.heap.objs.size h [(D, W.listOf us.toArray n2), (s.heap.objs.size + 1, o)] ∧
      Fr s.heap s.heap.objs.size h (fun z => if z = Str.ofString "figures" then some (.str (figsOf x) uf) else if z = Str.ofString "marks" then some (.ref D) else none)) ?_ ?_
    · k_steps
      rename_i hA tA kA aA tB kB aB hB FB NB
      exact ⟨Nat.le_trans (Nat.le_trans aB aA) hlx, _, _, _, rfl, NB, FB⟩
    clear F2 N2
    rintro s₁ ⟨hlf, h5, tk5, uf, rfl, N4, F4⟩
    generalize hgg : figsOf x = fg at hlf F4
    refine cutR (fun s₁ => bad fg = [] ∧ (fg == Str.ofString "") = false ∧ ∃ h tk, s₁ = { s with heap := h, toks := tk } ∧ News s.heap s.heap.objs.size h [(D, W.listOf us.toArray n2), (s.heap.objs.size + 1, o)] ∧
      Fr s.heap s.heap.objs.size h (fun z => if z = Str.ofString "figures" then some (.str fg uf) else if z = Str.ofString "marks" then some (.ref D) else none)) ?_ ?_
    · have hdue : dueOf x = if fg == Str.ofString "" || bad fg ≠ [] then .value else .ok (portOf fg.cps.toList) := by
        rw [dueOf, if_neg (by omega), hgg]
      k_steps
      · exact ⟨hret _ _ _ (Fr.keep (by assumption)) (ans_new (fun h => ans_value (hdue.trans (if_pos (by simp [*]))) h) ((by assumption : News _ _ _ ((_, W.listOf #[_] 0) :: _)) _ (.head _)))⟩
      refine ⟨?_⟩
      refine wpAny_ListComp_free (cl := []) notDig (fun v y => y = v) rfl (by decide) rfl (by decide) rfl ?_
      k_steps
      refine ⟨wpAny_pyIter_str fun o2 St W hst => ?_⟩
      refine ⟨_, _, _, _, _, St, rfl, W _ rfl, ?_, hst, ?_, ⟨?_, ?_⟩, ?_⟩
      · show fg.length ≤ _
        rw [PySem.sizeLine_eq]; omega
      · intro b hb
        rw [List.mem_singleton.mp hb]
        show _ < (h5.push _).objs.size
        rw [Heap.size_push]; exact Nat.lt_succ_self _
      · intro C i v s₃ m₃ E' hC hP hn hm hk htk
        obtain ⟨c, u, hc, rfl⟩ := hP
        refine wpAny_tests_one ?_
        obtain ⟨oC, heC, hoC⟩ := LCg.ns_obj hn
        have N3 := due_news N4 F4 hC heC (fun b o hb e => hk b o hb (Heap.get?_push_of_some _ e))
        have F3 := due_fr F4 (fun b o hb e => hk b o hb (Heap.get?_push_of_some _ e))
        k_steps
        exact ⟨_, _, rfl, fun _ _ e => e⟩
      · intro C i v s₃ m₃ E' hC hP hpv hn hm hk htk
        obtain ⟨c, u, hc, rfl⟩ := hP
        obtain ⟨oC, heC, hoC⟩ := LCg.ns_obj hn
        have N3 := due_news N4 F4 hC heC (fun b o hb e => hk b o hb (Heap.get?_push_of_some _ e))
        have F3 := due_fr F4 (fun b o hb e => hk b o hb (Heap.get?_push_of_some _ e))
        k_steps
        exact ⟨_, _, rfl, fun _ _ e => e⟩
      intro D2 h6 tk6 ys vs2 hD2 hl2 hpl2 hlen2 hP2 hPair2 hk6
      obtain ⟨n6, hpl⟩ := hpl2
      have hys : ys = (vs2.filter notDig).toArray := by rw [← paired_eq hPair2, Array.toArray_toList]
      subst hys
      have hO : Ones (vs2.filter notDig) (bad fg) := Ones.filter (fun c u => rfl) (Ones.of_at vs2 fg.cps.toList (by rw [hlen2, Array.length_toList]) fun j v hv => by
        obtain ⟨c, u, hc, e⟩ := hP2 j v hv
        exact ⟨c, u, by simpa using hc, e⟩)
      clear hl2 hlen2 hP2 hPair2
      generalize vs2.filter notDig = us2 at hO hpl
      obtain ⟨F6, N6⟩ := due_more F4 N4 hD2 hpl hk6
      clear hD2 hpl hk6 N4 F4 hst W
      k_steps
      refine ⟨PySem.SeqAt.compareNe_reads (reads_N (by assumption : News _ _ _ (_ :: (D2, _) :: _)) (.tail _ (.head _)) hO) (reads_N (us := []) (by assumption : News _ _ _ (_ :: (D2, _) :: _)) (.head _) .nil) (ones_lay _ (bad_ok hcx hgg)) rfl ?_ ?_⟩
      · exact Nat.lt_of_le_of_lt (Nat.add_le_add_left (Nat.min_le_right _ _) _) (Nat.le_of_ble_eq_true rfl)
      rw [eqv_nil]
      k_steps
      · exact ⟨by assumption, by assumption, _, _, rfl, fun p hp => (by assumption : News _ _ _ (_ :: _ :: _ :: _)) p (.tail _ (.tail _ hp)), by assumption⟩
      · exact ⟨hret _ _ _ (Fr.keep (by assumption)) (ans_new (fun h => ans_value (hdue.trans (if_pos (Bool.or_eq_true_iff.mpr (.inr (decide_eq_true (by assumption)))))) h) ((by assumption : News _ _ _ ((_, W.listOf #[_] 0) :: _)) _ (.head _)))⟩
    clear F4 N4
    rintro s₁ ⟨hbad, hne, h5, tk5, rfl, N4, F4⟩
    k_steps
    refine ⟨?_⟩
    refine For_turns (by assumption) ?_
    k_steps
    refine ⟨for_str (fun i m => ∃ sg u, m = mD D fg uf sg (some (.int (portOf (fg.cps.toList.take i)) u))) rfl (fun _ _ => rfl) (by assumption) (by assumption) ⟨none, _, mD_start ..⟩ ?_ ?_⟩
    · rintro I i c u m h tk oI hv ⟨sg, u2, rfl⟩ F N
      k_steps
      · exact absurd (by assumption) (Bool.eq_false_iff.mp (bad_not hbad hv))
      · exact ⟨rfl, _, _, _, rfl, by assumption, by assumption, _, _, (mD_turn ..).trans (by rw [portOf_succ hv]; rfl)⟩
    · rintro m h tk ⟨sg, u2, rfl⟩ F N
      k_steps
      refine hret _ _ _ (Fr.keep (by assumption)) (ans_new (fun h => ans_ok (p := portOf (fg.cps.toList.take fg.cps.toList.length)) ?_ h) ((by assumption : News _ _ _ (_ :: _ :: _)) _ (.head _)))
      rw [List.take_length, dueOf, if_neg (by omega), hgg, if_neg]
      simp [hbad, hne]
  refine wpAny_Assign_ListComp_free (cl := [(Str.ofString "inner", s.heap.objs.size + 1)]) (fun v => dueMark x v) (fun v y => y = v) rfl rfl (by decide) rfl (by decide) rfl rfl rfl ?_
  k_steps
  rename_i h' tk0 t1 u1 v1 hR F' N' hK
  refine ⟨wpAny_pyIter_range hR (small_one (by decide) (by decide) (by omega) (by omega)) ?_⟩
  refine ⟨h'.objs.size, [h'.objs.size], [h'.objs.size], x.length, _, _, _, rfl, (Walks.range rfl _ 0 1 x.length).bound, by rw [PySem.sizeLine_eq]; omega, ?st, ?fp, ?nl, F'.ns.push _, ⟨?tests, ?elt⟩, ?fin⟩
  case st =>
    show IsRangeIter _ _ _ _ _
    rw [show Builtin.Range.rangeSize 0 (x.length : Int) 1 = ((x.length : Nat) : Int) from rangeSize_nat _ _]
    simpa using Heap.get?_push_size _ rfl
  case fp =>
    intro b hb
    rw [List.mem_singleton.mp hb]
    show _ < (h'.push _).objs.size
    rw [Heap.size_push]; exact Nat.lt_succ_self _
  case nl =>
    intro hb
    exact absurd F'.ns.lt ((List.mem_singleton.mp hb) ▸ Nat.lt_irrefl _)
  case tests =>
    intro C i v s₃ m₃ E' hC hP hn hm hk htk
    obtain ⟨hi, t', rfl⟩ := hP
    refine wpAny_tests_one ?_
    obtain ⟨oC, heC, hoC⟩ := LCg.ns_obj hn
    have N3 : News s.heap s.heap.objs.size s₃.heap [(C, oC), (s.heap.objs.size + 1, o)] := due_news N' F' hC heC (fun b o hb e => hk b o hb (Heap.get?_push_of_some _ e))
    have F3 : Fr s.heap s.heap.objs.size s₃.heap (fun _ => none) := due_fr F' (fun b o hb e => hk b o hb (Heap.get?_push_of_some _ e))
    k_steps
    exact ⟨_, _, rfl, fun _ _ e => e⟩
  case elt =>
    intro C i v s₃ m₃ E' hC hP hpv hn hm hk htk
    obtain ⟨hi, t', rfl⟩ := hP
    obtain ⟨oC, heC, hoC⟩ := LCg.ns_obj hn
    have N3 : News s.heap s.heap.objs.size s₃.heap [(C, oC), (s.heap.objs.size + 1, o)] := due_news N' F' hC heC (fun b o hb e => hk b o hb (Heap.get?_push_of_some _ e))
    have F3 : Fr s.heap s.heap.objs.size s₃.heap (fun _ => none) := due_fr F' (fun b o hb e => hk b o hb (Heap.get?_push_of_some _ e))
    k_steps
    exact ⟨_, _, rfl, fun _ _ e => e⟩
  case fin =>
    intro D h2 tk2 ys vs hD hl hpl hlen hP hPair hns hk
    obtain ⟨n2, hpl⟩ := hpl
    have hys : ys = (vs.filter (dueMark x)).toArray := by rw [← paired_eq hPair, Array.toArray_toList]
    subst hys
    have hI : IntsAre vs (inds x) := ints_of_at vs (inds x) (by rw [hlen, inds, List.length_map, List.length_range]) fun j v hv => by
      obtain ⟨hj, t, e⟩ := hP j v hv
      exact ⟨(j : Int), t, by simp [inds, hj], by rw [e]; congr 1; omega⟩
    have hM : IntsAre (vs.filter (dueMark x)) (marksOf x) := IntsAre.filter (fun _ _ => rfl) hI
    clear hI hP hlen hPair hl
    generalize vs.filter (dueMark x) = us at hM hpl
    have hk2 : ∀ b o, b ≠ s.heap.objs.size → h'.get? b = some o → h2.get? b = some o := fun b o hb e => hk b o hb (fun hm => Nat.ne_of_lt (Heap.lt_size e) (List.mem_singleton.mp hm)) (Heap.get?_push_of_some _ e)
    have hDn : h'.get? D = none := by
      cases q : h'.get? D with
      | none => rfl
      | some o => rw [show (h'.push _).get? D = some o from Heap.get?_push_of_some _ q] at hD; cases hD
    have nDL : D ≠ s.heap.objs.size := by
      intro e
      obtain ⟨oL, _, _, hL, _⟩ := F'.ns
      rw [e, hL] at hDn; cases hDn
    have N2 : News s.heap s.heap.objs.size h2 [(D, W.listOf us.toArray n2), (s.heap.objs.size + 1, o)] := by
      intro p hp
      rcases List.mem_cons.mp hp with rfl | hp
      · refine ⟨hpl, nDL, ?_⟩
        cases q : s.heap.get? D with
        | none => rfl
        | some o => rw [F'.keep _ _ q] at hDn; cases hDn
      · have z := N' p hp
        exact ⟨hk2 _ _ z.2.1 z.1, z.2⟩
    have F2 : Fr s.heap s.heap.objs.size h2 (fun z => if z = Str.ofString "marks" then some (.ref D) else none) :=
      ⟨hns, fun b o e => hk2 b o (Nat.ne_of_lt (Heap.lt_size e)) (F'.keep b o e), Nat.le_refl _⟩
    exact ⟨D, us, n2, h2, tk2, rfl, hM, N2, F2⟩
end
end Mine
end
local macro_rules | `(tactic| walk_at "idle 20") => `(tactic| fail)
local macro_rules | `(tactic| walk_at "idle 21") => `(tactic| fail)
local macro_rules | `(tactic| walk_at "idle 22") => `(tactic| fail)
local macro_rules | `(tactic| walk_at "idle 23") => `(tactic| fail)
local macro_rules | `(tactic| walk_at "idle 24") => `(tactic| fail)
local macro_rules | `(tactic| walk_at "idle 25") => `(tactic| fail)
local macro_rules | `(tactic| walk_at "idle 26") => `(tactic| fail)
local macro_rules | `(tactic| walk_at "idle 27") => `(tactic| fail)
local macro_rules | `(tactic| walk_at "idle 28") => `(tactic| fail)
local macro_rules | `(tactic| walk_at "idle 29") => `(tactic| fail)
local macro_rules | `(tactic| walk_at "idle 30") => `(tactic| fail)
section
open PySem PySem.W PySem.Calls PyProof.Rows
namespace Mine
local macro_rules | `(tactic| k_room) => `(tactic| exact Nat.le_of_ble_eq_true rfl)
theorem fill_hand : (K = K ∧ PySem.Challenge.rw_tr0051_01 = PySem.Challenge.rw_tr0051_01) → True := by
  k_fill
  intro _
  trivial
noncomputable def keepB (c : Nat) : Bool := !inB1 c
noncomputable def keepV : Value → Bool
  | .str y _ => !inB1 (y.cps.getD 0 0)
  | _ => false
/-- a text prepared -/
noncomputable def prepOf (x : Str) : Str := Txt.join (Str.ofString "") ((x.cps.toList.filter keepB).map fold1)
noncomputable def FoldRel (v y : Value) : Prop := ∃ c u u', v = Value.str ⟨#[c]⟩ u ∧ y = Value.str (fold1 c) u'
theorem fold_rel : ∀ {vs ys : List Value} {cs : List Nat}, Ones vs cs → Paired FoldRel vs ys → ∃ l : List (Str × Tok), ys = strValues l ∧ l.map (·.1) = cs.map fold1
  | _, _, _, .nil, .nil => ⟨[], rfl, rfl⟩
  | _, _, _, .cons c u r, .cons h t => by
    obtain ⟨l, e1, e2⟩ := fold_rel r t
    obtain ⟨c', u1, u', e3, e4⟩ := h
    injection e3 with e5 _
    have e6 : c = c' := by
      have := congrArg (fun y : Str => y.cps.getD 0 0) e5
      simpa using this
    subst e6
    exact ⟨(fold1 c, u') :: l, by rw [e4, e1]; rfl, by simp [e2]⟩
section
variable {w : World} {mean : ExcName → Option Value} {mg mb : Str → Option Value}
theorem fr_push {h₀ h h' : Heap} {L C : Addr} {m : Str → Option Value} {oC : Obj} {news : List (Addr × Obj)} {it : Obj} (N : News h₀ L h news) (F : Fr h₀ L h m) (hC : (h.push it).objs.size ≤ C) (heC : h'.get? C = some oC) (hk : ∀ b o, ¬ b ∈ [h.objs.size] → (h.push it).get? b = some o → h'.get? b = some o) :
    Fr h₀ L h' m ∧ News h₀ L h' ((C, oC) :: news) := by
  have hk' : ∀ b o, h.get? b = some o → h'.get? b = some o := fun b o e => hk b o (fun hb => Nat.ne_of_lt (Heap.lt_size e) (List.mem_singleton.mp hb)) (Heap.get?_push_of_some _ e)
  rw [Heap.size_push] at hC
  refine ⟨F.keeps hk', fun p hp => ?_⟩
  rcases List.mem_cons.mp hp with rfl | hp
  · refine ⟨heC, fun e => ?_, ?_⟩
    · have e' : C = L := e
      exact Nat.lt_irrefl _ (Nat.lt_of_lt_of_le (e' ▸ F.ns.lt : C < h.objs.size) (Nat.le_of_succ_le hC))
    · cases q : h₀.get? C with
      | none => rfl
      | some o => exact absurd (Nat.lt_of_lt_of_le (Heap.lt_size (F.keep _ _ q)) (Nat.le_of_succ_le hC)) (Nat.lt_irrefl _)
  · exact ⟨hk' _ _ (N p hp).1, (N p hp).2⟩
local macro_rules | `(tactic| walk_at "eval ListComp") => `(tactic| refine Hold.it ?_)
local macro_rules | `(tactic| walk_at "pyIter str") => `(tactic| refine Hold.it ?_)
local macro_rules | `(tactic| walk_at "call ref") => `(tactic| refine Hold.it ?_)
local macro_rules | `(tactic| walk_at "call builtin:str.join") => `(tactic| refine Hold.it ?_)
set_option maxHeartbeats 1000000 in
theorem prep_spec (x : Str) (t u : Tok) (hlx : x.length ≤ 1000) (hb : ∀ c ∈ x.cps.toList, (b3Get (c : Int) = none ∨ ∃ x u, b3Get (c : Int) = some (.str x u)) ∧ (inB1 c = false → (fold1 c).length ≤ 10)) :
    Spec w mean mg mb 0 192 [.str (Str.ofString "prepare") u, .str x t] (fun _ => True) (fun _ v _ => ∃ u, v = .str (prepOf x) u) := by
  intro base outer s Q E B KX T hpre hret
  refine wpAny_call ?_
  refine' enter ?k1 ?k2 ?k6 ?k7 ?k8 ?k9 ?kB ?_ ?c2 ?c3 ?c4 ?c5
  case k1 => exact KX
  case k2 => exact T
  case k6 => k_is
  case k7 => k_is
  case k8 => exact Nat.le_of_ble_eq_true rfl
  case k9 => exact BindsTo.of_eq rfl
  case kB => exact locs rfl
  case c2 => rfl
  case c3 => rfl
  case c4 => rfl
  case c5 => decide
  intro h₁ F Nn
  dsimp only
  k_fold
  k_steps
  refine ⟨?_⟩
  refine wpAny_ListComp_free (cl := []) keepV FoldRel rfl (by decide) rfl (by decide) rfl ?_
  k_steps
  refine ⟨wpAny_pyIter_str fun o2 St W hst => ?_⟩
  refine ⟨_, _, _, _, _, St, rfl, W _ rfl, ?_, hst, ?_, ⟨?_, ?_⟩, ?_⟩
  · show x.length ≤ _
    rw [PySem.sizeLine_eq]; omega
  · intro b hb
    rw [List.mem_singleton.mp hb]
    show _ < (h₁.push _).objs.size
    rw [Heap.size_push]; exact Nat.lt_succ_self _
  · intro C i v s₃ m₃ E' hC hP hn hm hk htk
    obtain ⟨c, u, hc, rfl⟩ := hP
    refine wpAny_tests_one ?_
    obtain ⟨oC, heC, hoC⟩ := LCg.ns_obj hn
    obtain ⟨F3, N3⟩ := fr_push Nn F hC heC hk
    k_steps
    refine ⟨?_⟩
    refine' (in_table_spec c u).use B F3 N3 KX T ?hf ?hk trivial ?h1 ?h2 ?h3 ?h4 ?h5 ?_
    case h3 => rfl
    case hf => rfl
    case hk => rfl
    case h1 => rfl
    case h2 => exact Nat.le_of_ble_eq_true rfl
    case h4 => rfl
    case h5 => exact Nat.le_of_ble_eq_true rfl
    intro v' h' tk' F' N' st po
    subst po
    k_steps
    exact ⟨h', _, rfl, st⟩
  · intro C i v s₃ m₃ E' hC hP hpv hn hm hk htk
    obtain ⟨c, u, hc, rfl⟩ := hP
    obtain ⟨oC, heC, hoC⟩ := LCg.ns_obj hn
    obtain ⟨F3, N3⟩ := fr_push Nn F hC heC hk
    k_steps
    refine ⟨?_⟩
    refine' (map_table_spec c u (hb c (by rw [← Array.getElem?_toList] at hc; exact List.mem_of_getElem? hc)).1).use B F3 N3 KX T ?hf ?hk trivial ?h1 ?h2 ?h3 ?h4 ?h5 ?_
    case h3 => rfl
    case hf => rfl
    case hk => rfl
    case h1 => rfl
    case h2 => exact Nat.le_of_ble_eq_true rfl
    case h4 => rfl
    case h5 => exact Nat.le_of_ble_eq_true rfl
    intro v' h' tk' F' N' st po
    obtain ⟨u', rfl⟩ := po
    exact ⟨⟨c, u, u', rfl, rfl⟩, h', _, rfl, st⟩
  intro D2 h6 tk6 ys vs2 hD2 hl2 hpl2 hlen2 hP2 hPair2 hk6
  k_steps
  refine ⟨?_⟩
  have hO : Ones (vs2.filter keepV) (x.cps.toList.filter keepB) := Ones.filter (fun c u => rfl) (Ones.of_at vs2 x.cps.toList (by rw [hlen2, Array.length_toList]) fun j v hv => by
    obtain ⟨c, u, hc, e⟩ := hP2 j v hv
    exact ⟨c, u, by simpa using hc, e⟩)
  obtain ⟨l, e1, e2⟩ := fold_rel hO hPair2
  have e3 : ys = (strValues l).toArray := by rw [← e1, Array.toArray_toList]
  refine SC.join (l := l) (e3 ▸ hl2) e2 ?_ fun t' k => ?_
  · unfold JoinOk
    rw [StrLaws.joinFits (B := 10)]
    · rfl
    · intro y hy
      obtain ⟨c, hc, rfl⟩ := List.mem_map.mp hy
      obtain ⟨hc1, hc2⟩ := List.mem_filter.mp hc
      exact (hb c hc1).2 (by unfold keepB at hc2; simpa using hc2)
    · have a := List.length_filter_le keepB x.cps.toList
      have b : x.cps.toList.length = x.length := Array.length_toList
      have e0 : (Str.ofString "").length = 0 := by decide
      rw [List.length_map, e0]
      omega
  · k_steps
    exact hret _ _ _ (fun b o e => hk6 b o (fun hb => Nat.ne_of_lt (Heap.lt_size (F.keep b o e)) (List.mem_singleton.mp hb)) (Heap.get?_push_of_some _ (F.keep b o e))) ⟨t', rfl⟩
set_option maxHeartbeats 1000000 in
theorem send_spec (x : Str) (t u : Tok) (hx : x.length ≤ 1000) (hx2 : (ends x).length ≤ 1000) :
    Spec w mean mg mb 0 192 [.str (Str.ofString "send") u, .str x t] (fun _ => True) (fun _ v _ => ∃ u, v = .str (dots (ends x)) u) := by
  intro base outer s Q E B KX T hpre hret
  refine wpAny_call ?_
  refine' enter ?k1 ?k2 ?k6 ?k7 ?k8 ?k9 ?kB ?_ ?c2 ?c3 ?c4 ?c5
  case k1 => exact KX
  case k2 => exact T
  case k6 => k_is
  case k7 => k_is
  case k8 => exact Nat.le_of_ble_eq_true rfl
  case k9 => exact BindsTo.of_eq rfl
  case kB => exact locs rfl
  case c2 => rfl
  case c3 => rfl
  case c4 => rfl
  case c5 => decide
  intro h₁ F Nn
  dsimp only
  k_fold
  k_steps
  refine ⟨?_⟩
  refine' (quote_spec x t hx hx2).use B F Nn KX T ?hf ?hk trivial ?h1 ?h2 ?h3 ?h4 ?h5 ?_
  case h3 => rfl
  case hf => rfl
  case hk => rfl
  case h1 => rfl
  case h2 => exact Nat.le_of_ble_eq_true rfl
  case h4 => rfl
  case h5 => exact Nat.le_of_ble_eq_true rfl
  intro v' h' tk' F' N' st po
  k_steps
  exact hret _ _ _ F'.keep po
end
end Mine
end
section
open PySem PySem.W PySem.Calls PyProof.Rows
namespace Mine
/-! what the law reckons -/
noncomputable def nsOf (xs : List Int) : List Int := (xs.take 5).map fun k => k.fmod 1000000
noncomputable def totOf (xs : List Int) : Int := (nsOf xs).sum
noncomputable def placeOf (xs : List Int) : Int := (totOf xs + 6).fmod 8
noncomputable def lackOf (xs : List Int) : Int := ((totOf xs).fdiv 8).fmod 5
noncomputable def numsOf (xs : List Int) : List Int := nsOf xs ++ [0, 34, 5, 688, 0].drop (nsOf xs).length
theorem nsOf_len (xs : List Int) : (nsOf xs).length ≤ 5 := by
  rw [nsOf, List.length_map, List.length_take]; omega
theorem numsOf_len (xs : List Int) : (numsOf xs).length = 5 := by
  have := nsOf_len xs
  rw [numsOf, List.length_append, List.length_drop]
  show (nsOf xs).length + (5 - (nsOf xs).length) = 5
  omega
theorem len_ite {α : Type} {p : Prop} [Decidable p] {x y : List α} {n : Nat} (h1 : x.length ≤ n) (h2 : y.length ≤ n) : (if p then x else y).length ≤ n := by split <;> assumption
theorem sgOne_len (i : Nat) (n : Int) : (sgOne i n).length ≤ 9 := by
  have a1 : (sg1 n).length ≤ 1 := len_ite (Nat.le_refl _) (Nat.zero_le _)
  have a2 : (sg2 n).length ≤ 1 := len_ite (Nat.le_refl _) (Nat.zero_le _)
  have a3 : (sg3 n).length ≤ 1 := len_ite (Nat.le_refl _) (Nat.zero_le _)
  have a4 : (sg4 n).length ≤ 1 := len_ite (Nat.le_refl _) (len_ite (Nat.le_refl _) (Nat.zero_le _))
  have a5 : (sg5 (sgb i n) n).length ≤ 1 := len_ite (Nat.le_refl _) (Nat.zero_le _)
  have a6 : (sg6 (sgb i n) n).length ≤ 3 := len_ite (by rw [List.length_map, Array.length_toList]; exact (digs' _).2) (Nat.zero_le _)
  have a7 : (sg7 (sgb i n)).length ≤ 1 := len_ite (Nat.le_refl _) (Nat.zero_le _)
  unfold sgOne
  simp only [List.length_append]
  omega
theorem sgTo_len (ns : List Int) : ∀ i, (sgTo ns i).length ≤ 9 * i
  | 0 => Nat.zero_le _
  | i + 1 => by
    have a := sgTo_len ns i
    have b := sgOne_len i (ns.getD i 0)
    show (sgTo ns i ++ sgOne i (ns.getD i 0)).length ≤ _
    rw [List.length_append]
    omega
theorem tt_cons {ts : List (Addr × Obj)} {a : Addr} {k : Int} {u1 u2 u3 : Tok} (h : TT ts) : TT ((a, unTri k u1 u2 u3) :: ts) := fun p hp => by
  rcases List.mem_cons.mp hp with rfl | hp
  · rfl
  · exact h p hp
noncomputable def headOf (k : Int) : Str := if k = 2 then Str.ofString "229 :) " else Str.ofString "229 :) ("
noncomputable def closeOf (k : Int) : Str := if k = 1 then Str.ofString "" else if k = 2 then Str.ofString ")" else Str.ofString ") (|||9|)"
theorem head_len (k : Int) : (headOf k).length ≤ 8 := by
  have a : (Str.ofString "229 :) ").length = 7 := by decide
  have b : (Str.ofString "229 :) (").length = 8 := by decide
  unfold headOf; split <;> omega
/-- the extra sign, the signs, the spoiled head -/
noncomputable def exOf (xs : List Int) : T3 := tU ((totOf xs).fdiv 8)
noncomputable def sgOf (xs : List Int) : List T3 := if placeOf xs = 4 then exOf xs :: sgTo (numsOf xs) 5 else if placeOf xs = 5 then sgTo (numsOf xs) 5 ++ [exOf xs] else sgTo (numsOf xs) 5
noncomputable def spOf (xs : List Int) : Str := if placeOf xs < 4 then Txt.slice (headOf (lackOf xs)) none (some (placeOf xs)) ++ (exOf xs).s ++ Txt.slice (headOf (lackOf xs)) (some (placeOf xs)) none else headOf (lackOf xs)
theorem tr_ex {ts : List (Addr × Obj)} {a : Addr} {u1 u2 u3 : Tok} {us : List Value} {ys : List T3} {xs : List Int} (h : Tr ts us ys) : Tr ((a, unTri ((totOf xs).fdiv 8) u1 u2 u3) :: ts) ([Value.ref a] ++ us) (exOf xs :: ys) :=
  Tr.cons (x := exOf xs) (u1 := u1) (u2 := u2) (u3 := u3) (List.Mem.head _) (h.mono fun _ h => .tail _ h)
theorem tr_xe {ts : List (Addr × Obj)} {a : Addr} {u1 u2 u3 : Tok} {us : List Value} {ys : List T3} {xs : List Int} (h : Tr ts us ys) : Tr ((a, unTri ((totOf xs).fdiv 8) u1 u2 u3) :: ts) (us ++ [Value.ref a]) (ys ++ [exOf xs]) :=
  Tr.append (Tr.cons (x := exOf xs) (u1 := u1) (u2 := u2) (u3 := u3) (List.Mem.head _) .nil) (h.mono fun _ h => .tail _ h)
noncomputable def mB (Lx D S a : Addr) (xs : List Int) (t1 t2 t3 : Tok) (hd cl sp : Option Value) : Str → Option Value := fun y => if y = Str.ofString "spoiled" then sp else if y = Str.ofString "closing" then cl else if y = Str.ofString "head" then hd else
  if y = Str.ofString "lack" then some (.int (lackOf xs) t3) else if y = Str.ofString "signs" then some (.ref S) else if y = Str.ofString "extra" then some (.ref a) else if y = Str.ofString "place" then some (.int (placeOf xs) t1) else
  if y = Str.ofString "total" then some (.int (totOf xs) t2) else if y = Str.ofString "numbers" then some (.ref D) else if y = Str.ofString "script" then some (.ref Lx) else none
theorem mB_start (Lx D S a : Addr) (xs : List Int) (t1 t2 t3 : Tok) : (fun y => if y = Str.ofString "lack" then some (.int (lackOf xs) t3) else if y = Str.ofString "signs" then some (.ref S) else if y = Str.ofString "extra" then some (.ref a) else if y = Str.ofString "place" then some (.int (placeOf xs) t1) else
    if y = Str.ofString "total" then some (.int (totOf xs) t2) else if y = Str.ofString "numbers" then some (Value.ref D) else List.lookup y [(Str.ofString "script", .ref Lx)]) = mB Lx D S a xs t1 t2 t3 none none none := by
  funext y
  by_cases h1 : y = Str.ofString "spoiled"
  · subst h1; rfl
  by_cases h2 : y = Str.ofString "closing"
  · subst h2; rfl
  by_cases h3 : y = Str.ofString "head"
  · subst h3; rfl
  by_cases h4 : y = Str.ofString "script"
  · subst h4; rfl
  have hb : (y == Str.ofString "script") = false := beq_false_of_ne h4
  simp only [mB, if_neg h1, if_neg h2, if_neg h3, if_neg h4, List.lookup, hb]
theorem mB_head (Lx D S a : Addr) (xs : List Int) (t1 t2 t3 : Tok) (hd cl sp v : Option Value) : (fun y => if y = Str.ofString "head" then v else mB Lx D S a xs t1 t2 t3 hd cl sp y) = mB Lx D S a xs t1 t2 t3 v cl sp := by
  funext y
  by_cases h1 : y = Str.ofString "head"
  · subst h1; rfl
  simp only [mB, if_neg h1]
theorem mB_close (Lx D S a : Addr) (xs : List Int) (t1 t2 t3 : Tok) (hd cl sp v : Option Value) : (fun y => if y = Str.ofString "closing" then v else mB Lx D S a xs t1 t2 t3 hd cl sp y) = mB Lx D S a xs t1 t2 t3 hd v sp := by
  funext y
  by_cases h1 : y = Str.ofString "closing"
  · subst h1; rfl
  simp only [mB, if_neg h1]
theorem mB_spoil (Lx D S a : Addr) (xs : List Int) (t1 t2 t3 : Tok) (hd cl sp v : Option Value) : (fun y => if y = Str.ofString "spoiled" then v else mB Lx D S a xs t1 t2 t3 hd cl sp y) = mB Lx D S a xs t1 t2 t3 hd cl v := by
  funext y
  by_cases h1 : y = Str.ofString "spoiled"
  · subst h1; rfl
  simp only [mB, if_neg h1]
theorem mB_signs (Lx D S S' a : Addr) (xs : List Int) (t1 t2 t3 : Tok) (hd cl sp : Option Value) : (fun y => if y = Str.ofString "signs" then some (.ref S') else mB Lx D S a xs t1 t2 t3 hd cl sp y) = mB Lx D S' a xs t1 t2 t3 hd cl sp := by
  funext y
  by_cases h1 : y = Str.ofString "signs"
  · subst h1; rfl
  simp only [mB, if_neg h1]
end Mine
end
section
open PySem PySem.W PySem.Calls PyProof.Rows
namespace Mine
/-! the ways -/
noncomputable def handV (b : Bool) : Str := if b then Str.ofString "send" else Str.ofString "prepare"
inductive HandsAre : List Value → List Bool → Prop
  | nil : HandsAre [] []
  | cons {b : Bool} {u : Tok} {vs : List Value} {bs : List Bool} : HandsAre vs bs → HandsAre (.str (handV b) u :: vs) (b :: bs)
structure Way where
  hands : List Bool
  sent : Bool
  seen : Bool
  prep : Bool
noncomputable def waysL : List Way := [⟨[], false, false, false⟩, ⟨[false], false, false, true⟩, ⟨[true], true, true, false⟩, ⟨[true, false], true, true, true⟩, ⟨[false, true], true, false, true⟩]
noncomputable def WayAt (led : List (Addr × Obj)) (v : Value) (y : Way) : Prop := ∃ a g n hv, v = .ref a ∧ (a, ({ cls := .type "tuple", data := .seq #[.ref g, .bool y.sent, .bool y.seen, .bool y.prep] } : Obj)) ∈ led ∧ (g, W.listOf hv.toArray n) ∈ led ∧ HandsAre hv y.hands
inductive WaysAt (led : List (Addr × Obj)) : List Value → List Way → Prop
  | nil : WaysAt led [] []
  | cons {v : Value} {y : Way} {vs : List Value} {ys : List Way} : WayAt led v y → WaysAt led vs ys → WaysAt led (v :: vs) (y :: ys)
theorem news_mv {h₀ h : Heap} {L : Addr} {a b : Addr × Obj} {led ts : List (Addr × Obj)} (N : News h₀ L h (a :: (led ++ b :: ts))) : News h₀ L h (a :: b :: (led ++ ts)) := fun p hp => N p (by
  rcases List.mem_cons.mp hp with rfl | hp
  · exact .head _
  rcases List.mem_cons.mp hp with rfl | hp
  · exact .tail _ (List.mem_append_right _ (.head _))
  rcases List.mem_append.mp hp with hp | hp
  · exact .tail _ (List.mem_append_left _ hp)
  · exact .tail _ (List.mem_append_right _ (.tail _ hp)))
/-! the loop's plain side -/
noncomputable def handOne (b : Bool) (x : Str) : Str := if b then dots (ends x) else prepOf x
noncomputable def handTo (bs : List Bool) (x : Str) : Str := bs.foldl (fun x b => handOne b x) x
noncomputable def OKhand (b : Bool) (x : Str) : Prop := if b then x.length ≤ 1000 ∧ (ends x).length ≤ 1000 else x.length ≤ 1000 ∧ ∀ c ∈ x.cps.toList, (b3Get (c : Int) = none ∨ ∃ x u, b3Get (c : Int) = some (.str x u)) ∧ (inB1 c = false → (fold1 c).length ≤ 10)
noncomputable def text0 (xs : List Int) : Str := spOf xs ++ Txt.join (Str.ofString "") ((sgOf xs).map (·.s)) ++ closeOf (lackOf xs)
noncomputable def innerOf (xs : List Int) (y : Way) : Str := (toldTo y.sent y.seen y.prep (sgOf xs)).1
noncomputable def dueX (xs : List Int) (y : Way) : Ans := if placeOf xs < 3 ∧ y.prep = false then .reply else if lackOf xs = 1 ∨ lackOf xs = 2 then .proto else dueOf (innerOf xs y)
structure PlainW (xs : List Int) (y : Way) : Prop where
  hands : ∀ i b, y.hands[i]? = some b → OKhand b (handTo (y.hands.take i) (text0 xs))
  same : handTo y.hands (text0 xs) = (if y.prep then headOf (lackOf xs) else spOf xs) ++ innerOf xs y ++ closeOf (lackOf xs)
  inner : (innerOf xs y).length ≤ 300 ∧ ∀ c ∈ (figsOf (innerOf xs y)).cps.toList, c < 0x110000
  text : (handTo y.hands (text0 xs)).length ≤ 1000 ∧ ∀ z ∈ pParts (handTo y.hands (text0 xs)), z.length ≤ 640 ∧ ∀ c ∈ z.cps.toList, c < 16 ^ 8
  ans : parseAns (handTo y.hands (text0 xs)) = dueX xs y
theorem waysAt_get {led : List (Addr × Obj)} : ∀ {vs : List Value} {ys : List Way}, WaysAt led vs ys → ∀ {i : Nat} {v : Value}, vs[i]? = some v → ∃ y, ys[i]? = some y ∧ WayAt led v y
  | _, _, .nil, i, v, h => by simp at h
  | _, _, .cons (y := y) a r, 0, v, h => by
    simp at h
    exact ⟨y, rfl, h ▸ a⟩
  | _, _, .cons a r, i + 1, v, h => by
    obtain ⟨y, hy, hw⟩ := waysAt_get r (i := i) (by simpa using h)
    exact ⟨y, by simpa using hy, hw⟩
theorem hands_get : ∀ {vs : List Value} {bs : List Bool}, HandsAre vs bs → ∀ {i : Nat} {v : Value}, vs[i]? = some v → ∃ b u, bs[i]? = some b ∧ v = .str (handV b) u
  | _, _, .nil, i, v, h => by simp at h
  | _, _, .cons (b := b) (u := u) r, 0, v, h => by
    simp at h
    exact ⟨b, u, rfl, h.symm⟩
  | _, _, .cons r, i + 1, v, h => by
    obtain ⟨b, u, hb, e⟩ := hands_get r (i := i) (by simpa using h)
    exact ⟨b, u, by simpa using hb, e⟩
theorem hands_len : ∀ {vs : List Value} {bs : List Bool}, HandsAre vs bs → vs.length = bs.length
  | _, _, .nil => rfl
  | _, _, .cons r => by simp [hands_len r]
theorem handTo_succ {bs : List Bool} {i : Nat} {b : Bool} {x : Str} (hb : bs[i]? = some b) : handTo (bs.take (i + 1)) x = handOne b (handTo (bs.take i) x) := by
  unfold handTo
  rw [List.take_add_one, hb, List.foldl_append]
  rfl
theorem ways_len {led : List (Addr × Obj)} : ∀ {vs : List Value} {ys : List Way}, WaysAt led vs ys → vs.length = ys.length
  | _, _, .nil => rfl
  | _, _, .cons _ r => by simp [ways_len r]
noncomputable def mZ (Lx D S a : Addr) (xs : List Int) (t1 t2 t3 t4 t5 t6 : Tok) : Str → Option Value := mB Lx D S a xs t1 t2 t3 (some (.str (headOf (lackOf xs)) t4)) (some (.str (closeOf (lackOf xs)) t5)) (some (.str (spOf xs) t6))
theorem mZ_none (Lx D S a : Addr) (xs : List Int) (t1 t2 t3 t4 t5 t6 : Tok) : ∀ y ∈ [Str.ofString "due", Str.ofString "inner", Str.ofString "hand", Str.ofString "text", Str.ofString "prepared", Str.ofString "seen", Str.ofString "sent", Str.ofString "hands"], mZ Lx D S a xs t1 t2 t3 t4 t5 t6 y = none := by
  intro y hy
  simp only [List.mem_cons, List.not_mem_nil, or_false] at hy
  rcases hy with rfl | rfl | rfl | rfl | rfl | rfl | rfl | rfl <;> rfl
theorem close_len (k : Int) : (closeOf k).length ≤ 9 := by
  have a : (Str.ofString "").length = 0 := by decide
  have b : (Str.ofString ")").length = 1 := by decide
  have c : (Str.ofString ") (|||9|)").length = 9 := by decide
  unfold closeOf; repeat' split
  all_goals omega
theorem str_len_app (x y : Str) : (x ++ y).length = x.length + y.length := by
  show (x.cps ++ y.cps).size = _
  rw [Array.size_append]; rfl
theorem sg_small : ∀ x ∈ [tF, tR, tD, tC, tQ], x.s.length ≤ 3 ∧ x.f.length ≤ 3 := by decide
theorem tU_small (k : Int) : (tU k).s.length ≤ 3 ∧ (tU k).f.length ≤ 3 := ⟨by show 1 ≤ 3; decide, by show (Str.ofString "").length ≤ 3; decide⟩
theorem tL_small (c : Nat) : (tL c).s.length ≤ 3 ∧ (tL c).f.length ≤ 3 := ⟨by show 1 ≤ 3; decide, by show 1 ≤ 3; decide⟩
theorem mem_ite {α : Type} {p : Prop} [Decidable p] {l r : List α} {x : α} (h : x ∈ if p then l else r) : x ∈ l ∨ x ∈ r := by split at h; exact .inl h; exact .inr h
theorem sgOne_small (i : Nat) (n : Int) : ∀ x ∈ sgOne i n, x.s.length ≤ 3 ∧ x.f.length ≤ 3 := by
  intro x hx
  have one : ∀ y ∈ [tF, tR, tD, tC, tQ], x ∈ [y] → x.s.length ≤ 3 ∧ x.f.length ≤ 3 := fun y hy h => by rw [List.mem_singleton.mp h]; exact sg_small y hy
  unfold sgOne at hx
  simp only [List.mem_append] at hx
  rcases hx with h | h | h | h | h | h | h
  · rcases mem_ite h with h | h
    · exact one tF (by simp) h
    · cases h
  · rcases mem_ite h with h | h
    · exact one tR (by simp) h
    · cases h
  · rcases mem_ite h with h | h
    · rw [List.mem_singleton.mp h]; exact tU_small _
    · cases h
  · rcases mem_ite h with h | h
    · exact one tC (by simp) h
    · rcases mem_ite h with h | h
      · exact one tD (by simp) h
      · cases h
  · rcases mem_ite h with h | h
    · rw [List.mem_singleton.mp h]; exact tU_small _
    · cases h
  · rcases mem_ite h with h | h
    · obtain ⟨c, _, rfl⟩ := List.mem_map.mp h; exact tL_small c
    · cases h
  · rcases mem_ite h with h | h
    · exact one tQ (by simp) h
    · cases h
theorem sgTo_small (ns : List Int) : ∀ i, ∀ x ∈ sgTo ns i, x.s.length ≤ 3 ∧ x.f.length ≤ 3
  | 0, x, h => nomatch h
  | i + 1, x, h => by
    rcases List.mem_append.mp h with h | h
    · exact sgTo_small ns i x h
    · exact sgOne_small i _ x h
theorem sgOf_small (xs : List Int) : ∀ x ∈ sgOf xs, x.s.length ≤ 3 ∧ x.f.length ≤ 3 := by
  intro x hx
  rcases mem_ite hx with h | h
  · rcases List.mem_cons.mp h with rfl | h
    · exact tU_small _
    · exact sgTo_small _ _ x h
  · rcases mem_ite h with h | h
    · rcases List.mem_append.mp h with h | h
      · exact sgTo_small _ _ x h
      · rw [List.mem_singleton.mp h]; exact tU_small _
    · exact sgTo_small _ _ x h
theorem sgOf_len (xs : List Int) : (sgOf xs).length ≤ 46 := by
  have a := sgTo_len (numsOf xs) 5
  unfold sgOf
  refine len_ite (by rw [List.length_cons]; omega) (len_ite (by rw [List.length_append, List.length_singleton]; omega) (by omega))
theorem join_same (sep : Str) (l : List Str) : Txt.join sep l = Str.join sep l := by
  have h := join_plain_closes sep l
  exact eq_of_beq h
theorem sp_len (xs : List Int) : (spOf xs).length ≤ 20 := by
  have a := head_len (lackOf xs)
  unfold spOf
  split
  · rw [str_len_app, str_len_app]
    have b := Txt.slice_le (headOf (lackOf xs)) none (some (placeOf xs))
    have c := Txt.slice_le (headOf (lackOf xs)) (some (placeOf xs)) none
    have d := (tU_small ((totOf xs).fdiv 8)).1
    have e : (exOf xs).s.length ≤ 3 := d
    omega
  · omega
theorem join_len (l : List Str) (n : Nat) (h : ∀ y ∈ l, y.length ≤ n) : (Txt.join (Str.ofString "") l).length ≤ n * l.length := by
  have a := StrLaws.join_length_le (Str.ofString "") l
  have b := StrLaws.sumLen_le l h
  have e0 : (Str.ofString "").length = 0 := by decide
  rw [e0, Nat.mul_zero, Nat.add_zero] at a
  rw [Nat.mul_comm, join_same]
  exact Nat.le_trans a b
/-- the loop's frame -/
noncomputable def mW (Wl : Addr) (m0 : Str → Option Value) (hs se sn pr tx hd inn du : Option Value) : Str → Option Value := fun y =>
  if y = Str.ofString "due" then du else if y = Str.ofString "inner" then inn else if y = Str.ofString "hand" then hd else if y = Str.ofString "text" then tx else if y = Str.ofString "prepared" then pr else
  if y = Str.ofString "seen" then sn else if y = Str.ofString "sent" then se else if y = Str.ofString "hands" then hs else if y = Str.ofString "ways" then some (.ref Wl) else m0 y
theorem mW_hands (Wl : Addr) (m0 : Str → Option Value) (hs se sn pr tx hd inn du v : Option Value) : (fun y => if y = Str.ofString "hands" then v else mW Wl m0 hs se sn pr tx hd inn du y) = mW Wl m0 v se sn pr tx hd inn du := by
  funext y
  by_cases h1 : y = Str.ofString "hands"
  · subst h1; rfl
  simp only [mW, if_neg h1]
theorem mW_sent (Wl : Addr) (m0 : Str → Option Value) (hs se sn pr tx hd inn du v : Option Value) : (fun y => if y = Str.ofString "sent" then v else mW Wl m0 hs se sn pr tx hd inn du y) = mW Wl m0 hs v sn pr tx hd inn du := by
  funext y
  by_cases h1 : y = Str.ofString "sent"
  · subst h1; rfl
  simp only [mW, if_neg h1]
theorem mW_seen (Wl : Addr) (m0 : Str → Option Value) (hs se sn pr tx hd inn du v : Option Value) : (fun y => if y = Str.ofString "seen" then v else mW Wl m0 hs se sn pr tx hd inn du y) = mW Wl m0 hs se v pr tx hd inn du := by
  funext y
  by_cases h1 : y = Str.ofString "seen"
  · subst h1; rfl
  simp only [mW, if_neg h1]
theorem mW_prepared (Wl : Addr) (m0 : Str → Option Value) (hs se sn pr tx hd inn du v : Option Value) : (fun y => if y = Str.ofString "prepared" then v else mW Wl m0 hs se sn pr tx hd inn du y) = mW Wl m0 hs se sn v tx hd inn du := by
  funext y
  by_cases h1 : y = Str.ofString "prepared"
  · subst h1; rfl
  simp only [mW, if_neg h1]
theorem mW_text (Wl : Addr) (m0 : Str → Option Value) (hs se sn pr tx hd inn du v : Option Value) : (fun y => if y = Str.ofString "text" then v else mW Wl m0 hs se sn pr tx hd inn du y) = mW Wl m0 hs se sn pr v hd inn du := by
  funext y
  by_cases h1 : y = Str.ofString "text"
  · subst h1; rfl
  simp only [mW, if_neg h1]
theorem mW_hand (Wl : Addr) (m0 : Str → Option Value) (hs se sn pr tx hd inn du v : Option Value) : (fun y => if y = Str.ofString "hand" then v else mW Wl m0 hs se sn pr tx hd inn du y) = mW Wl m0 hs se sn pr tx v inn du := by
  funext y
  by_cases h1 : y = Str.ofString "hand"
  · subst h1; rfl
  simp only [mW, if_neg h1]
theorem mW_inner (Wl : Addr) (m0 : Str → Option Value) (hs se sn pr tx hd inn du v : Option Value) : (fun y => if y = Str.ofString "inner" then v else mW Wl m0 hs se sn pr tx hd inn du y) = mW Wl m0 hs se sn pr tx hd v du := by
  funext y
  by_cases h1 : y = Str.ofString "inner"
  · subst h1; rfl
  simp only [mW, if_neg h1]
theorem mW_due (Wl : Addr) (m0 : Str → Option Value) (hs se sn pr tx hd inn du v : Option Value) : (fun y => if y = Str.ofString "due" then v else mW Wl m0 hs se sn pr tx hd inn du y) = mW Wl m0 hs se sn pr tx hd inn v := by
  funext y
  by_cases h1 : y = Str.ofString "due"
  · subst h1; rfl
  simp only [mW, if_neg h1]
theorem mW_target (Wl : Addr) (m0 : Str → Option Value) (hs se sn pr tx hd inn du a b c d : Option Value) : (fun y => if y = Str.ofString "prepared" then d else (fun y => if y = Str.ofString "seen" then c else (fun y => if y = Str.ofString "sent" then b else (fun y => if y = Str.ofString "hands" then a else mW Wl m0 hs se sn pr tx hd inn du y) y) y) y) = mW Wl m0 a b c d tx hd inn du := by
  rw [mW_hands, mW_sent, mW_seen, mW_prepared]
theorem mW_start (Wl : Addr) (m0 : Str → Option Value) (h : ∀ y ∈ [Str.ofString "due", Str.ofString "inner", Str.ofString "hand", Str.ofString "text", Str.ofString "prepared", Str.ofString "seen", Str.ofString "sent", Str.ofString "hands"], m0 y = none) :
    (fun y => if y = Str.ofString "ways" then some (.ref Wl) else m0 y) = mW Wl m0 none none none none none none none none := by
  funext y
  by_cases h1 : y = Str.ofString "due"
  · subst h1; exact h _ (by simp)
  by_cases h2 : y = Str.ofString "inner"
  · subst h2; exact h _ (by simp)
  by_cases h3 : y = Str.ofString "hand"
  · subst h3; exact h _ (by simp)
  by_cases h4 : y = Str.ofString "text"
  · subst h4; exact h _ (by simp)
  by_cases h5 : y = Str.ofString "prepared"
  · subst h5; exact h _ (by simp)
  by_cases h6 : y = Str.ofString "seen"
  · subst h6; exact h _ (by simp)
  by_cases h7 : y = Str.ofString "sent"
  · subst h7; exact h _ (by simp)
  by_cases h8 : y = Str.ofString "hands"
  · subst h8; exact h _ (by simp)
  simp only [mW, if_neg h1, if_neg h2, if_neg h3, if_neg h4, if_neg h5, if_neg h6, if_neg h7, if_neg h8]
theorem mW_th (Wl : Addr) (m0 : Str → Option Value) (hs se sn pr tx hd inn du v v' : Option Value) : (fun y => if y = Str.ofString "text" then v else if y = Str.ofString "hand" then v' else mW Wl m0 hs se sn pr tx hd inn du y) = mW Wl m0 hs se sn pr v v' inn du := by
  funext y
  by_cases h1 : y = Str.ofString "text"
  · subst h1; rfl
  by_cases h2 : y = Str.ofString "hand"
  · subst h2; rfl
  simp only [mW, if_neg h1, if_neg h2]
noncomputable def AnsObj : Ans → Obj → Prop
  | .reply, o => ∃ u, o = W.listOf #[.str (Str.ofString "error_reply") u, .bool true] 0
  | .proto, o => ∃ u, o = W.listOf #[.str (Str.ofString "error_proto") u, .bool true] 0
  | .value, o => ∃ u, o = W.listOf #[.str (Str.ofString "ValueError") u] 0
  | .ok p, o => ∃ u k, o = { cls := .type "tuple", data := .seq #[.str (Str.ofString "10.0.0.7") u, .int p k] }
noncomputable def ansData : Ans → PyData
  | .reply => .list [.str (Str.ofString "error_reply"), .bool true]
  | .proto => .list [.str (Str.ofString "error_proto"), .bool true]
  | .value => .list [.str (Str.ofString "ValueError")]
  | .ok p => .tuple [.str (Str.ofString "10.0.0.7"), .int p]
theorem ans_obj {h : Heap} {v : Value} : ∀ {A : Ans}, AnsAt h v A → ∃ a o, v = .ref a ∧ h.get? a = some o ∧ AnsObj A o
  | .reply, ⟨a, u, e, g⟩ => ⟨a, _, e, g, u, rfl⟩
  | .proto, ⟨a, u, e, g⟩ => ⟨a, _, e, g, u, rfl⟩
  | .value, ⟨a, u, e, g⟩ => ⟨a, _, e, g, u, rfl⟩
  | .ok p, ⟨a, u, k, e, g⟩ => ⟨a, _, e, g, u, k, rfl⟩
theorem ans_reads {h : Heap} {a : Addr} {o : Obj} (g : h.get? a = some o) : ∀ {A : Ans}, AnsObj A o → ∃ as, Reads h (.ref a) (ansData A) as
  | .reply, ⟨u, e⟩ => ⟨_, .list (e ▸ g) rfl rfl (.cons (.str _ _) (.cons (.bool _) .nil))⟩
  | .proto, ⟨u, e⟩ => ⟨_, .list (e ▸ g) rfl rfl (.cons (.str _ _) (.cons (.bool _) .nil))⟩
  | .value, ⟨u, e⟩ => ⟨_, .list (e ▸ g) rfl rfl (.cons (.str _ _) .nil)⟩
  | .ok p, ⟨u, k, e⟩ => ⟨_, .tuple (e ▸ g) rfl rfl (.cons (.str _ _) (.cons (.int _ _) .nil))⟩
theorem ans_lay : ∀ A : Ans, PyData.canLay0 (ansData A) = true
  | .reply => by decide +kernel
  | .proto => by decide +kernel
  | .value => by decide +kernel
  | .ok p => by
    show (PyData.strOk (Str.ofString "10.0.0.7") && (true && true)) = true
    decide +kernel
theorem ans_depth : ∀ A : Ans, (ansData A).depth ≤ 2
  | .reply => by decide +kernel
  | .proto => by decide +kernel
  | .value => by decide +kernel
  | .ok _ => by first | exact Nat.le_of_ble_eq_true rfl | simp [ansData, PyData.depth]
theorem ans_eqv : ∀ A : Ans, (ansData A).eqv (ansData A) = true
  | .reply => by decide +kernel
  | .proto => by decide +kernel
  | .value => by decide +kernel
  | .ok p => by
    show ((Str.ofString "10.0.0.7" == Str.ofString "10.0.0.7") && ((p == p) && true)) = true
    simp
theorem kept_fr {h₀ h h' : Heap} {L : Addr} {m : Str → Option Value} (F : Fr h₀ L h m) (k : KeptBut [L] h h') : Fr h₀ L h' m := by
  obtain ⟨oL, es, ep, hL, hd, r⟩ := F.ns
  obtain ⟨sl, hs⟩ := k.2 L oL hL (fun vs e => by rw [hd] at e; cases e)
  refine ⟨⟨_, es, ep, hs, hd, r⟩, fun b o e => k.1 b o (F.keep b o e) fun hb => ?_, F.above⟩
  have e1 : b = L := List.mem_singleton.mp hb
  exact absurd (Heap.lt_size e) (Nat.not_lt.mpr (e1 ▸ F.above))
theorem kept_news {h₀ h h' : Heap} {L : Addr} {news : List (Addr × Obj)} (N : News h₀ L h news) (k : KeptBut [L] h h') : News h₀ L h' news := fun p hp =>
  ⟨k.1 _ _ (N p hp).1 fun hb => (N p hp).2.1 (List.mem_singleton.mp hb), (N p hp).2⟩
end Mine
end
section
open PySem PySem.W PySem.Calls PyProof.Rows
namespace Mine
section
variable {prog : Program} {w : World} {A : Around} {E : Value → Shared → Prop} {s : Shared} {env : Env}
theorem compLoop_tup {R : Result → Shared → Prop} {elt target iter : Expr} {scope : Scope} {pos : Pos} {it acc : Value} {cenv : Env} (I : Nat → Shared → Prop)
    (turn : ∀ n s, I n s → ∀ E' : Value → Shared → Prop, wpAny (model prog w) A (pyNext it) (fun r s₁ => match r with
      | none => R (.ok .next) s₁
      | some v => wpAny (model prog w) A (letOwnedTupleGo target it v) (fun _ s₁' => wpAny (model prog w) A (assign target cenv v) (fun _ s₂ =>
            wpAny (model prog w) A (eval elt cenv) (fun x s₄ => wpAny (model prog w) A (call (.builtin "list.append") [acc, x]) (fun _ s₅ => ∃ m, m < n ∧ I m s₅) E' s₄) E' s₂) E' s₁') E' s₁) E' s)
    (n : Nat) (h : I n s) : codeAny (model prog w) A (.compLoop (.ListComp elt [⟨target, iter, [], 0⟩] scope pos) 0 it acc cenv) R s := by
  refine codeAny_loop rfl I (fun n s hI => ?_) n h
  show wpAny _ A ((compTurn (.ListComp elt [⟨target, iter, [], 0⟩] scope pos) 0 it acc cenv).onRaise (fun x => do noteFrame x cenv; theTreesLotGoes x)) _ _ s
  refine wpAny_noted ?_
  rw [compTurn_list]
  refine wpAny_bind (wpAny_standAt (wpAny_bind (wpAny_mono (turn n s hI _) (fun r s₁ h₁ => ?_) fun _ _ h' => h')))
  cases r with
  | none => exact wpAny_pure h₁
  | some v =>
    refine wpAny_bind (wpAny_mono h₁ (fun _ s₁' h₁' => ?_) fun _ _ h' => h')
    refine wpAny_bind (wpAny_mono h₁' (fun _ s₂ h₂ => wpAny_bind (wpAny_tests_nil ?_)) fun _ _ h' => h')
    exact wpAny_bind (wpAny_bind (wpAny_mono h₂ (fun x s₄ h₄ => wpAny_bind (wpAny_mono h₄ (fun _ s₅ h₅ => wpAny_pure (wpAny_pure ⟨rfl, h₅⟩)) fun _ _ h' => h')) fun _ _ h' => h'))
/-- the signs of the triples of a list -/
theorem ListComp_J {iter : Expr} {x1 x2 x3 : Str} {p1 p2 p3 pt pe : Pos} {kt : Nat} {scope : Scope} {cl : List (Str × Addr)} {pos : Pos} {Q : Value → Shared → Prop} {l : Addr} {us : List Value} {ts : List (Addr × Obj)} {xs : List T3}
    (hclos : closureFor scope env = pure cl) (hcell : ∀ y ∈ scope.names, y.2 ≠ .cell) (hkind : scope.kind = .function) (hnames : ∀ y ∈ scope.names, y.2 = .local → scope.names.lookup y.1 = some .local)
    (hx1 : scope.names.lookup x1 = some .local) (hx2 : scope.names.lookup x2 = some .local) (hx3 : scope.names.lookup x3 = some .local) (h23 : x2 ≠ x3) (hdb : (x2 == ("__debug__" : Str)) = false)
    (h : wpAny (model prog w) A (eval iter env) (fun xv s₁ => Done (xv = .ref l ∧ A.handled = none ∧ s₁.heap.IsList l us.toArray ∧ Tr ts us xs ∧ (∀ p ∈ ts, s₁.heap.get? p.1 = some p.2) ∧ us.length ≤ 1000 ∧
      ∀ D h' tk l', s₁.heap.get? D = none → h'.IsList D (strValues l').toArray → l'.map (·.1) = xs.map (·.s) → (∀ b o, s₁.heap.get? b = some o → h'.get? b = some o) → Q (.ref D) { s₁ with heap := h', toks := tk })) E s)
    (hs : ∀ x, foldedSetIterable iter env x = pure x := by intro _; rfl) :
    wpAny (model prog w) A (eval (.ListComp (.Name x2 pe) [⟨.Tuple [.Name x1 p1, .Name x2 p2, .Name x3 p3] kt pt, iter, [], 0⟩] scope pos) env) Q E s := by
  rw [eval_ListComp]
  refine wpAny_comprehension_free (use := none) rfl hs hclos hkind hnames (wpAny_mono h (fun xv s₁ h₁ => ?_) fun _ _ e => e)
  obtain ⟨⟨rfl, hh, hl, hTr, hts, hsz, hQ⟩⟩ := h₁
  refine wpAny_pyIter_list hl (wpAny_newObj_type (hd := by size_fits) (wpAny_newFunctionEnv hcell (by intro y hy; simp at hy) (fun h₁ hns₁ hsb₁ => ?_) hkind))
  dsimp only at hns₁ hsb₁ ⊢
  have hax : l < s₁.heap.objs.size := by obtain ⟨_, e, _⟩ := hl; exact Heap.lt_size e
  generalize hH1 : s₁.heap.push { cls := .type "list_iterator", data := .fields #[.ref l, .int 0 0] } = H1 at hns₁ hsb₁ ⊢
  have hD : H1.objs.size = s₁.heap.objs.size + 1 := by rw [← hH1, Heap.size_push]
  generalize hH2 : H1.push { cls := .type "list", dict := none, data := .seq ([] : List Value).toArray } = H2 at hns₁ hsb₁ ⊢
  have hC : H2.objs.size = s₁.heap.objs.size + 2 := by rw [← hH2, Heap.size_push, hD]
  have hDI : H1.objs.size ≠ s₁.heap.objs.size := by rw [hD]; exact Nat.succ_ne_self _
  have hDC : H1.objs.size ≠ H2.objs.size := by rw [hD, hC]; exact Nat.ne_of_lt (Nat.lt_succ_self _)
  have hIC : s₁.heap.objs.size ≠ H2.objs.size := by rw [hC]; exact Nat.ne_of_lt (Nat.lt_succ_of_lt (Nat.lt_succ_self _))
  have below : ∀ b, b < s₁.heap.objs.size → b ≠ H2.objs.size ∧ b ≠ s₁.heap.objs.size ∧ b ≠ H1.objs.size := fun b hb =>
    ⟨by rw [hC]; exact Nat.ne_of_lt (Nat.lt_succ_of_lt (Nat.lt_succ_of_lt hb)), Nat.ne_of_lt hb, by rw [hD]; exact Nat.ne_of_lt (Nat.lt_succ_of_lt hb)⟩
  have old : ∀ b o, s₁.heap.get? b = some o → h₁.get? b = some o := fun b o e =>
    hsb₁.extBut b o (below b (Heap.lt_size e)).1 (Heap.get?_push_of_some _ (hH2 ▸ Heap.get?_push_of_some _ (hH1 ▸ Heap.get?_push_of_some _ e)))
  have hit : h₁.IsListIter s₁.heap.objs.size l 0 :=
    ⟨_, hsb₁.extBut _ _ hIC (Heap.get?_push_of_some _ (hH2 ▸ Heap.get?_push_of_some _ (hH1 ▸ Heap.get?_push_size _ rfl))), rfl, rfl⟩
  have hacc : h₁.IsList H1.objs.size #[] := ⟨_, hsb₁.extBut _ _ hDC (Heap.get?_push_of_some _ (hH2 ▸ Heap.get?_push_size _ rfl)), rfl, _, rfl⟩
  have hl₁ : h₁.IsList l us.toArray := hl.at fun o e => old _ o e
  have hnew : s₁.heap.get? H1.objs.size = none := by
    cases e : s₁.heap.get? H1.objs.size with
    | none => rfl
    | some o' => have := Heap.lt_size e; rw [hD] at this; exact absurd this (Nat.not_lt.mpr (Nat.le_succ _))
  have hkC : (compEnvC scope cl H2.objs.size env).scope.kind = .function := hkind
  have hpl : ((compEnvC scope cl H2.objs.size env).scope.kind == .class || ((compEnvC scope cl H2.objs.size env).scope.kind == .module && (compEnvC scope cl H2.objs.size env).locals != (compEnvC scope cl H2.objs.size env).globals)) = false := by rw [hkC]; rfl
  have loop : ∀ s₂ : Shared, s₂ = { s₁ with heap := h₁, toks := s₁.toks + ([] : List (Str × Value)).length } →
      codeAny (model prog w) A (.compLoop (.ListComp (.Name x2 pe) [⟨.Tuple [.Name x1 p1, .Name x2 p2, .Name x3 p3] kt pt, iter, [], 0⟩] scope pos) 0 (.ref s₁.heap.objs.size) (.ref H1.objs.size) (compEnvC scope cl H2.objs.size env))
        (compPost (model prog w) A E none Q (.ref H1.objs.size) H2.objs.size) s₂ := by
    rintro s₂ rfl
    refine compLoop_tup (fun k s' => ∃ h' tk i ys m', s' = { s₁ with heap := h', toks := tk } ∧ h'.IsListIter s₁.heap.objs.size l i ∧ h'.IsList H1.objs.size (strValues ys).toArray ∧ h'.Ns H2.objs.size m' ∧ ys.map (·.1) = (xs.take i).map (·.s) ∧ ys.length = i ∧ i ≤ us.length ∧ k = us.length + 1 - i ∧
      (∀ b o, s₁.heap.get? b = some o → h'.get? b = some o)) ?_ (us.length + 1) ⟨h₁, _, 0, [], _, rfl, hit, hacc, hns₁, rfl, rfl, Nat.zero_le _, rfl, old⟩
    rintro k s' ⟨h', tk, i, ys, m', rfl, hit', hacc', hn', hys, hyl, hi, rfl, hk⟩ E'
    have hl' : h'.IsList l us.toArray := hl.at fun o e => hk _ o e
    cases hv : us[i]? with
    | none =>
      have hi' : us.length ≤ i := by simpa using hv
      have e : i = us.length := Nat.le_antisymm hi hi'
      refine wpAny_pyNext_list_end hh hit' hl' (by simpa using hv) fun h₂ he₂ => ?_
      refine ⟨m', hn'.extBut he₂ (Ne.symm hIC), fun h₃ hs₃ => ?_⟩
      refine hQ _ h₃ tk ys hnew ((hacc'.extBut he₂ hDI).extBut hs₃.extBut hDC) ?_ fun b o e => hs₃.extBut b o (below b (Heap.lt_size e)).1 (he₂ b o (below b (Heap.lt_size e)).2.1 (hk b o e))
      rw [hys, e, hTr.length, List.take_length]
    | some v =>
      have hlt : i < us.length := (List.getElem?_eq_some_iff.mp hv).1
      obtain ⟨x, a, v1, v2, v3, rfl, hx, ha⟩ := hTr.get hv
      refine wpAny_pyNext_list_item hit' hl' (by simpa using hv) fun h₂ hit₂ hs₂ => ?_
      refine letGo_listiter hit₂ ?_
      have hk2 : ∀ b o, s₁.heap.get? b = some o → h₂.get? b = some o := fun b o e => hs₂.extBut b o (below b (Heap.lt_size e)).2.1 (hk b o e)
      have hn2 : h₂.Ns H2.objs.size m' := hn'.sameBut hs₂ (Ne.symm hIC)
      have hCl : H2.objs.size < h₂.objs.size := hn2.lt
      have hDl : H1.objs.size < h₂.objs.size := by obtain ⟨_, e, _⟩ := hacc'.extBut hs₂.extBut hDI; exact Heap.lt_size e
      have hIl : s₁.heap.objs.size < h₂.objs.size := by obtain ⟨_, e, _⟩ := hit₂; exact Heap.lt_size e
      refine assign_Tuple_tuple hh ⟨_, hk2 _ _ (hts _ ha), rfl, _, rfl⟩ rfl rfl fun h₃ he₃ => ?_
      have hk3 : ∀ b o, s₁.heap.get? b = some o → h₃.get? b = some o := fun b o e => he₃ b o (Nat.ne_of_lt (Heap.lt_size (hk2 b o e))) (hk2 b o e)
      have hn3 : h₃.Ns H2.objs.size m' := hn2.extBut he₃ (Nat.ne_of_lt hCl)
      have hacc3 : h₃.IsList H1.objs.size (strValues ys).toArray := (hacc'.extBut hs₂.extBut hDI).extBut he₃ (Nat.ne_of_lt hDl)
      have hit3 : h₃.IsListIter s₁.heap.objs.size l (i + 1) := hit₂.extBut he₃ (Nat.ne_of_lt hIl)
      refine assignInOrder_cons (wpAny_assign_Name (wpAny_storeName_local (lookup_relabel_local hx1) hn3 (fun h₄ hn₄ hs₄ => ?_) hpl))
      refine assignInOrder_cons (wpAny_assign_Name (wpAny_storeName_local (lookup_relabel_local hx2) hn₄ (fun h₅ hn₅ hs₅ => ?_) hpl))
      refine assignInOrder_cons (wpAny_assign_Name (wpAny_storeName_local (lookup_relabel_local hx3) hn₅ (fun h₆ hn₆ hs₆ => ?_) hpl))
      refine assignInOrder_nil ?_
      refine wpAny_Name (wpAny_loadName_local (v := .str x.s v2) hkC (lookup_relabel_local hx2) hn₆ (by simp [h23]) ?_) hdb
      have ub : ∀ b o, b ≠ H2.objs.size → h₃.get? b = some o → h₆.get? b = some o := fun b o hb e => hs₆.extBut b o hb (hs₅.extBut b o hb (hs₄.extBut b o hb e))
      have hacc6 : h₆.IsList H1.objs.size (strValues ys).toArray := hacc3.at fun o e => ub _ o hDC e
      refine wpAny_list_append (hsz := by rw [List.size_toArray, strValues, List.length_map, hyl, PySem.sizeLine_eq]; omega) hacc6 fun h₇ hl₇ hs₇ => ?_
      refine ⟨us.length + 1 - (i + 1), by omega, h₇, _, i + 1, ys ++ [(x.s, v2)], _, rfl, (hit3.at fun o e => ub _ o hIC e).extBut hs₇.extBut (Ne.symm hDI), ?_, hn₆.sameBut hs₇ (Ne.symm hDC), ?_, by rw [List.length_append, hyl]; rfl, hlt, rfl,
        fun b o e => hs₇.extBut b o (below b (Heap.lt_size e)).2.2 (ub b o (below b (Heap.lt_size e)).1 (hk3 b o e))⟩
      · rw [strValues, List.map_append]
        show h₇.IsList _ (strValues ys ++ [Value.str x.s v2]).toArray
        rw [← List.push_toArray]
        exact hl₇
      · rw [List.map_append, hys, List.take_add_one, hx, List.map_append]
        rfl
  exact codeAny_compStart_list (loop _ rfl) (wpAny_pyIter_listiter hit (loop _ rfl))
end
end Mine
end
section
open PySem PySem.W PySem.Calls PyProof.Rows
namespace Mine
section
variable {prog : Program} {w : World} {A : Around} {E : Value → Shared → Prop} {s : Shared} {env : Env} {h₀ : Heap} {target : Expr} {body : List Stmt} {Q : Flow → Shared → Prop}
/-- a for over a list of the ledger -/
theorem for_listN {l : Addr} {vs : List Value} {n : Nat} {m₀ : Str → Option Value} {news : List (Addr × Obj)} (J : Nat → (Str → Option Value) → Prop)
    (hh : A.handled = none) (F : Fr h₀ env.locals s.heap m₀) (N : News h₀ env.locals s.heap news) (hm : (l, W.listOf vs.toArray n) ∈ news) (h0 : J 0 m₀)
    (turn : ∀ I i v m h tk oI, vs[i]? = some v → J i m → Fr h₀ env.locals h m → News h₀ env.locals h ((I, oI) :: news) → oI.cls = .type "list_iterator" →
      wpAny (model prog w) A (assign target env v) (fun _ s₂ => wpAny (model prog w) A (execs body env) (fun f s₃ => Done (TurnEnd h₀ env.locals ((I, oI) :: news) (J (i + 1)) { s with heap := h, toks := tk } f s₃)) E s₂) E { s with heap := h, toks := tk })
    (done : ∀ m h tk, J vs.length m → Fr h₀ env.locals h m → News h₀ env.locals h news → Q .next { s with heap := h, toks := tk }) :
    wpAny (model prog w) A (pyIter (.ref l)) (fun it s₂ => TurnsAt prog w A h₀ env target body Q E it s₂) E s := by
  have hax : s.heap.get? l = some (W.listOf vs.toArray n) := (N _ hm).1
  have hls : s.heap.IsList l vs.toArray := ⟨_, hax, rfl, n, rfl⟩
  have hlt : l < s.heap.objs.size := Heap.lt_size hax
  have hne : l ≠ s.heap.objs.size := Nat.ne_of_lt hlt
  have low : ∀ p ∈ news, p.1 < s.heap.objs.size := fun p hp => Heap.lt_size (N p hp).1
  refine wpAny_pyIter_list hls ?_
  -- the list itself is kept on the ledger
  have rest : ∀ (r : List Value) i m, vs.drop i = r → i ≤ vs.length → J i m → ItemsRest prog w A E h₀ env target body Q s [(s.heap.objs.size, "list_iterator")] [(l, W.listOf vs.toArray n)] (r.map .val) m news := by
    intro r
    induction r with
    | nil =>
      intro i m hr hi hJ
      have e : i = vs.length := by
        have := congrArg List.length hr
        simp at this; omega
      subst e
      exact .zero fun h tk F N => done m h tk hJ F N
    | cons v r ih =>
      intro i m hr hi hJ
      have hv : vs[i]? = some v := by
        have := congrArg List.head? hr
        simpa using this
      have hi' : i < vs.length := (List.getElem?_eq_some_iff.mp hv).1
      have hr' : vs.drop (i + 1) = r := by
        have := congrArg List.tail hr
        simpa using this
      refine .val fun h tk F => .cons fun oI hc => .nil fun N => ?_
      have N' : News h₀ env.locals h ((s.heap.objs.size, oI) :: news) := N
      refine wpAny_mono (turn _ i v m h tk oI hv hJ F N' hc) (fun _ s₂ h₂ => wpAny_mono h₂ (fun f s₃ h₃ => ?_) fun _ _ e => e) fun _ _ e => e
      obtain ⟨⟨rfl, h', tk', m', rfl, F', N'', hJ'⟩⟩ := h₃
      refine ⟨h', tk', m', news, rfl, F', N'', fun p hp q hq => ?_, ⟨hm, trivial⟩, ih (i + 1) m' hr' hi' hJ'⟩
      rw [List.mem_singleton.mp hq]
      exact Nat.ne_of_lt (low p hp)
  refine ktg_core (tk0 := s.toks) (keep := [(l, W.listOf vs.toArray n)]) (ws := [(s.heap.objs.size, "list_iterator")]) (xs := vs.map .val) (KTurns.ofWalks (Walks.list hh s.heap.objs.size l hne vs.toArray) fun i v s Q E st q => letGo_listiter st.1 q) (by simp) (fun i v h hp => ⟨.val v, ?_, rfl⟩) (fun i h st => ?_) (fun b hb => ?_) (fun b hb => by simpa using hb) (fun b hb => ?_) ?_ (fun p hp hI => ?_) ?_ (F.push _) (fun p hp => ⟨Heap.get?_push_of_some _ (N p hp).1, (N p hp).2⟩) ⟨hm, trivial⟩
    (rest vs 0 m₀ rfl (Nat.zero_le _) h0)
  · have hp' : vs.toArray[i]? = some v := hp
    simpa using hp'
  · obtain ⟨it, hit, hic, _⟩ := st.1
    exact ⟨[(s.heap.objs.size, it)], ⟨⟨rfl, hic⟩, trivial⟩, fun p hp => by rw [List.mem_singleton.mp hp]; exact hit⟩
  · have hb' : b = s.heap.objs.size := by simpa using hb
    rw [hb']
    exact ⟨List.mem_cons_self .., next_is_new F⟩
  · have hb' : b = s.heap.objs.size ∨ b = l := by simpa using hb
    rcases hb' with e | e
    · exact .inl (by simp [e])
    · exact .inr (.inl ⟨_, by rw [e]; exact .head _⟩)
  · intro hI
    rcases List.mem_cons.mp hI with e | hI
    · exact absurd F.ns.lt (e ▸ Nat.lt_irrefl _)
    · have e : env.locals = l := List.mem_singleton.mp hI
      exact (N _ hm).2.1 e.symm
  · exact absurd (Heap.lt_size (N p hp).1) ((List.mem_singleton.mp hI) ▸ Nat.lt_irrefl _)
  · exact ⟨⟨_, Heap.get?_push_size _ rfl, rfl, rfl⟩, hls.at fun o e => Heap.get?_push_of_some _ e⟩
/-- a for over a list of the ledger, its turns under the caller -/
theorem loopC {I l : Addr} {vs : List Value} {n2 : Nat} {LED : List (Addr × Obj)} {R : Result → Shared → Prop} (mOK : Nat → (Str → Option Value) → Prop) (hh : A.handled = none) (hl : (l, W.listOf vs.toArray n2) ∈ LED) (off : ∀ p ∈ LED, p.1 ≠ I)
    (turn : ∀ i v m h tk oI, vs[i]? = some v → mOK i m → Fr h₀ env.locals h m → News h₀ env.locals h ((I, oI) :: LED) →
      wpAny (model prog w) A (assign target env v) (fun _ s₂ => wpC (model prog w) A (execs body env) (fun f s₃ => Done (TurnEnd h₀ env.locals ((I, oI) :: LED) (mOK (i + 1)) { s with heap := h, toks := tk } f s₃)) (fun _ _ => False) s₂) (fun _ _ => False) { s with heap := h, toks := tk })
    (done : ∀ m h tk, mOK vs.length m → Fr h₀ env.locals h m → News h₀ env.locals h LED → R (.ok .next) { s with heap := h, toks := tk }) :
    ∀ k i, i + k = vs.length → ∀ m h tk oI, mOK i m → Fr h₀ env.locals h m → News h₀ env.locals h ((I, oI) :: LED) → h.IsListIter I l i → codeC (model prog w) A (.forLoop target (.ref I) body [] env) R { s with heap := h, toks := tk } := by
  intro k
  induction k with
  | zero =>
    intro i hi m h tk oI hm F N hit
    have e : i = vs.length := by omega
    subst e
    have hls : h.IsList l vs.toArray := ⟨_, (N _ (.tail _ hl)).1, rfl, n2, rfl⟩
    refine forTurn_C (wpAny_pyNext_list_end hh hit hls (by simp) fun h' he => wpAny_execs_nil ?_)
    have hI := N _ (.head _)
    refine done m h' tk hm ⟨F.ns.extBut he (Ne.symm hI.2.1), fun b o e => he b o (fun q => ?_) (F.keep b o e), F.above⟩ fun p hp => ⟨he _ _ (off p hp) (N p (.tail _ hp)).1, (N p (.tail _ hp)).2⟩
    have h2 : h₀.get? I = none := hI.2.2
    rw [q, h2] at e; cases e
  | succ k ih =>
    intro i hi m h tk oI hm F N hit
    have hlt : i < vs.length := by omega
    have hls : h.IsList l vs.toArray := ⟨_, (N _ (.tail _ hl)).1, rfl, n2, rfl⟩
    have hI := N _ (.head _)
    have h2 : h₀.get? I = none := hI.2.2
    refine forTurn_C (wpAny_pyNext_list_item hit hls (x := vs[i]) (by simp [hlt]) fun h' hit' hs' => letGo_listiter hit' ?_)
    obtain ⟨o', ho', hc', hd'⟩ := id hit'
    have F' : Fr h₀ env.locals h' m := F.change hs' hI.2.1 h2
    have N' : News h₀ env.locals h' ((I, o') :: LED) := fun p hp => by
      rcases List.mem_cons.mp hp with rfl | hp
      · exact ⟨ho', hI.2⟩
      · exact ⟨hs'.extBut _ _ (off p hp) (N p (.tail _ hp)).1, (N p (.tail _ hp)).2⟩
    refine wpAny_mono (turn i vs[i] m h' tk o' (by simp [hlt]) hm F' N') (fun _ s₂ h₂ => wpC_mono h₂ (fun f s₃ h₃ => ?_) fun _ _ e => e.elim) fun _ _ e => e.elim
    obtain ⟨⟨rfl, h3, tk3, m3, rfl, F3, N3, hm3⟩⟩ := h₃
    exact ih (i + 1) (by omega) m3 h3 tk3 o' hm3 F3 N3 ⟨o', (N3 _ (.head _)).1, hc', hd'⟩
end
end Mine
end
local macro_rules | `(tactic| walk_at "idle 31") => `(tactic| fail)
local macro_rules | `(tactic| walk_at "idle 32") => `(tactic| fail)
local macro_rules | `(tactic| walk_at "idle 33") => `(tactic| fail)
local macro_rules | `(tactic| walk_at "idle 34") => `(tactic| fail)
local macro_rules | `(tactic| walk_at "idle 35") => `(tactic| fail)
section
open PySem PySem.W PySem.Calls PyProof.Rows
namespace Mine
local macro_rules | `(tactic| k_room) => `(tactic| exact Nat.le_of_ble_eq_true rfl)
theorem fill_law : (K = K ∧ PySem.Challenge.rw_tr0051_01 = PySem.Challenge.rw_tr0051_01) → True := by
  k_fill
  intro _
  trivial
theorem cutC {M : Model} {A : Around} {E : Value → Shared → Prop} {s : Shared} {env : Env} {Q : Flow → Shared → Prop} {body : List Stmt} (n : Nat) (Mid : Shared → Prop) (h : ∀ P : Shared → Prop, (∀ s₁, Mid s₁ → P s₁) → wpAny M A (execs (body.take n) env) (fun f s₁ => Done (f = .next ∧ P s₁)) E s)
    (k : ∀ s₁, Mid s₁ → wpC M A (execs (body.drop n) env) Q E s₁) : wpC M A (execs body env) Q E s :=
  wpC_execs_at n (wpAny_mono (h Mid fun _ a => a) (fun f s₁ hh => by
    obtain ⟨⟨rfl, hm⟩⟩ := hh
    exact k s₁ hm) fun _ _ e => e)
theorem open_postC {M : Model} {A : Around} {s : Shared} {α : Type} {c : Sem α} {Q : α → Shared → Prop} {E : Value → Shared → Prop} (h : ∀ Q' : α → Shared → Prop, (∀ a s, Q a s → Q' a s) → wpC M A c Q' E s) : wpC M A c Q E s := h Q fun _ _ a => a
section
variable {w : World} {mean : ExcName → Option Value} {mg mb : Str → Option Value}
theorem signs_use {A A₀ : Around} {base h₀ : Heap} {outer : List Env} {env : Env} {L N : Addr} {m : Str → Option Value} {news : List (Addr × Obj)} {s : Shared} {Q E : Value → Shared → Prop} {vs : List Value} {ns : List Int} {n : Nat}
    (B : Below A₀ base outer h₀) (F : Fr h₀ L s.heap m) (N' : News h₀ L s.heap news) (X : (K w.params).In h₀) (T : TopK mean mg mb h₀) (hf : env.frame = some L) (hk : env.scope.kind = .function) (hN : (N, W.listOf vs.toArray n) ∈ news) (hi : IntsAre vs ns) (hn : ns.length = 5)
    (h1 : A.handled = none) (h2 : A.depth ≤ 900 + 10 * 0) (h3 : A.frames = some (env :: outer)) (h4 : A.guards = some []) (h5 : A.units ≤ 1000 + 100 * 0)
    (h : ∀ S us c ts h' tk', TT ts → Tr ts us (sgTo ns 5) → Fr h₀ L h' m → News h₀ L h' ((S, W.listOf us.toArray c) :: (news ++ ts)) → Q (.ref S) { s with heap := h', toks := tk' }) : wpAny (MM w) A (call (.ref 168) [.ref N]) Q E s := by
  refine (signs_spec N vs ns hi hn).use B F N' X T hf hk ⟨_, (N' _ hN).1, rfl, n, rfl⟩ h1 h2 h3 h4 h5 ?_
  rintro v h' tk' F' N'' st ⟨S, us, c, ts, rfl, hT, hTr, hall⟩
  have fresh : ∀ p ∈ (S, W.listOf us.toArray c) :: ts, h'.get? p.1 = some p.2 ∧ p.1 ≠ L ∧ h₀.get? p.1 = none := by
    intro p hp
    obtain ⟨e1, e2⟩ := hall p hp
    refine ⟨e1, fun e => ?_, ?_⟩
    · obtain ⟨oL, _, _, hL, _⟩ := F.ns
      rw [e, hL] at e2; cases e2
    · cases q : h₀.get? p.1 with
      | none => rfl
      | some o => rw [F.keep _ _ q] at e2; cases e2
  refine h S us c ts h' tk' hT hTr F' fun p hp => ?_
  rcases List.mem_cons.mp hp with rfl | hp
  · exact fresh _ (.head _)
  rcases List.mem_append.mp hp with hp | hp
  · exact N'' p hp
  · exact fresh p (.tail _ hp)
theorem drop2 {a b : Addr × Obj} {l : List (Addr × Obj)} {p : Addr × Obj} (h : p ∈ a :: l) : p ∈ a :: b :: l := by
  rcases List.mem_cons.mp h with rfl | h
  · exact .head _
  · exact .tail _ (.tail _ h)
theorem dueX_reply {xs : List Int} {y : Way} (h1 : placeOf xs < 3) (h2 : y.prep = false) (u : Tok) : AnsObj (dueX xs y) (W.listOf #[.str (Str.ofString "error_reply") u, .bool true] 0) := by
  rw [dueX, if_pos ⟨h1, h2⟩]; exact ⟨u, rfl⟩
theorem dueX_proto {xs : List Int} {y : Way} (h1 : ¬ (placeOf xs < 3 ∧ y.prep = false)) (h2 : lackOf xs = 1 ∨ lackOf xs = 2) (u : Tok) : AnsObj (dueX xs y) (W.listOf #[.str (Str.ofString "error_proto") u, .bool true] 0) := by
  rw [dueX, if_neg h1, if_pos h2]; exact ⟨u, rfl⟩
theorem dueX_due {xs : List Int} {y : Way} {inr : Str} {od : Obj} (h1 : ¬ (placeOf xs < 3 ∧ y.prep = false)) (h2 : ¬ (lackOf xs = 1 ∨ lackOf xs = 2)) (hin : innerOf xs y = inr) (hO : AnsObj (dueOf inr) od) : AnsObj (dueX xs y) od := by
  rw [dueX, if_neg h1, if_neg h2, hin]; exact hO
theorem news_fresh {h₀ h h' : Heap} {L a : Addr} {o : Obj} {m : Str → Option Value} {news : List (Addr × Obj)} (F : Fr h₀ L h m) (N : News h₀ L h' news) (ha : h'.get? a = some o) (hn : h.get? a = none) : News h₀ L h' ((a, o) :: news) := fun p hp => by
  rcases List.mem_cons.mp hp with rfl | hp
  · refine ⟨ha, fun e => ?_, ?_⟩
    · obtain ⟨oL, _, _, hL, _⟩ := F.ns
      have e' : a = L := e
      rw [e', hL] at hn; cases hn
    · cases q : h₀.get? a with
      | none => rfl
      | some o => rw [F.keep _ _ q] at hn; cases hn
  · exact N p hp
theorem hand_use {A A₀ : Around} {base h₀ : Heap} {outer : List Env} {env : Env} {L : Addr} {m : Str → Option Value} {news : List (Addr × Obj)} {s : Shared} {Q E : Value → Shared → Prop} {b : Bool} {x : Str} {t u : Tok} (hO : OKhand b x)
    (B : Below A₀ base outer h₀) (F : Fr h₀ L s.heap m) (N : News h₀ L s.heap news) (X : (K w.params).In h₀) (T : TopK mean mg mb h₀) (hf : env.frame = some L) (hk : env.scope.kind = .function)
    (h1 : A.handled = none) (h2 : A.depth ≤ 900 + 10 * 0) (h3 : A.frames = some (env :: outer)) (h4 : A.guards = some []) (h5 : A.units ≤ 1000 + 100 * 0)
    (h : ∀ u' h' tk', Fr h₀ L h' m → News h₀ L h' news → Q (.str (handOne b x) u') { s with heap := h', toks := tk' }) : wpAny (MM w) A (call (.ref 192) [.str (handV b) u, .str x t]) Q E s := by
  cases b
  · refine (prep_spec x t u hO.1 hO.2).use B F N X T hf hk trivial h1 h2 h3 h4 h5 ?_
    rintro v h' tk' F' N' st ⟨u', rfl⟩
    exact h u' h' tk' F' N'
  · refine (send_spec x t u hO.1 hO.2).use B F N X T hf hk trivial h1 h2 h3 h4 h5 ?_
    rintro v h' tk' F' N' st ⟨u', rfl⟩
    exact h u' h' tk' F' N'
local macro_rules | `(tactic| walk_at "call ref") => `(tactic| refine Hold.it ?_)
local macro_rules | `(tactic| walk_at "call ref") => `(tactic| (k_here; (with_reducible show wpAny _ _ (call (Value.ref 163) [Value.int _ _]) _ _ _); (rename Fr _ _ _ _ => lF'); (rename News _ _ _ _ => lN'); k_dflt ((refine' unseen_use ?B lF' lN' ?X ?T ?hf ?hk ?h1 ?h2 ?h3 ?h4 ?h5 ?_); (case h3 => rfl); (case B => assumption); (case X => assumption); (case T => assumption); (case hf => rfl); (case hk => rfl); (case h1 => rfl); (case h2 => exact Nat.le_of_ble_eq_true rfl); (case h4 => rfl); (case h5 => exact Nat.le_of_ble_eq_true rfl)); intro a' u1' u2' u3' h' tk' F' N'))
local macro_rules | `(tactic| walk_at "subscriptTail") => `(tactic| ((with_reducible show wpAny _ _ (subscriptTail (Expr.List _ _) (Expr.Slice _ _ none _) (Value.ref _) (Value.ref _)) _ _ _); refine Hold.it ?_))
local macro_rules | `(tactic| walk_at "eval ListComp") => `(tactic| ((with_reducible show wpAny _ _ (eval (Expr.ListComp (Expr.Name _ _) _ _ _) _) _ _ _); refine Hold.it ?_))
local macro_rules | `(tactic| walk_at "call builtin:str.join") => `(tactic| refine Hold.it ?_)
local macro_rules | `(tactic| walk_at "exec For Name Name cons nil") => `(tactic| refine Hold.it ?_)
local macro_rules | `(tactic| walk_at "binaryOp Add str str") => `(tactic| (k_dflt (refine add_str (fun t' tk' => ?_) (by rw [PySem.sizeLine_eq]; (try simp only [str_len_app]); omega))))
local macro_rules | `(tactic| walk_at "compareOp NotEq ref ref") => `(tactic| refine Hold.it ?_)
local macro_rules | `(tactic| walk_at "pyIter ref") => `(tactic| refine Hold.it ?_)
local macro_rules | `(tactic| walk_at "last subscriptTail") => `(tactic| ((with_reducible show wpAny _ _ (subscriptTail (Expr.List _ _) (Expr.Slice _ _ none _) (Value.ref _) (Value.ref _)) _ _ _); refine Hold.it ?_))
set_option maxHeartbeats 4000000 in
theorem law_walk (Lx : Addr) (vs : List Value) (xs : List Int) (hI : IntsAre vs xs) (hlen : xs.length ≤ 63) (s : Shared) (Q E : Value → Shared → Prop) (KX : (K w.params).In s.heap) (T : TopK mean mg mb s.heap) (hL : s.heap.IsList Lx vs.toArray)
    (B : Below callerA s.heap [] s.heap) (hP : ∀ y ∈ waysL, PlainW xs y) (hret : ∀ h' tk', s.heap.StaysIn h' → Q (.bool true) { s with heap := h', toks := tk' }) : wpC (MM w) callerA (call (.ref 197) [.ref Lx]) Q E s := by
  refine wpC_call ?_
  refine' enterC ?k1 ?k2 ?k6 ?k7 ?k8 ?k9 ?kB ?_ ?c2 ?c3 ?c4 ?c5
  case k1 => exact KX
  case k2 => exact T
  case k6 => k_is
  case k7 => k_is
  case k8 => exact Nat.le_of_ble_eq_true rfl
  case k9 => exact BindsTo.of_eq rfl
  case kB => exact locs rfl
  case c2 => rfl
  case c3 => rfl
  case c4 => rfl
  case c5 => decide
  intro h₁ F Nn
  dsimp only
  refine cutC 4 (fun s₁ => ∃ h tk a u1 u2 u3 D ys n t1 t2, s₁ = { s with heap := h, toks := tk } ∧ IntsAre ys (nsOf xs) ∧ News s.heap s.heap.objs.size h [(a, unTri ((totOf xs).fdiv 8) u1 u2 u3), (D, W.listOf ys.toArray n)] ∧
    Fr s.heap s.heap.objs.size h (fun y => if y = Str.ofString "extra" then some (.ref a) else if y = Str.ofString "place" then some (.int (placeOf xs) t1) else if y = Str.ofString "total" then some (.int (totOf xs) t2) else if y = Str.ofString "numbers" then some (.ref D) else List.lookup y [(Str.ofString "script", .ref Lx)])) ?_ ?_
  · intro Mq hMq
    simp only [List.take_succ_cons, List.take_zero]
    k_steps
    exact ⟨rfl, hMq _ ⟨_, _, _, _, _, _, _, _, _, _, _, rfl, by assumption, fun p hp => (by assumption : News _ _ _ [(_, unTri _ _ _ _), _, _]) p (by rcases List.mem_cons.mp hp with rfl | hp; exact .head _; rcases List.mem_cons.mp hp with rfl | hp; exact .tail _ (.head _); cases hp), by assumption⟩⟩
  simp only [List.drop_succ_cons, List.drop_zero]
  clear F Nn
  rintro s₁ ⟨h1, tk1, a, u1, u2, u3, D, ys, n, t1, t2, rfl, hY, N, F⟩
  refine cutC 1 (fun s₁ => ∃ h tk S us c ts t1 t2, s₁ = { s with heap := h, toks := tk } ∧ TT ts ∧ Tr ts us (sgTo (numsOf xs) 5) ∧ News s.heap s.heap.objs.size h ((S, W.listOf us.toArray c) :: (a, unTri ((totOf xs).fdiv 8) u1 u2 u3) :: ts) ∧
    Fr s.heap s.heap.objs.size h (fun y => if y = Str.ofString "signs" then some (.ref S) else if y = Str.ofString "extra" then some (.ref a) else if y = Str.ofString "place" then some (.int (placeOf xs) t1) else if y = Str.ofString "total" then some (.int (totOf xs) t2) else if y = Str.ofString "numbers" then some (.ref D) else List.lookup y [(Str.ofString "script", .ref Lx)])) ?_ ?_
  · intro Mq hMq
    simp only [List.take_succ_cons, List.take_zero]
    have hnl := nsOf_len xs
    have hyl := hY.length
    k_steps
    rename_i l1 h2 F2 N2 lt2
    refine ⟨kba_turn (value' := Expr.Name (Str.ofString "x") default) (fun _ => rfl) ?_⟩
    have hlit : IntsAre [Value.int 0 tk1, Value.int 34 (tk1 + 1), Value.int 5 (tk1 + 1 + 1), Value.int 688 (tk1 + 1 + 1 + 1), Value.int 0 (tk1 + 1 + 1 + 1 + 1)] [0, 34, 5, 688, 0] := by repeat constructor
    refine kmk_slice_ints F2 N2 (News.isList N2 (.head _)) (IsPart.int _ _) IsPart.none hlit (kmk_from hlit (by omega)) rfl ?_ (by with_unfolding_all rfl) (fun _ => rfl) (by exact Nat.le_of_ble_eq_true rfl)
    intro D3 ws h3 F3 N3 lt3 hW _ _
    k_steps
    rename_i D4 ws4 h4 F4 N4 hI4 lt4
    refine ⟨?_⟩
    refine' signs_use (ns := numsOf xs) ?B F4 N4 ?X ?T ?hf ?hk (.head _) hI4 (numsOf_len xs) ?h1 ?h2 ?h3 ?h4 ?h5 ?_
    case h3 => rfl
    case B => exact B
    case X => exact KX
    case T => exact T
    case hf => rfl
    case hk => rfl
    case h1 => rfl
    case h2 => exact Nat.le_of_ble_eq_true rfl
    case h4 => rfl
    case h5 => exact Nat.le_of_ble_eq_true rfl
    intro S us c ts h5 tk5 hT hTr F5 N5
    clear F4 N4
    k_steps
    refine ⟨rfl, hMq _ ⟨_, _, S, us, c, ts, _, _, rfl, hT, hTr, fun p hp => (by assumption : News _ _ _ ((S, _) :: _)) p ?_, by assumption⟩⟩
    rcases List.mem_cons.mp hp with rfl | hp
    · exact .head _
    rcases List.mem_cons.mp hp with rfl | hp
    · exact .tail _ (.tail _ (.tail _ (.tail _ (.head _))))
    · exact .tail _ (List.mem_append_right _ hp)
  simp only [List.drop_succ_cons, List.drop_zero]
  clear F N hY
  rintro s₁ ⟨h1, tk1, S, us, c, ts, t1, t2, rfl, hT, hTr, N, F⟩
  refine cutC 1 (fun s₁ => ∃ h tk t3, s₁ = { s with heap := h, toks := tk } ∧ News s.heap s.heap.objs.size h ((S, W.listOf us.toArray c) :: (a, unTri ((totOf xs).fdiv 8) u1 u2 u3) :: ts) ∧
    Fr s.heap s.heap.objs.size h (mB Lx D S a xs t1 t2 t3 none none none)) ?_ ?_
  · intro Mq hMq
    simp only [List.take_succ_cons, List.take_zero]
    k_steps
    exact ⟨rfl, hMq _ ⟨_, _, _, rfl, by assumption, mB_start .. ▸ (by assumption : Fr _ _ _ fun y => if y = Str.ofString "lack" then _ else _)⟩⟩
  simp only [List.drop_succ_cons, List.drop_zero]
  clear F N
  rintro s₁ ⟨h1, tk1, t3, rfl, N, F⟩
  refine cutC 1 (fun s₁ => ∃ h tk t4, s₁ = { s with heap := h, toks := tk } ∧ News s.heap s.heap.objs.size h ((S, W.listOf us.toArray c) :: (a, unTri ((totOf xs).fdiv 8) u1 u2 u3) :: ts) ∧
    Fr s.heap s.heap.objs.size h (mB Lx D S a xs t1 t2 t3 (some (.str (headOf (lackOf xs)) t4)) none none)) ?_ ?_
  · intro Mq hMq
    simp only [List.take_succ_cons, List.take_zero]
    k_steps
    · refine ⟨rfl, hMq _ ?_⟩
      rw [headOf, if_pos (by assumption)]
      exact ⟨_, _, _, rfl, by assumption, mB_head .. ▸ (by assumption : Fr _ _ _ fun y => if y = Str.ofString "head" then _ else _)⟩
    · refine ⟨rfl, hMq _ ?_⟩
      rw [headOf, if_neg (by assumption)]
      exact ⟨_, _, _, rfl, by assumption, mB_head .. ▸ (by assumption : Fr _ _ _ fun y => if y = Str.ofString "head" then _ else _)⟩
  simp only [List.drop_succ_cons, List.drop_zero]
  clear F N
  rintro s₁ ⟨h1, tk1, t4, rfl, N, F⟩
  refine cutC 1 (fun s₁ => ∃ h tk t5, s₁ = { s with heap := h, toks := tk } ∧ News s.heap s.heap.objs.size h ((S, W.listOf us.toArray c) :: (a, unTri ((totOf xs).fdiv 8) u1 u2 u3) :: ts) ∧
    Fr s.heap s.heap.objs.size h (mB Lx D S a xs t1 t2 t3 (some (.str (headOf (lackOf xs)) t4)) (some (.str (closeOf (lackOf xs)) t5)) none)) ?_ ?_
  · intro Mq hMq
    simp only [List.take_succ_cons, List.take_zero]
    k_steps
    · refine ⟨rfl, hMq _ ?_⟩
      rw [closeOf, if_pos (by assumption)]
      exact ⟨_, _, _, rfl, by assumption, mB_close .. ▸ (by assumption : Fr _ _ _ fun y => if y = Str.ofString "closing" then _ else _)⟩
    · refine ⟨rfl, hMq _ ?_⟩
      rw [closeOf, if_neg (by assumption), if_pos (by assumption)]
      exact ⟨_, _, _, rfl, by assumption, mB_close .. ▸ (by assumption : Fr _ _ _ fun y => if y = Str.ofString "closing" then _ else _)⟩
    · refine ⟨rfl, hMq _ ?_⟩
      rw [closeOf, if_neg (by assumption), if_neg (by assumption)]
      exact ⟨_, _, _, rfl, by assumption, mB_close .. ▸ (by assumption : Fr _ _ _ fun y => if y = Str.ofString "closing" then _ else _)⟩
  simp only [List.drop_succ_cons, List.drop_zero]
  clear F N
  rintro s₁ ⟨h1, tk1, t5, rfl, N, F⟩
  refine cutC 1 (fun s₁ => ∃ h tk t6, s₁ = { s with heap := h, toks := tk } ∧ News s.heap s.heap.objs.size h ((S, W.listOf us.toArray c) :: (a, unTri ((totOf xs).fdiv 8) u1 u2 u3) :: ts) ∧
    Fr s.heap s.heap.objs.size h (mB Lx D S a xs t1 t2 t3 (some (.str (headOf (lackOf xs)) t4)) (some (.str (closeOf (lackOf xs)) t5)) (some (.str (headOf (lackOf xs)) t6)))) ?_ ?_
  · intro Mq hMq
    simp only [List.take_succ_cons, List.take_zero]
    k_steps
    exact ⟨rfl, hMq _ ⟨_, _, _, rfl, by assumption, mB_spoil .. ▸ (by assumption : Fr _ _ _ fun y => if y = Str.ofString "spoiled" then _ else _)⟩⟩
  simp only [List.drop_succ_cons, List.drop_zero]
  clear F N
  rintro s₁ ⟨h1, tk1, t6, rfl, N, F⟩
  have hp0 : 0 ≤ placeOf xs ∧ placeOf xs < 8 := ⟨Int.fmod_nonneg_of_pos _ (by decide), Int.fmod_lt_of_pos _ (by decide)⟩
  have hhl := head_len (lackOf xs)
  have hul : us.length ≤ 45 := by rw [hTr.length]; exact sgTo_len _ 5
  refine cutC 1 (fun s₁ => ∃ h tk S us c ts t6, s₁ = { s with heap := h, toks := tk } ∧ TT ts ∧ Tr ts us (sgOf xs) ∧ News s.heap s.heap.objs.size h ((S, W.listOf us.toArray c) :: ts) ∧
    Fr s.heap s.heap.objs.size h (mB Lx D S a xs t1 t2 t3 (some (.str (headOf (lackOf xs)) t4)) (some (.str (closeOf (lackOf xs)) t5)) (some (.str (spOf xs) t6)))) ?_ ?_
  · intro Mq hMq
    simp only [List.take_succ_cons, List.take_zero]
    k_steps
    · refine ⟨rfl, hMq _ ?_⟩
      rw [sgOf, if_neg (by omega), if_neg (by omega), spOf, if_pos (by assumption)]
      exact ⟨_, _, S, us, c, ts, _, rfl, hT, hTr, fun p hp => (by assumption : News _ _ _ ((S, _) :: _ :: ts)) p (by rcases List.mem_cons.mp hp with rfl | hp; exact .head _; exact .tail _ (.tail _ hp)), mB_spoil .. ▸ (by assumption : Fr _ _ _ fun y => if y = Str.ofString "spoiled" then _ else _)⟩
    · refine ⟨rfl, hMq _ ?_⟩
      rw [sgOf, if_pos (by assumption), spOf, if_neg (by assumption)]
      exact ⟨_, _, _, [Value.ref a] ++ us, 0, (a, unTri ((totOf xs).fdiv 8) u1 u2 u3) :: ts, _, rfl, tt_cons hT, tr_ex hTr, fun p hp => (by assumption : News _ _ _ (_ :: _ :: (S, _) :: _ :: ts)) p (by rcases List.mem_cons.mp hp with rfl | hp; exact .head _; exact .tail _ (.tail _ (.tail _ hp))), mB_signs .. ▸ (by assumption : Fr _ _ _ fun y => if y = Str.ofString "signs" then _ else _)⟩
    · refine ⟨rfl, hMq _ ?_⟩
      rw [sgOf, if_neg (by assumption), if_pos (by assumption), spOf, if_neg (by assumption)]
      exact ⟨_, _, _, us ++ [Value.ref a], 0, (a, unTri ((totOf xs).fdiv 8) u1 u2 u3) :: ts, _, rfl, tt_cons hT, tr_xe hTr, fun p hp => (by assumption : News _ _ _ (_ :: _ :: (S, _) :: _ :: ts)) p (by rcases List.mem_cons.mp hp with rfl | hp; exact .head _; exact .tail _ (.tail _ (.tail _ hp))), mB_signs .. ▸ (by assumption : Fr _ _ _ fun y => if y = Str.ofString "signs" then _ else _)⟩
    · refine ⟨rfl, hMq _ ?_⟩
      rw [sgOf, if_neg (by assumption), if_neg (by assumption), spOf, if_neg (by assumption)]
      exact ⟨_, _, S, us, c, ts, _, rfl, hT, hTr, fun p hp => N p (by rcases List.mem_cons.mp hp with rfl | hp; exact .head _; exact .tail _ (.tail _ hp)), F⟩
  simp only [List.drop_succ_cons, List.drop_zero]
  clear F N hTr hT hul
  rintro s₁ ⟨h1, tk1, S, us, c, ts, t6, rfl, hT, hTr, N, F⟩
  refine @cutC (MM w) _ _ _ _ _ _ 1 (fun s₁ => ∃ h tk Wl wvs n led, s₁ = { s with heap := h, toks := tk } ∧ WaysAt led wvs waysL ∧ News s.heap s.heap.objs.size h ((Wl, W.listOf wvs.toArray n) :: (S, W.listOf us.toArray c) :: (led ++ ts)) ∧
    Fr s.heap s.heap.objs.size h (fun y => if y = Str.ofString "ways" then some (.ref Wl) else mB Lx D S a xs t1 t2 t3 (some (.str (headOf (lackOf xs)) t4)) (some (.str (closeOf (lackOf xs)) t5)) (some (.str (spOf xs) t6)) y)) ?_ ?_
  · intro Mq hMq
    simp only [List.take_succ_cons, List.take_zero]
    k_steps
    exact ⟨rfl, hMq _ ⟨_, _, _, [_, _, _, _, _], 0, [_, _, _, _, _, _, _, _, _, _], rfl, .cons ⟨_, _, _, _, rfl, .tail _ (.tail _ (.tail _ (.tail _ (.tail _ (.tail _ (.tail _ (.tail _ (.head _)))))))), .tail _ (.tail _ (.tail _ (.tail _ (.tail _ (.tail _ (.tail _ (.tail _ (.tail _ (.head _))))))))), .nil⟩ (.cons ⟨_, _, _, _, rfl, .tail _ (.tail _ (.tail _ (.tail _ (.tail _ (.tail _ (.head _)))))), .tail _ (.tail _ (.tail _ (.tail _ (.tail _ (.tail _ (.tail _ (.head _))))))), .cons (b := false) .nil⟩ (.cons ⟨_, _, _, _, rfl, .tail _ (.tail _ (.tail _ (.tail _ (.head _)))), .tail _ (.tail _ (.tail _ (.tail _ (.tail _ (.head _))))), .cons (b := true) .nil⟩ (.cons ⟨_, _, _, _, rfl, .tail _ (.tail _ (.head _)), .tail _ (.tail _ (.tail _ (.head _))), .cons (b := true) (.cons (b := false) .nil)⟩ (.cons ⟨_, _, _, _, rfl, .head _, .tail _ (.head _), .cons (b := false) (.cons (b := true) .nil)⟩ (.nil))))), news_mv (led := [_, _, _, _, _, _, _, _, _, _]) (by assumption), by assumption⟩⟩
  simp only [List.drop_succ_cons, List.drop_zero]
  clear F N
  rintro s₁ ⟨h1, tk1, Wl, wvs, n1, led, rfl, hW, N, F⟩
  have F : Fr s.heap s.heap.objs.size h1 (fun y => if y = Str.ofString "ways" then some (.ref Wl) else mZ Lx D S a xs t1 t2 t3 t4 t5 t6 y) := F
  refine wpC_execs_cons (For_C ?_)
  k_steps
  have hwl : wvs.length = 5 := ways_len hW
  have hsp : (spOf xs).length ≤ 20 := sp_len xs
  have hcl := close_len (lackOf xs)
  have hul : us.length ≤ 46 := by rw [hTr.length]; exact sgOf_len xs
  refine ⟨wpAny_pyIter_list (News.isList N (.head _)) ?_⟩
  refine loopC (h₀ := s.heap) (LED := (Wl, W.listOf wvs.toArray n1) :: (S, W.listOf us.toArray c) :: (led ++ ts)) (fun _ m => ∃ hs se sn pr tx hd inn du, m = mW Wl (mZ Lx D S a xs t1 t2 t3 t4 t5 t6) hs se sn pr tx hd inn du) rfl (.head _) (fun p hp => Nat.ne_of_lt (Heap.lt_size (N p hp).1)) ?_ ?_ 5 0 (by rw [hwl]) _ _ _ _
    ⟨_, _, _, _, _, _, _, _, mW_start _ _ (mZ_none Lx D S a xs t1 t2 t3 t4 t5 t6)⟩ (F.push _) (N.push F _) ⟨_, Heap.get?_push_size _ rfl, rfl, rfl⟩
  · rintro i v m h tk oI hv ⟨hs, se, sn, pr, tx, hd, inn, du, rfl⟩ F N
    generalize h1.objs.size = I at N ⊢
    obtain ⟨y, hy, a', g, n2, hv2, rfl, hta, hga, hH⟩ := waysAt_get hW hv
    have P := hP y (List.mem_of_getElem? hy)
    refine unpackN_ F N ⟨_, (N _ (.tail _ (.tail _ (.tail _ (List.mem_append_left _ hta))))).1, rfl, _, rfl⟩ rfl rfl rfl ?_
    clear F N
    intro h' F N
    refine wpAny_mono (Q := fun _ s₂ => Done (TAt s.heap s.heap.objs.size ((I, oI) :: (Wl, W.listOf wvs.toArray n1) :: (S, W.listOf us.toArray c) :: (led ++ ts)) (mW Wl (mZ Lx D S a xs t1 t2 t3 t4 t5 t6) (some (.ref g)) (some (.bool y.sent)) (some (.bool y.seen)) (some (.bool y.prep)) tx hd inn du) s s₂)) ?_ ?_ (fun _ _ e => e)
    · k_steps
      exact ⟨⟨_, _, rfl, mW_target .. ▸ (by assumption : Fr _ _ _ fun y => if y = Str.ofString "prepared" then _ else _), by assumption⟩⟩
    clear F N
    rintro _ s₁ ⟨⟨h2, tk2, rfl, F, N⟩⟩
    refine open_postC fun Q2 hQ2 => ?_
    refine @cutC (MM w) _ _ _ _ _ _ 1 (fun s₁ => ∃ u, TAt s.heap s.heap.objs.size ((I, oI) :: (Wl, W.listOf wvs.toArray n1) :: (S, W.listOf us.toArray c) :: (led ++ ts)) (mW Wl (mZ Lx D S a xs t1 t2 t3 t4 t5 t6) (some (.ref g)) (some (.bool y.sent)) (some (.bool y.seen)) (some (.bool y.prep)) (some (.str (text0 xs) u)) hd inn du) s s₁) ?_ ?_
    · intro Mq hMq
      simp only [List.take_succ_cons, List.take_zero]
      k_steps
      refine ⟨?_⟩
      refine ListComp_J (l := S) (us := us) (ts := ts) (xs := sgOf xs) rfl (by decide) rfl (by decide) rfl rfl rfl (by decide) (by decide) ?_
      k_steps
      refine ⟨rfl, rfl, News.isList N (.tail _ (.tail _ (.head _))), hTr, fun p hp => (N p (.tail _ (.tail _ (.tail _ (List.mem_append_right _ hp))))).1, by omega, fun D9 h9 tk9 l9 hD9 hl9 hmap9 hk9 => ?_⟩
      have F9 := F.keeps hk9
      have N9 := N.grown hk9
      k_steps
      have hjl : (Txt.join (Str.ofString "") ((sgOf xs).map (·.s))).length ≤ 3 * 46 := Nat.le_trans (join_len _ 3 fun z hz => by
        obtain ⟨x, hx, rfl⟩ := List.mem_map.mp hz
        exact (sgOf_small xs x hx).1) (by rw [List.length_map]; have := sgOf_len xs; omega)
      refine ⟨SC.join (l := l9) hl9 hmap9 ?_ fun t' k => ?_⟩
      · unfold JoinOk
        rw [StrLaws.joinFits (B := 3)]
        · rfl
        · intro z hz
          obtain ⟨x, hx, rfl⟩ := List.mem_map.mp hz
          exact (sgOf_small xs x hx).1
        · have e0 : (Str.ofString "").length = 0 := by decide
          have := sgOf_len xs
          rw [List.length_map, e0]
          omega
      clear F N hl9 hk9 hD9
      k_steps
      exact ⟨rfl, hMq _ ⟨_, ⟨_, _, rfl, mW_text .. ▸ (by assumption : Fr _ _ _ fun y => if y = Str.ofString "text" then _ else _), by assumption⟩⟩⟩
    simp only [List.drop_succ_cons, List.drop_zero]
    clear F N
    rintro s₁ ⟨u, ⟨h2, tk2, rfl, F, N⟩⟩
    refine @cutC (MM w) _ _ _ _ _ _ 1 (fun s₁ => ∃ u hd, TAt s.heap s.heap.objs.size ((I, oI) :: (Wl, W.listOf wvs.toArray n1) :: (S, W.listOf us.toArray c) :: (led ++ ts)) (mW Wl (mZ Lx D S a xs t1 t2 t3 t4 t5 t6) (some (.ref g)) (some (.bool y.sent)) (some (.bool y.seen)) (some (.bool y.prep)) (some (.str (handTo y.hands (text0 xs)) u)) hd inn du) s s₁) ?_ ?_
    · intro Mq hMq
      simp only [List.take_succ_cons, List.take_zero]
      k_steps
      refine ⟨?_⟩
      refine For_turns (by assumption) ?_
      k_steps
      refine ⟨for_listN (l := g) (vs := hv2) (n := n2) (fun i m => ∃ u hd, m = mW Wl (mZ Lx D S a xs t1 t2 t3 t4 t5 t6) (some (.ref g)) (some (.bool y.sent)) (some (.bool y.seen)) (some (.bool y.prep)) (some (.str (handTo (y.hands.take i) (text0 xs)) u)) hd inn du) rfl F N (.tail _ (.tail _ (.tail _ (List.mem_append_left _ hga)))) ⟨_, _, rfl⟩ ?_ ?_⟩
      · rintro I2 i2 v2 m2 h3 tk3 oI2 hvv ⟨u, hd, rfl⟩ F N _
        obtain ⟨b, ub, hb, rfl⟩ := hands_get hH hvv
        have hO := P.hands i2 b hb
        have hsuc := handTo_succ (x := text0 xs) hb
        k_steps
        rename_i hA FA NA
        refine ⟨?_⟩
        refine hand_use hO B FA NA KX T rfl rfl rfl (Nat.le_of_ble_eq_true rfl) rfl rfl (Nat.le_of_ble_eq_true rfl) fun u' h' tk' F' N' => ?_
        clear FA NA F N
        rw [← hsuc]
        k_steps
        exact ⟨rfl, _, _, _, rfl, by assumption, by assumption, _, _, mW_th ..⟩
      · rintro m2 h3 tk3 ⟨u, hd, rfl⟩ F N
        rw [hands_len hH, List.take_length] at F
        k_steps
        exact ⟨rfl, hMq _ ⟨_, _, ⟨_, _, rfl, F, N⟩⟩⟩
    simp only [List.drop_succ_cons, List.drop_zero]
    clear F N
    rintro s₁ ⟨u, hd, ⟨h2, tk2, rfl, F, N⟩⟩
    refine @cutC (MM w) _ _ _ _ _ _ 1 (fun s₁ => ∃ u ui, TAt s.heap s.heap.objs.size ((I, oI) :: (Wl, W.listOf wvs.toArray n1) :: (S, W.listOf us.toArray c) :: (led ++ ts)) (mW Wl (mZ Lx D S a xs t1 t2 t3 t4 t5 t6) (some (.ref g)) (some (.bool y.sent)) (some (.bool y.seen)) (some (.bool y.prep)) (some (.str (handTo y.hands (text0 xs)) u)) hd (some (.str (innerOf xs y) ui)) du) s s₁) ?_ ?_
    · intro Mq hMq
      simp only [List.take_succ_cons, List.take_zero]
      k_steps
      refine ⟨?_⟩
      refine' (told_spec S us c ts (sgOf xs) hTr (Nat.le_trans (sgOf_len xs) (by decide)) (sgOf_small xs) y.sent y.seen y.prep).use B F N KX T ?hf ?hk (fun p hp => (N p (by rcases List.mem_cons.mp hp with rfl | hp; exact .tail _ (.tail _ (.head _)); exact .tail _ (.tail _ (.tail _ (List.mem_append_right _ hp))))).1) ?h1 ?h2 ?h3 ?h4 ?h5 ?_
      case h3 => rfl
      case hf => rfl
      case hk => rfl
      case h1 => rfl
      case h2 => exact Nat.le_of_ble_eq_true rfl
      case h4 => rfl
      case h5 => exact Nat.le_of_ble_eq_true rfl
      rintro v' h' tk' F' N' st ⟨ui, rfl⟩
      clear F N
      k_steps
      exact ⟨rfl, hMq _ ⟨_, _, ⟨_, _, rfl, mW_inner .. ▸ (by assumption : Fr _ _ _ fun y => if y = Str.ofString "inner" then _ else _), by assumption⟩⟩⟩
    simp only [List.drop_succ_cons, List.drop_zero]
    clear F N
    rintro s₁ ⟨u, ui, ⟨h2, tk2, rfl, F, N⟩⟩
    generalize htx : handTo y.hands (text0 xs) = tx at F
    have hsame := P.same
    rw [htx] at hsame
    have hil := P.inner.1
    generalize hin : innerOf xs y = inr at F hsame hil
    refine @cutC (MM w) _ _ _ _ _ _ 1 (fun s₁ => TAt s.heap s.heap.objs.size ((I, oI) :: (Wl, W.listOf wvs.toArray n1) :: (S, W.listOf us.toArray c) :: (led ++ ts)) (mW Wl (mZ Lx D S a xs t1 t2 t3 t4 t5 t6) (some (.ref g)) (some (.bool y.sent)) (some (.bool y.seen)) (some (.bool y.prep)) (some (.str tx u)) hd (some (.str inr ui)) du) s s₁) ?_ ?_
    · intro Mq hMq
      simp only [List.take_succ_cons, List.take_zero]
      have hhl := head_len (lackOf xs)
      k_steps
      · exfalso; rename_i hx; rw [hsame, if_pos (by assumption)] at hx; simp at hx
      · exact ⟨rfl, hMq _ ⟨_, _, rfl, F, N⟩⟩
      · exfalso; rename_i hx; rw [hsame, if_neg (by simp [*])] at hx; simp at hx
      · exact ⟨rfl, hMq _ ⟨_, _, rfl, F, N⟩⟩
    simp only [List.drop_succ_cons, List.drop_zero]
    clear F N
    rintro s₁ ⟨h2, tk2, rfl, F, N⟩
    refine @cutC (MM w) _ _ _ _ _ _ 1 (fun s₁ => ∃ ad od, AnsObj (dueOf inr) od ∧ TAt s.heap s.heap.objs.size ((ad, od) :: (I, oI) :: (Wl, W.listOf wvs.toArray n1) :: (S, W.listOf us.toArray c) :: (led ++ ts)) (mW Wl (mZ Lx D S a xs t1 t2 t3 t4 t5 t6) (some (.ref g)) (some (.bool y.sent)) (some (.bool y.seen)) (some (.bool y.prep)) (some (.str tx u)) hd (some (.str inr ui)) (some (.ref ad))) s s₁) ?_ ?_
    · intro Mq hMq
      simp only [List.take_succ_cons, List.take_zero]
      k_steps
      refine ⟨?_⟩
      refine' (due_spec inr ui hil (hin ▸ P.inner.2)).use B F N KX T ?hf ?hk trivial ?h1 ?h2 ?h3 ?h4 ?h5 ?_
      case h3 => rfl
      case hf => rfl
      case hk => rfl
      case h1 => rfl
      case h2 => exact Nat.le_of_ble_eq_true rfl
      case h4 => rfl
      case h5 => exact Nat.le_of_ble_eq_true rfl
      rintro v' h' tk' F' N' st ⟨hA, hNew⟩
      obtain ⟨ad, od, rfl, hg, hO⟩ := ans_obj hA
      have N2 : News s.heap s.heap.objs.size h' ((ad, od) :: (I, oI) :: (Wl, W.listOf wvs.toArray n1) :: (S, W.listOf us.toArray c) :: (led ++ ts)) := news_fresh F N' hg (hNew _ rfl)
      clear F N N'
      k_steps
      exact ⟨rfl, hMq _ ⟨_, _, hO, ⟨_, _, rfl, mW_due .. ▸ (by assumption : Fr _ _ _ fun y => if y = Str.ofString "due" then _ else _), by assumption⟩⟩⟩
    simp only [List.drop_succ_cons, List.drop_zero]
    clear F N
    rintro s₁ ⟨ad, od, hO, ⟨h2, tk2, rfl, F, N⟩⟩
    refine @cutC (MM w) _ _ _ _ _ _ 1 (fun s₁ => ∃ ad od, AnsObj (dueX xs y) od ∧ TAt s.heap s.heap.objs.size ((ad, od) :: (I, oI) :: (Wl, W.listOf wvs.toArray n1) :: (S, W.listOf us.toArray c) :: (led ++ ts)) (mW Wl (mZ Lx D S a xs t1 t2 t3 t4 t5 t6) (some (.ref g)) (some (.bool y.sent)) (some (.bool y.seen)) (some (.bool y.prep)) (some (.str tx u)) hd (some (.str inr ui)) (some (.ref ad))) s s₁) ?_ ?_
    · intro Mq hMq
      simp only [List.take_succ_cons, List.take_zero]
      k_steps
      · exact ⟨rfl, hMq _ ⟨_, _, dueX_proto (by simp [*]) (by simp [*]) _, ⟨_, _, rfl, mW_due .. ▸ (by assumption : Fr _ _ _ fun y => if y = Str.ofString "due" then _ else _), fun p hp => (by assumption : News _ _ _ (_ :: (ad, od) :: _)) p (drop2 hp)⟩⟩⟩
      · exact ⟨rfl, hMq _ ⟨_, _, dueX_proto (by simp [*]) (by simp [*]) _, ⟨_, _, rfl, mW_due .. ▸ (by assumption : Fr _ _ _ fun y => if y = Str.ofString "due" then _ else _), fun p hp => (by assumption : News _ _ _ (_ :: (ad, od) :: _)) p (drop2 hp)⟩⟩⟩
      · exact ⟨rfl, hMq _ ⟨_, _, dueX_due (by simp [*]) (by simp [*]) hin hO, ⟨_, _, rfl, F, N⟩⟩⟩
      · exact ⟨rfl, hMq _ ⟨_, _, dueX_reply (by assumption) (by assumption) _, ⟨_, _, rfl, mW_due .. ▸ (by assumption : Fr _ _ _ fun y => if y = Str.ofString "due" then _ else _), fun p hp => (by assumption : News _ _ _ (_ :: (ad, od) :: _)) p (drop2 hp)⟩⟩⟩
      · exact ⟨rfl, hMq _ ⟨_, _, dueX_proto (by simp [*]) (by simp [*]) _, ⟨_, _, rfl, mW_due .. ▸ (by assumption : Fr _ _ _ fun y => if y = Str.ofString "due" then _ else _), fun p hp => (by assumption : News _ _ _ (_ :: (ad, od) :: _)) p (drop2 hp)⟩⟩⟩
      · exact ⟨rfl, hMq _ ⟨_, _, dueX_proto (by simp [*]) (by simp [*]) _, ⟨_, _, rfl, mW_due .. ▸ (by assumption : Fr _ _ _ fun y => if y = Str.ofString "due" then _ else _), fun p hp => (by assumption : News _ _ _ (_ :: (ad, od) :: _)) p (drop2 hp)⟩⟩⟩
      · exact ⟨rfl, hMq _ ⟨_, _, dueX_due (by simp [*]) (by simp [*]) hin hO, ⟨_, _, rfl, F, N⟩⟩⟩
    simp only [List.drop_succ_cons, List.drop_zero]
    clear F N hO
    rintro s₁ ⟨ad, od, hO, ⟨h2, tk2, rfl, F, N⟩⟩
    refine wpC_execs_cons (If_C (isTrue_Compare1C (Call_NameC ?_)))
    k_steps
    refine callWithK rfl rfl ?_
    k_steps
    have Pt := P.text
    have Pa := P.ans
    rw [htx] at Pt Pa
    refine' weakenC (asked_spec tx u Pt.1 Pt.2 s.heap [?env] _ _ _ ?hB KX T ?hD ?hk) ?w1 ?w2 ?w3 ?w4 ?w5
    case w3 => rfl
    case w1 => rfl
    case w2 => exact Nat.le_of_ble_eq_true rfl
    case w4 => rfl
    case w5 => exact Nat.le_of_ble_eq_true rfl
    case hB => exact ⟨rfl, F.keep, (pushX B F (by rfl) (by rfl)).frames⟩
    case hD =>
      intro b hb
      obtain ⟨oL, es, ep, hL, hd, _⟩ := F.ns
      have e : b = s.heap.objs.size := List.mem_singleton.mp hb
      exact ⟨oL, es, ep, e ▸ hL, hd⟩
    intro v' h' tk' k st hA
    have F2 := kept_fr F k
    have N2 := kept_news N k
    obtain ⟨av, ov, rfl, gv, hOv⟩ := ans_obj hA
    rw [Pa] at hOv
    obtain ⟨as1, r1⟩ := ans_reads gv hOv
    obtain ⟨as2, r2⟩ := ans_reads (N2 _ (.head _)).1 hO
    clear F N
    k_steps
    refine ⟨PySem.SeqAt.compareNe_reads r1 r2 (ans_lay _) (ans_lay _) ?_ ?_⟩
    · exact Nat.lt_of_le_of_lt (Nat.add_le_add_left (Nat.le_trans (Nat.min_le_right _ _) (ans_depth _)) _) (Nat.le_of_ble_eq_true rfl)
    rw [ans_eqv]
    k_steps
    refine wpAny_pure (a := Flow.next) ?_
    refine wpC_pure (a := Flow.next) ?_
    exact hQ2 _ _ ⟨rfl, _, _, _, rfl, F2, fun p hp => N2 p (.tail _ hp), _, _, _, _, _, _, _, _, rfl⟩
  · rintro m h tk ⟨hs, se, sn, pr, tx, hd, inn, du, rfl⟩ F N
    show wpC _ _ _ _ _ _
    refine toC ?_
    k_steps
    exact hret _ _ (Fr.keep (by assumption))
end
end Mine
end
section
open PySem PySem.W PySem.Calls PyProof.Rows
namespace Mine
/-! substitution on lists of signs -/
noncomputable def flat (l : List Str) : List Nat := l.flatMap (·.cps.toList)
theorem str_app_list (x y : Str) : (x ++ y).cps.toList = x.cps.toList ++ y.cps.toList := by
  show (x.cps ++ y.cps).toList = _
  rw [Array.toList_append]
theorem join_flat : ∀ l : List Str, (Str.join ⟨#[]⟩ l).cps.toList = flat l
  | [] => rfl
  | [x] => by simp [Str.join, flat]
  | x :: y :: r => by
    have ih := join_flat (y :: r)
    show (x ++ (⟨#[]⟩ : Str) ++ Str.join ⟨#[]⟩ (y :: r)).cps.toList = _
    rw [str_app_list, str_app_list, ih]
    simp [flat]
theorem cat_flat (l : List Str) : (cat l).cps.toList = flat l := by
  unfold cat
  rw [join_same]
  exact join_flat l
theorem flat_none (t : Array Nat) (s : Nat) (h : s ≤ t.size) : flat (if s < t.size then [⟨t.extract s t.size⟩] else []) = t.toList.drop s := by
  split
  · simp [flat, Array.toList_extract, List.extract]
    exact List.take_of_length_le (by simp)
  · have : s = t.size := by omega
    simp [flat, this]
theorem flat_some (t : Array Nat) (s s' : Nat) (r : Str) (P : List Str) : flat ((if s < s' then [⟨t.extract s s'⟩] else []) ++ r :: P) = (t.toList.drop s).take (s' - s) ++ r.cps.toList ++ flat P := by
  split
  · simp [flat, Array.toList_extract, List.extract]
  · have : s' - s = 0 := by omega
    simp [flat, this]
theorem flat_pieces {nx : Array Nat → Nat → Option (Nat × Nat)} {r : Str} {t : Array Nat} (hit : Nat → Option Nat) (G : Nat → List Nat) (h0 : nx t t.size = none)
    (h1 : ∀ s, s < t.size → nx t s = match hit s with | some k => some (s, k) | none => nx t (s + 1)) (hk : ∀ s k, s < t.size → hit s = some k → 0 < k ∧ s + k ≤ t.size)
    (g0 : G t.size = []) (g1 : ∀ s k, s < t.size → hit s = some k → G s = r.cps.toList ++ G (s + k)) (g2 : ∀ s, s < t.size → hit s = none → G s = t.getD s 0 :: G (s + 1)) :
    ∀ f s, s ≤ t.size → t.size < f + s → flat (pieces nx r t f s) = G s := by
  have lies : ∀ d s, s + d = t.size → match nx t s with
      | some (s', k) => s ≤ s' ∧ s' < t.size ∧ hit s' = some k ∧ G s = (t.toList.drop s).take (s' - s) ++ r.cps.toList ++ G (s' + k)
      | none => G s = t.toList.drop s := by
    intro d
    induction d with
    | zero =>
      intro s hd
      have e : s = t.size := by omega
      subst e
      rw [h0]
      simp [g0]
    | succ d ih =>
      intro s hd
      have hs : s < t.size := by omega
      have hdrop : t.toList.drop s = t.getD s 0 :: t.toList.drop (s + 1) := by
        rw [List.drop_eq_getElem_cons (by simpa using hs)]
        congr 1
        simp [Array.getD, hs]
      rw [h1 s hs]
      cases e : hit s with
      | some k =>
        dsimp only
        refine ⟨Nat.le_refl _, hs, e, ?_⟩
        rw [g1 s k hs e, Nat.sub_self, List.take_zero, List.nil_append]
      | none =>
        have ih := ih (s + 1) (by omega)
        dsimp only
        cases e2 : nx t (s + 1) with
        | none =>
          rw [e2] at ih
          dsimp only at ih ⊢
          rw [g2 s hs e, ih, hdrop]
        | some p =>
          obtain ⟨s', k⟩ := p
          rw [e2] at ih
          dsimp only at ih ⊢
          obtain ⟨i1, i2, i3, i4⟩ := ih
          refine ⟨by omega, i2, i3, ?_⟩
          rw [g2 s hs e, i4, hdrop, show s' - s = (s' - (s + 1)) + 1 by omega, List.take_succ_cons]
          rfl
  intro f
  induction f with
  | zero => intro s h1 h2; omega
  | succ f ih =>
    intro s hs hf
    rw [pieces]
    have l := lies (t.size - s) s (by omega)
    cases e : nx t s with
    | none =>
      rw [e] at l
      dsimp only at l ⊢
      rw [flat_none t s hs, l]
    | some p =>
      obtain ⟨s', k⟩ := p
      rw [e] at l
      dsimp only at l ⊢
      obtain ⟨i1, i2, i3, i4⟩ := l
      have hh := hk s' k i2 i3
      rw [flat_some, i4, ih (s' + k) hh.2 (by omega)]
/-! the two patterns -/
noncomputable def endsL : List Nat → List Nat
  | [] => []
  | 13 :: 10 :: r => 13 :: 10 :: endsL r
  | 13 :: r => 13 :: 10 :: endsL r
  | 10 :: r => 13 :: 10 :: endsL r
  | c :: r => c :: endsL r
noncomputable def dotsL : Bool → List Nat → List Nat
  | _, [] => []
  | b, c :: r => if c = 46 ∧ b = true then 46 :: 46 :: dotsL false r else c :: dotsL (c == 10) r
theorem drop_cons (t : Array Nat) (s : Nat) (hs : s < t.size) : t.toList.drop s = t.getD s 0 :: t.toList.drop (s + 1) := by
  rw [List.drop_eq_getElem_cons (by simpa using hs)]
  congr 1
  simp [Array.getD, hs]
theorem dots_list (x : Str) : (dots x).cps.toList = dotsL true x.cps.toList := by
  unfold dots subst
  rw [cat_flat]
  have h := flat_pieces (nx := dotNx) (r := ⟨#[46, 46]⟩) (t := x.cps) (fun s => if isHit x.cps s then some 1 else none) (fun s => dotsL (s == 0 || x.cps.getD (s - 1) 0 == 10) (x.cps.toList.drop s)) ?_ ?_ ?_ ?_ ?_ ?_ (x.cps.size + 1) 0 (Nat.zero_le _) (by omega)
  · simpa using h
  · unfold dotNx
    rw [Nat.sub_self]
    rfl
  · intro s hs
    unfold dotNx
    rw [show x.cps.size - s = (x.cps.size - (s + 1)) + 1 by omega, nextHit]
    cases isHit x.cps s <;> rfl
  · intro s k hs h
    by_cases hh : isHit x.cps s = true
    · rw [if_pos hh] at h
      injection h with h; omega
    · rw [if_neg hh] at h; cases h
  · rw [List.drop_of_length_le (by simp), dotsL]
  · intro s k hs h
    by_cases hh : isHit x.cps s = true
    · rw [if_pos hh] at h
      injection h with h
      subst h
      unfold isHit at hh
      simp only [Bool.and_eq_true, decide_eq_true_eq] at hh
      obtain ⟨⟨h1, _⟩, h2⟩ := hh
      have e46 : x.cps.getD s 0 = 46 := by simpa using h2
      rw [drop_cons x.cps s hs, dotsL, if_pos ⟨e46, h1⟩, show s + 1 - 1 = s by omega, e46]
      rfl
    · rw [if_neg hh] at h; cases h
  · intro s hs h
    by_cases hh : isHit x.cps s = true
    · rw [if_pos hh] at h; cases h
    · rw [drop_cons x.cps s hs, dotsL, if_neg, show s + 1 - 1 = s by omega]
      · simp
      · rintro ⟨e46, h1⟩
        apply hh
        unfold isHit
        simp only [Bool.and_eq_true, decide_eq_true_eq]
        exact ⟨⟨h1, hs⟩, by rw [e46]; rfl⟩
theorem endsL_1310 (r : List Nat) : endsL (13 :: 10 :: r) = 13 :: 10 :: endsL r := by rw [endsL]
theorem endsL_13 (r : List Nat) (h : r.head? ≠ some 10) : endsL (13 :: r) = 13 :: 10 :: endsL r := by
  cases r with
  | nil => rfl
  | cons c r =>
    have hc : c ≠ 10 := by simpa using h
    rw [endsL]
    rintro r' e
    injection e with e1 _
    exact hc e1
theorem endsL_10 (r : List Nat) : endsL (10 :: r) = 13 :: 10 :: endsL r := by rw [endsL]
theorem endsL_c (c : Nat) (r : List Nat) (h1 : c ≠ 13) (h2 : c ≠ 10) : endsL (c :: r) = c :: endsL r := by
  rw [endsL] <;> simp_all
theorem endLen_cases (t : Array Nat) (s : Nat) : (endLen t s = 2 ∧ t.getD s 0 = 13 ∧ s + 1 < t.size ∧ t.getD (s + 1) 0 = 10) ∨ (endLen t s = 1 ∧ ¬ (t.getD s 0 = 13 ∧ s + 1 < t.size ∧ t.getD (s + 1) 0 = 10)) := by
  unfold endLen
  by_cases h : (t.getD s 0 == 13 && decide (s + 1 < t.size) && t.getD (s + 1) 0 == 10) = true
  · left
    rw [if_pos h]
    simp only [Bool.and_eq_true, decide_eq_true_eq, beq_iff_eq] at h
    exact ⟨rfl, h.1.1, h.1.2, h.2⟩
  · right
    rw [if_neg h]
    refine ⟨rfl, fun g => h ?_⟩
    simp only [Bool.and_eq_true, decide_eq_true_eq, beq_iff_eq]
    exact ⟨⟨g.1, g.2.1⟩, g.2.2⟩
theorem ends_list (x : Str) : (ends x).cps.toList = endsL x.cps.toList := by
  unfold ends subst
  rw [cat_flat]
  have h := flat_pieces (nx := endNx) (r := ⟨#[13, 10]⟩) (t := x.cps) (fun s => if isEnd (x.cps.getD s 0) then some (endLen x.cps s) else none) (fun s => endsL (x.cps.toList.drop s)) ?_ ?_ ?_ ?_ ?_ ?_ (x.cps.size + 1) 0 (Nat.zero_le _) (by omega)
  · simpa using h
  · unfold endNx
    rw [show x.cps.size + 1 - x.cps.size = 0 + 1 by omega, nextEnd, if_pos (Nat.le_refl _)]
    rfl
  · intro s hs
    unfold endNx
    rw [show x.cps.size + 1 - s = (x.cps.size + 1 - (s + 1)) + 1 by omega, nextEnd, if_neg (by omega)]
    cases isEnd (x.cps.getD s 0) <;> rfl
  · intro s k hs h
    by_cases he : isEnd (x.cps.getD s 0) = true
    · rw [if_pos he] at h
      injection h with h
      subst h
      rcases endLen_cases x.cps s with g | g
      · rw [g.1]; omega
      · rw [g.1]; omega
    · rw [if_neg he] at h; cases h
  · rw [List.drop_of_length_le (by simp), endsL]
  · intro s k hs h
    by_cases hh : isEnd (x.cps.getD s 0) = true
    · rw [if_pos hh] at h
      injection h with h
      subst h
      unfold isEnd at hh
      rw [drop_cons x.cps s hs]
      rcases endLen_cases x.cps s with g | g
      · rw [g.1, drop_cons x.cps (s + 1) g.2.2.1, g.2.1, g.2.2.2, endsL_1310]
        rfl
      · rw [g.1]
        simp only [Bool.or_eq_true, beq_iff_eq] at hh
        rcases hh with e | e
        · rw [e, endsL_10]; rfl
        · rw [e, endsL_13]
          · rfl
          · intro hd
            apply g.2
            have h3 : s + 1 < x.cps.size := by
              obtain ⟨r, hr⟩ := List.head?_eq_some_iff.mp hd
              have hl := congrArg List.length hr
              simp at hl
              omega
            refine ⟨e, h3, ?_⟩
            rw [drop_cons x.cps (s + 1) h3] at hd
            exact Option.some.inj hd
    · rw [if_neg hh] at h; cases h
  · intro s hs h
    by_cases hh : isEnd (x.cps.getD s 0) = true
    · rw [if_pos hh] at h; cases h
    · unfold isEnd at hh
      simp only [Bool.or_eq_true, beq_iff_eq, not_or] at hh
      rw [drop_cons x.cps s hs, endsL_c _ _ hh.2 hh.1]
end Mine
end
section
open PySem PySem.W PySem.Calls PyProof.Rows
namespace Mine
/-! both patterns as one machine -/
noncomputable abbrev St : Type := Option Bool
noncomputable abbrev St.N : St := none
noncomputable abbrev St.R : St := some true
noncomputable abbrev St.F : St := some false
noncomputable def snd : St → List Nat → List Nat
  | _, [] => []
  | st, c :: r => if c = 13 then 13 :: 10 :: snd .R r else if c = 10 then (if st = .R then snd .F r else 13 :: 10 :: snd .F r) else if c = 46 ∧ st ≠ .N then 46 :: 46 :: snd .N r else c :: snd .N r
noncomputable def stE : St → List Nat → St
  | st, [] => st
  | _, c :: r => stE (if c = 13 then .R else if c = 10 then .F else .N) r
theorem snd_app : ∀ (st : St) (a b : List Nat), snd st (a ++ b) = snd st a ++ snd (stE st a) b
  | st, [], b => rfl
  | st, c :: r, b => by
    rw [List.cons_append, snd, snd, stE]
    by_cases h1 : c = 13
    · rw [if_pos h1, if_pos h1, if_pos h1, snd_app .R r b]; rfl
    rw [if_neg h1, if_neg h1, if_neg h1]
    by_cases h2 : c = 10
    · rw [if_pos h2, if_pos h2, if_pos h2, snd_app .F r b]
      split <;> rfl
    rw [if_neg h2, if_neg h2, if_neg h2, snd_app .N r b]
    split <;> rfl
theorem stE_app : ∀ (st : St) (a b : List Nat), stE st (a ++ b) = stE (stE st a) b
  | st, [], b => rfl
  | st, c :: r, b => by rw [List.cons_append, stE, stE, stE_app]
theorem snd_RF (r : List Nat) (h : r.head? ≠ some 10) : snd .R r = snd .F r := by
  cases r with
  | nil => rfl
  | cons c r =>
    have hc : c ≠ 10 := by simpa using h
    rw [snd, snd, if_neg hc, if_neg hc]
    by_cases h1 : c = 13
    · rw [if_pos h1, if_pos h1]
    · rw [if_neg h1, if_neg h1]
      by_cases h2 : c = 46
      · rw [if_pos ⟨h2, by decide⟩, if_pos ⟨h2, by decide⟩]
      · rw [if_neg fun q => h2 q.1, if_neg fun q => h2 q.1]
theorem dotsL_13 (b : Bool) (r : List Nat) : dotsL b (13 :: 10 :: r) = 13 :: 10 :: dotsL true r := by
  rw [dotsL, if_neg (fun q => absurd q.1 (by decide)), dotsL, if_neg (fun q => absurd q.1 (by decide))]; rfl
theorem snd_eq : ∀ (n : Nat) (l : List Nat), l.length ≤ n → ∀ b : Bool, dotsL b (endsL l) = snd (if b then .F else .N) l := by
  intro n
  induction n with
  | zero =>
    intro l h b
    have : l = [] := List.eq_nil_of_length_eq_zero (by omega)
    subst this
    rw [endsL, dotsL, snd]
  | succ n ih =>
    have ihT : ∀ l : List Nat, l.length ≤ n → dotsL true (endsL l) = snd .F l := fun l h => ih l h true
    have ihF : ∀ l : List Nat, l.length ≤ n → dotsL false (endsL l) = snd .N l := fun l h => ih l h false
    intro l h b
    cases l with
    | nil => rw [endsL, dotsL, snd]
    | cons c r =>
      rw [List.length_cons] at h
      rw [snd]
      by_cases h1 : c = 13
      · subst h1
        rw [if_pos rfl]
        by_cases h2 : r.head? = some 10
        · obtain ⟨r', rfl⟩ := List.head?_eq_some_iff.mp h2
          rw [List.length_cons] at h
          rw [endsL_1310, dotsL_13, ihT r' (by omega), snd, if_neg (by decide), if_pos rfl, if_pos rfl]
        · rw [endsL_13 r h2, dotsL_13, ihT r (by omega), snd_RF r h2]
      rw [if_neg h1]
      by_cases h2 : c = 10
      · subst h2
        rw [if_pos rfl, endsL_10, dotsL_13, ihT r (by omega), if_neg (by cases b <;> decide)]
      rw [if_neg h2, endsL_c c r h1 h2, dotsL]
      have hc : (c == 10) = false := by simpa using h2
      cases b
      · rw [if_neg (fun q => by cases q.2), if_neg (fun q => q.2 rfl), hc, ihF r (by omega)]
      · by_cases h3 : c = 46
        · rw [if_pos ⟨h3, rfl⟩, if_pos ⟨h3, by decide⟩, ihF r (by omega)]
        · rw [if_neg fun q => h3 q.1, if_neg fun q => h3 q.1, hc, ihF r (by omega)]
theorem send_list (x : Str) : (handOne true x).cps.toList = snd .F x.cps.toList := by
  show (dots (ends x)).cps.toList = _
  rw [dots_list, ends_list, snd_eq _ _ (Nat.le_refl _) true]
  rfl
theorem ends_le : ∀ (n : Nat) (l : List Nat), l.length ≤ n → (endsL l).length ≤ 2 * l.length := by
  intro n
  induction n with
  | zero =>
    intro l h
    have : l = [] := List.eq_nil_of_length_eq_zero (by omega)
    subst this
    rw [endsL]; exact Nat.zero_le _
  | succ n ih =>
    intro l h
    cases l with
    | nil => rw [endsL]; exact Nat.zero_le _
    | cons c r =>
      rw [List.length_cons] at h
      by_cases h1 : c = 13
      · subst h1
        by_cases h2 : r.head? = some 10
        · obtain ⟨r', rfl⟩ := List.head?_eq_some_iff.mp h2
          rw [List.length_cons] at h
          have := ih r' (by omega)
          rw [endsL_1310]; simp only [List.length_cons]; omega
        · have := ih r (by omega)
          rw [endsL_13 r h2]; simp only [List.length_cons]; omega
      by_cases h2 : c = 10
      · subst h2
        have := ih r (by omega)
        rw [endsL_10]; simp only [List.length_cons]; omega
      have := ih r (by omega)
      rw [endsL_c c r h1 h2]; simp only [List.length_cons]; omega
theorem snd_le : ∀ (st : St) (l : List Nat), (snd st l).length ≤ 2 * l.length
  | _, [] => Nat.zero_le _
  | st, c :: r => by
    rw [snd]
    have a := snd_le .R r
    have b := snd_le .F r
    have d := snd_le .N r
    repeat' split
    all_goals simp only [List.length_cons]
    all_goals omega
/-! a text prepared, as a list -/
noncomputable def prepL (l : List Nat) : List Nat := (l.filter keepB).flatMap fun c => (fold1 c).cps.toList
theorem prepL_app (a b : List Nat) : prepL (a ++ b) = prepL a ++ prepL b := by simp [prepL]
theorem prep_list (x : Str) : (handOne false x).cps.toList = prepL x.cps.toList := by
  show (prepOf x).cps.toList = _
  unfold prepOf
  rw [join_same, show (Str.ofString "" : Str) = ⟨#[]⟩ by decide +kernel, join_flat]
  simp [flat, prepL, List.flatMap_map]
end Mine
end
section
open PySem PySem.W PySem.Calls PyProof.Rows
namespace Mine
/-! the table, looked through once -/
noncomputable def b3Good (e : DictEntry) : Bool := (match e.key with | .int k _ => decide (181 ≤ k) | _ => false) && (match e.val with | .str x _ => decide (x.length ≤ 10) | _ => false)
theorem b3_all : (b3Entries.all b3Good && match b3Get 13255 with | some (.str x _) => x == ⟨#[99, 111, 46]⟩ | _ => false) = true := by decide +kernel
theorem b3_find (k : Int) : b3Get k = none ∨ ∃ e ∈ b3Entries, Value.isInt k e.key = true ∧ b3Get k = some e.val := by
  unfold b3Get findBy
  cases h : b3Entries.toArray.find? fun e => Value.isInt k e.key with
  | none => exact .inl rfl
  | some e => exact .inr ⟨e, by simpa using Array.mem_of_find?_eq_some h, by simpa using Array.find?_some h, rfl⟩
theorem b3_good (e : DictEntry) (h : e ∈ b3Entries) : b3Good e = true := by
  have := (Bool.and_eq_true_iff.mp b3_all).1
  exact List.all_eq_true.mp this e h
theorem b3_co : ∃ u, b3Get 13255 = some (.str ⟨#[99, 111, 46]⟩ u) := by
  have := (Bool.and_eq_true_iff.mp b3_all).2
  split at this
  · rename_i x u e
    rw [eq_of_beq this] at e
    exact ⟨u, e⟩
  · cases this
theorem b3_ok (k : Int) : b3Get k = none ∨ ∃ x u, b3Get k = some (.str x u) ∧ x.length ≤ 10 := by
  rcases b3_find k with h | ⟨e, he, _, h⟩
  · exact .inl h
  · have g := (Bool.and_eq_true_iff.mp (b3_good e he)).2
    right
    split at g
    · rename_i x u ev
      exact ⟨x, u, by rw [h, ev], of_decide_eq_true g⟩
    · cases g
theorem b3_low (k : Int) (hk : k < 181) : b3Get k = none := by
  rcases b3_find k with h | ⟨e, he, hi, _⟩
  · exact h
  · have g := (Bool.and_eq_true_iff.mp (b3_good e he)).1
    split at g
    · rename_i j u ev
      rw [ev] at hi
      have e1 : j = k := by simpa [Value.isInt] using hi
      have e2 := of_decide_eq_true g
      omega
    · cases g
theorem fold_low (c : Nat) (h : c < 181) : fold1 c = Txt.lower ⟨#[c]⟩ := by
  unfold fold1
  rw [b3_low _ (by omega)]
theorem prep_low (c : Nat) (h : c < 181) (h2 : keepB c = true) : prepL [c] = (Txt.lower ⟨#[c]⟩).cps.toList := by
  simp [prepL, h2, fold_low c h]
noncomputable def idc : List Nat := [10, 13, 32, 40, 41, 46, 48, 49, 50, 51, 52, 53, 54, 55, 56, 57, 58, 124]
theorem idc_all : (idc.all fun c => decide (c < 181) && keepB c && (Txt.lower ⟨#[c]⟩ == ⟨#[c]⟩)) = true := by decide +kernel
theorem prep_id (c : Nat) (h : c ∈ idc) : prepL [c] = [c] := by
  have g := List.all_eq_true.mp idc_all c h
  simp only [Bool.and_eq_true, decide_eq_true_eq] at g
  rw [prep_low c g.1.1 g.1.2, eq_of_beq g.2]
theorem prep_ids : ∀ l : List Nat, (∀ c ∈ l, c ∈ idc) → prepL l = l
  | [], _ => rfl
  | c :: r, h => by
    rw [show c :: r = [c] ++ r from rfl, prepL_app, prep_id c (h c (.head _)), prep_ids r fun d hd => h d (.tail _ hd)]
theorem prep_Q : prepL [81] = [113] := by
  rw [prep_low 81 (by decide) (by decide +kernel)]
  decide +kernel
theorem prep_co : prepL [13255] = [99, 111, 46] := by
  obtain ⟨u, h⟩ := b3_co
  have hk : keepB 13255 = true := by decide +kernel
  have hf : fold1 13255 = ⟨#[99, 111, 46]⟩ := by
    unfold fold1
    rw [show ((13255 : Nat) : Int) = 13255 from rfl, h]
  simp [prepL, hk, hf]
noncomputable def alL : List Nat := [10, 13, 46, 48, 49, 50, 51, 52, 53, 54, 55, 56, 57, 81, 99, 111, 113]
noncomputable def alB (c : Nat) : Bool := alL.contains c || (decide (128 ≤ c) && decide (c < 0x110000) && !Unicode.isSpace c && (Unicode.decimalValue? c).isNone)
theorem unL_all : (unL.all fun c => !keepB c.toNat && decide (173 ≤ c) && decide (c < 0x110000)) = true := by decide +kernel
theorem unL_al : (unL.all fun c => alB c.toNat) = true := by decide +kernel
theorem un_mem (k : Int) : un k ∈ unL := by
  have hl : unL.length = 27 := by decide +kernel
  have h1 : 0 ≤ k.fmod 27 := Int.fmod_nonneg_of_pos _ (by decide)
  have h2 : k.fmod 27 < 27 := Int.fmod_lt_of_pos _ (by decide)
  unfold un
  rw [List.getD_eq_getElem?_getD, List.getElem?_eq_getElem (by omega)]
  exact List.getElem_mem _
theorem un_facts (k : Int) : keepB (un k).toNat = false ∧ 173 ≤ (un k).toNat ∧ (un k).toNat < 0x110000 := by
  have g := List.all_eq_true.mp unL_all _ (un_mem k)
  simp only [Bool.and_eq_true, decide_eq_true_eq, Bool.not_eq_true'] at g
  exact ⟨g.1.1, by omega, by omega⟩
theorem un_al (k : Int) : alB (un k).toNat = true := List.all_eq_true.mp unL_al _ (un_mem k)
theorem prep_un (k : Int) : prepL [(un k).toNat] = [] := by simp [prepL, (un_facts k).1]
theorem fold_len (c : Nat) (hc : c ∈ idc ∨ c = 81 ∨ c = 13255 ∨ c = 113 ∨ c = 99 ∨ c = 111) : (fold1 c).length ≤ 10 := by
  rcases b3_ok (c : Int) with h | ⟨x, u, h, hl⟩
  · have e : fold1 c = Txt.lower ⟨#[c]⟩ := by unfold fold1; rw [h]
    rw [e]
    have hm : c ∈ idc ++ [81, 13255, 113, 99, 111] := by
      rw [List.mem_append]
      rcases hc with h | h | h | h | h | h
      · exact .inl h
      all_goals exact .inr (by simp [h])
    have g : ((idc ++ [81, 13255, 113, 99, 111]).all fun c => decide ((Txt.lower ⟨#[c]⟩).length ≤ 10)) = true := by decide +kernel
    exact of_decide_eq_true (List.all_eq_true.mp g c hm)
  · have e : fold1 c = x := by unfold fold1; rw [h]
    rw [e]; exact hl
end Mine
end
section
open PySem PySem.W PySem.Calls PyProof.Rows
namespace Mine
/-! the signs, sort by sort -/
inductive Sg : T3 → Prop
  | feed : Sg tF
  | ret : Sg tR
  | dot : Sg tD
  | un (k : Int) : Sg (tU k)
  | las (x : T3) (hk : x.k = Str.ofString "lasting") (s1 : ∀ st, snd st x.s.cps.toList = x.s.cps.toList) (s2 : ∀ st, stE st x.s.cps.toList = .N) (f1 : ∀ st, snd st x.f.cps.toList = x.f.cps.toList) (f2 : ∀ st, stE st x.f.cps.toList = .N)
      (hp : prepL x.s.cps.toList = x.f.cps.toList) (lo : ∀ c ∈ x.s.cps.toList ++ x.f.cps.toList, alB c = true) : Sg x
theorem snd_one (st : St) (c : Nat) (h1 : c ≠ 13) (h2 : c ≠ 10) (h3 : c ≠ 46) : snd st [c] = [c] ∧ stE st [c] = .N := by
  rw [snd, if_neg h1, if_neg h2, if_neg fun q => h3 q.1, stE, if_neg h1, if_neg h2]
  exact ⟨rfl, rfl⟩
theorem sg_C : Sg tC := by
  have e1 : tC.s.cps.toList = [13255] := by decide +kernel
  have e2 : tC.f.cps.toList = [99, 111, 46] := by decide +kernel
  refine .las tC rfl ?_ ?_ ?_ ?_ ?_ (by rw [e1, e2]; decide +kernel)
  · intro st; rw [e1]; exact (snd_one st _ (by decide) (by decide) (by decide)).1
  · intro st; rw [e1]; exact (snd_one st _ (by decide) (by decide) (by decide)).2
  · intro st; rw [e2]; rcases st with _ | _ | _ <;> decide
  · intro st; rw [e2]; rcases st with _ | _ | _ <;> decide
  · rw [e1, e2, prep_co]
theorem sg_Q : Sg tQ := by
  have e1 : tQ.s.cps.toList = [81] := by decide +kernel
  have e2 : tQ.f.cps.toList = [113] := by decide +kernel
  refine .las tQ rfl ?_ ?_ ?_ ?_ ?_ (by rw [e1, e2]; decide +kernel)
  · intro st; rw [e1]; exact (snd_one st _ (by decide) (by decide) (by decide)).1
  · intro st; rw [e1]; exact (snd_one st _ (by decide) (by decide) (by decide)).2
  · intro st; rw [e2]; exact (snd_one st _ (by decide) (by decide) (by decide)).1
  · intro st; rw [e2]; exact (snd_one st _ (by decide) (by decide) (by decide)).2
  · rw [e1, e2, prep_Q]
theorem sg_L (c : Nat) (h1 : 48 ≤ c) (h2 : c ≤ 57) : Sg (tL c) := by
  refine .las (tL c) rfl ?_ ?_ ?_ ?_ ?_ (fun d hd => by
    have e : d = c := by simpa [tL] using hd
    rw [e]
    have : c = 48 ∨ c = 49 ∨ c = 50 ∨ c = 51 ∨ c = 52 ∨ c = 53 ∨ c = 54 ∨ c = 55 ∨ c = 56 ∨ c = 57 := by omega
    rcases this with rfl | rfl | rfl | rfl | rfl | rfl | rfl | rfl | rfl | rfl <;> decide +kernel)
  · intro st; exact (snd_one st c (by omega) (by omega) (by omega)).1
  · intro st; exact (snd_one st c (by omega) (by omega) (by omega)).2
  · intro st; exact (snd_one st c (by omega) (by omega) (by omega)).1
  · intro st; exact (snd_one st c (by omega) (by omega) (by omega)).2
  · refine prep_id c ?_
    have : c = 48 ∨ c = 49 ∨ c = 50 ∨ c = 51 ∨ c = 52 ∨ c = 53 ∨ c = 54 ∨ c = 55 ∨ c = 56 ∨ c = 57 := by omega
    rcases this with rfl | rfl | rfl | rfl | rfl | rfl | rfl | rfl | rfl | rfl <;> decide
theorem dig_range : ∀ k : Fin 1000, ((Str.ofString (toString ((k.val : Nat) : Int))).cps.toList.all fun c => decide (48 ≤ c ∧ c ≤ 57)) = true := by decide +kernel
theorem dg_range (n : Int) : ∀ c ∈ (dg n).cps.toList, 48 ≤ c ∧ c ≤ 57 := by
  have h1 : 0 ≤ n.fmod 1000 := Int.fmod_nonneg_of_pos _ (by decide)
  have h2 : n.fmod 1000 < 1000 := Int.fmod_lt_of_pos _ (by decide)
  have h3 : (((n.fmod 1000).toNat : Nat) : Int) = n.fmod 1000 := Int.toNat_of_nonneg h1
  have h := dig_range ⟨(n.fmod 1000).toNat, by omega⟩
  rw [h3] at h
  intro c hc
  exact of_decide_eq_true (List.all_eq_true.mp h c hc)
theorem sgOne_Sg (i : Nat) (n : Int) : ∀ x ∈ sgOne i n, Sg x := by
  intro x hx
  have one : ∀ y, Sg y → x ∈ [y] → Sg x := fun y hy h => by rw [List.mem_singleton.mp h]; exact hy
  unfold sgOne at hx
  simp only [List.mem_append] at hx
  rcases hx with h | h | h | h | h | h | h
  · rcases mem_ite h with h | h
    · exact one tF .feed h
    · cases h
  · rcases mem_ite h with h | h
    · exact one tR .ret h
    · cases h
  · rcases mem_ite h with h | h
    · exact one _ (.un _) h
    · cases h
  · rcases mem_ite h with h | h
    · exact one tC sg_C h
    · rcases mem_ite h with h | h
      · exact one tD .dot h
      · cases h
  · rcases mem_ite h with h | h
    · exact one _ (.un _) h
    · cases h
  · rcases mem_ite h with h | h
    · obtain ⟨c, hc, rfl⟩ := List.mem_map.mp h
      have := dg_range _ c hc
      exact sg_L c this.1 this.2
    · cases h
  · rcases mem_ite h with h | h
    · exact one tQ sg_Q h
    · cases h
theorem sgTo_Sg (ns : List Int) : ∀ i, ∀ x ∈ sgTo ns i, Sg x
  | 0, x, h => nomatch h
  | i + 1, x, h => by
    rcases List.mem_append.mp h with h | h
    · exact sgTo_Sg ns i x h
    · exact sgOne_Sg i _ x h
theorem sgOf_Sg (xs : List Int) : ∀ x ∈ sgOf xs, Sg x := by
  intro x hx
  rcases mem_ite hx with h | h
  · rcases List.mem_cons.mp h with rfl | h
    · exact .un _
    · exact sgTo_Sg _ _ x h
  · rcases mem_ite h with h | h
    · rcases List.mem_append.mp h with h | h
      · exact sgTo_Sg _ _ x h
      · rw [List.mem_singleton.mp h]; exact .un _
    · exact sgTo_Sg _ _ x h
/-! what is told, against the machine -/
noncomputable def stA (a : Str) : St := if a == Str.ofString "return" then .R else if a == Str.ofString "feed" then .F else .N
noncomputable def seenOf (x : T3) : List Nat := if kq x.k "unseen" then [] else x.f.cps.toList
theorem k_feed : kq tF.k "unseen" = false ∧ kq tF.k "return" = false ∧ kq tF.k "feed" = true ∧ kq tF.k "dot" = false := by decide +kernel
theorem k_ret : kq tR.k "unseen" = false ∧ kq tR.k "return" = true ∧ kq tR.k "feed" = false ∧ kq tR.k "dot" = false := by decide +kernel
theorem k_dot : kq tD.k "unseen" = false ∧ kq tD.k "return" = false ∧ kq tD.k "feed" = false ∧ kq tD.k "dot" = true := by decide +kernel
theorem k_un (k : Int) : kq (tU k).k "unseen" = true := by
  show kq (Str.ofString "unseen") "unseen" = true
  decide +kernel
theorem k_las (x : T3) (h : x.k = Str.ofString "lasting") : kq x.k "unseen" = false ∧ kq x.k "return" = false ∧ kq x.k "feed" = false ∧ kq x.k "dot" = false := by
  rw [h]; decide +kernel
theorem l_F : tF.s.cps.toList = [10] ∧ tF.f.cps.toList = [10] := by decide +kernel
theorem l_R : tR.s.cps.toList = [13] ∧ tR.f.cps.toList = [13] := by decide +kernel
theorem l_D : tD.s.cps.toList = [46] ∧ tD.f.cps.toList = [46] := by decide +kernel
theorem l_U (k : Int) : (tU k).s.cps.toList = [(un k).toNat] := rfl
theorem l_crlf : (Str.ofString "\r\n").cps.toList = [13, 10] := by decide +kernel
theorem l_dd : (Str.ofString "..").cps.toList = [46, 46] := by decide +kernel
theorem a_feed : stA tF.k = .F := by decide +kernel
theorem a_ret : stA tR.k = .R := by decide +kernel
theorem a_dot : stA tD.k = .N := by decide +kernel
theorem a_las : stA (Str.ofString "lasting") = .N := by decide +kernel
theorem a_un (k : Int) : stA (tU k).k = .N := by
  show stA (Str.ofString "unseen") = .N
  decide +kernel
theorem stA_cases (a : Str) : (kq a "return" = true ∧ stA a = .R) ∨ (kq a "return" = false ∧ kq a "feed" = true ∧ stA a = .F) ∨ (kq a "return" = false ∧ kq a "feed" = false ∧ stA a = .N) := by
  unfold stA kq
  cases h1 : a == Str.ofString "return"
  · cases h2 : a == Str.ofString "feed"
    · exact .inr (.inr ⟨rfl, rfl, rfl⟩)
    · exact .inr (.inl ⟨rfl, rfl, rfl⟩)
  · exact .inl ⟨rfl, rfl⟩
/-- one sign's piece and the kind behind it, sending -/
theorem step_sent (x : T3) (hx : Sg x) (p : Str × Str) :
    (tstep true true false p x).1.cps.toList = p.1.cps.toList ++ snd (stA p.2) x.s.cps.toList ∧ stA (tstep true true false p x).2 = stE (stA p.2) x.s.cps.toList := by
  cases hx with
  | feed =>
    obtain ⟨e1, e2, e3, e4⟩ := k_feed
    have hne : (p.2 != Str.ofString "return") = !kq p.2 "return" := rfl
    rw [l_F.1]
    rcases stA_cases p.2 with ⟨g1, g2⟩ | ⟨g1, g2, g3⟩ | ⟨g1, g2, g3⟩
    · refine ⟨?_, ?_⟩
      · simp [tstep, e1, e2, e3, e4, hne, g1, g2, snd]
      · simp [tstep, e1, a_feed, g2, stE]
    · refine ⟨?_, ?_⟩
      · simp [tstep, e1, e2, e3, e4, hne, g1, g2, g3, snd, str_app_list, l_crlf]
      · simp [tstep, e1, a_feed, g3, stE]
    · refine ⟨?_, ?_⟩
      · simp [tstep, e1, e2, e3, e4, hne, g1, g2, g3, snd, str_app_list, l_crlf]
      · simp [tstep, e1, a_feed, g3, stE]
  | ret =>
    obtain ⟨e1, e2, e3, e4⟩ := k_ret
    rw [l_R.1]
    refine ⟨?_, ?_⟩
    · simp [tstep, e1, e2, snd, str_app_list, l_crlf]
    · simp [tstep, e1, a_ret, stE]
  | dot =>
    obtain ⟨e1, e2, e3, e4⟩ := k_dot
    rw [l_D.1]
    rcases stA_cases p.2 with ⟨g1, g2⟩ | ⟨g1, g2, g3⟩ | ⟨g1, g2, g3⟩
    · refine ⟨?_, ?_⟩
      · simp [tstep, e1, e2, e3, e4, g1, g2, snd, str_app_list, l_dd]
      · simp [tstep, e1, a_dot, g2, stE]
    · refine ⟨?_, ?_⟩
      · simp [tstep, e1, e2, e3, e4, g1, g2, g3, snd, str_app_list, l_dd]
      · simp [tstep, e1, a_dot, g3, stE]
    · refine ⟨?_, ?_⟩
      · simp [tstep, e1, e2, e3, e4, g1, g2, g3, snd, str_app_list, l_D.1]
      · simp [tstep, e1, a_dot, g3, stE]
  | un k =>
    have e1 := k_un k
    have hu := (un_facts k).2.1
    have h1 := snd_one (stA p.2) (un k).toNat (by omega) (by omega) (by omega)
    rw [l_U, h1.1, h1.2]
    refine ⟨?_, ?_⟩
    · simp [tstep, e1, str_app_list, l_U]
    · simp [tstep, e1, a_un]
  | las _ hk s1 s2 f1 f2 hp lo =>
    obtain ⟨e1, e2, e3, e4⟩ := k_las x hk
    rw [s1, s2]
    refine ⟨?_, ?_⟩
    · simp [tstep, e1, e2, e3, e4, str_app_list]
    · have e5 : stA x.k = .N := by rw [hk]; exact a_las
      simp [tstep, e1, e5]
theorem step_raw (x : T3) (hx : Sg x) (p : Str × Str) : (tstep false false false p x).1.cps.toList = p.1.cps.toList ++ x.s.cps.toList := by
  cases h : kq x.k "unseen" <;> simp [tstep, h, str_app_list]
theorem step_prep (x : T3) (hx : Sg x) (p : Str × Str) : (tstep false false true p x).1.cps.toList = p.1.cps.toList ++ seenOf x := by
  cases h : kq x.k "unseen" <;> simp [tstep, h, str_app_list, seenOf]
theorem step_ps (x : T3) (hx : Sg x) (p : Str × Str) :
    (tstep true false true p x).1.cps.toList = p.1.cps.toList ++ snd (stA p.2) (seenOf x) ∧ stA (tstep true false true p x).2 = stE (stA p.2) (seenOf x) := by
  cases hx with
  | feed =>
    obtain ⟨e1, e2, e3, e4⟩ := k_feed
    have hne : (p.2 != Str.ofString "return") = !kq p.2 "return" := rfl
    have hs : seenOf tF = [10] := by simp [seenOf, e1, l_F.2]
    rw [hs]
    rcases stA_cases p.2 with ⟨g1, g2⟩ | ⟨g1, g2, g3⟩ | ⟨g1, g2, g3⟩
    · refine ⟨?_, ?_⟩
      · simp [tstep, e1, e2, e3, e4, hne, g1, g2, snd]
      · simp [tstep, e1, a_feed, stE]
    · refine ⟨?_, ?_⟩
      · simp [tstep, e1, e2, e3, hne, g1, g3, snd, str_app_list, l_crlf]
      · simp [tstep, e1, a_feed, stE]
    · refine ⟨?_, ?_⟩
      · simp [tstep, e1, e2, e3, hne, g1, g3, snd, str_app_list, l_crlf]
      · simp [tstep, e1, a_feed, stE]
  | ret =>
    obtain ⟨e1, e2, e3, e4⟩ := k_ret
    have hs : seenOf tR = [13] := by simp [seenOf, e1, l_R.2]
    rw [hs]
    refine ⟨?_, ?_⟩
    · simp [tstep, e1, e2, snd, str_app_list, l_crlf]
    · simp [tstep, e1, a_ret, stE]
  | dot =>
    obtain ⟨e1, e2, e3, e4⟩ := k_dot
    have hs : seenOf tD = [46] := by simp [seenOf, e1, l_D.2]
    rw [hs]
    rcases stA_cases p.2 with ⟨g1, g2⟩ | ⟨g1, g2, g3⟩ | ⟨g1, g2, g3⟩
    · refine ⟨?_, ?_⟩
      · simp [tstep, e1, e2, e3, e4, g1, g2, snd, str_app_list, l_dd]
      · simp [tstep, e1, a_dot, stE]
    · refine ⟨?_, ?_⟩
      · simp [tstep, e1, e2, e3, e4, g1, g2, g3, snd, str_app_list, l_dd]
      · simp [tstep, e1, a_dot, stE]
    · refine ⟨?_, ?_⟩
      · simp [tstep, e1, e2, e3, e4, g1, g2, g3, snd, str_app_list, l_D.2]
      · simp [tstep, e1, a_dot, stE]
  | un k =>
    have e1 := k_un k
    have hs : seenOf (tU k) = [] := by simp [seenOf, e1]
    rw [hs]
    refine ⟨?_, ?_⟩
    · simp [tstep, e1, snd]
    · simp [tstep, e1, stE]
  | las _ hk s1 s2 f1 f2 hp lo =>
    obtain ⟨e1, e2, e3, e4⟩ := k_las x hk
    have hs : seenOf x = x.f.cps.toList := by simp [seenOf, e1]
    rw [hs, f1, f2]
    refine ⟨?_, ?_⟩
    · simp [tstep, e1, e2, e3, e4, str_app_list]
    · have e5 : stA x.k = .N := by rw [hk]; exact a_las
      simp [tstep, e1, e5]
theorem prep_crlf : prepL [13, 10] = [13, 10] := prep_ids _ (by decide)
theorem prep_dd : prepL [46, 46] = [46, 46] := prep_ids _ (by decide)
theorem prep_d : prepL [46] = [46] := prep_ids _ (by decide)
/-- prepared behind the sending -/
theorem step_sp (x : T3) (hx : Sg x) (p q : Str × Str) (h1 : q.1.cps.toList = prepL p.1.cps.toList) (h2 : q.2 = p.2) :
    (tstep true true true q x).1.cps.toList = prepL (tstep true true false p x).1.cps.toList ∧ (tstep true true true q x).2 = (tstep true true false p x).2 := by
  cases hx with
  | feed =>
    obtain ⟨e1, e2, e3, e4⟩ := k_feed
    cases g : p.2 != Str.ofString "return" <;> simp [tstep, e1, e2, e3, e4, h1, h2, g, str_app_list, l_crlf, prepL_app, prep_crlf]
  | ret =>
    obtain ⟨e1, e2, e3, e4⟩ := k_ret
    simp [tstep, e1, e2, h1, str_app_list, l_crlf, prepL_app, prep_crlf]
  | dot =>
    obtain ⟨e1, e2, e3, e4⟩ := k_dot
    cases g : (kq p.2 "return" || kq p.2 "feed") <;> simp [tstep, e1, e2, e3, e4, h1, h2, g, str_app_list, l_dd, l_D.1, l_D.2, prepL_app, prep_dd, prep_d]
  | un k =>
    have e1 := k_un k
    simp [tstep, e1, h1, str_app_list, l_U, prepL_app, prep_un]
  | las _ hk s1 s2 f1 f2 hp lo =>
    obtain ⟨e1, e2, e3, e4⟩ := k_las x hk
    simp [tstep, e1, e2, e3, e4, h1, str_app_list, prepL_app, hp]
/-! all signs -/
noncomputable def rawL (xs : List T3) : List Nat := xs.flatMap (·.s.cps.toList)
noncomputable def seenL (xs : List T3) : List Nat := xs.flatMap seenOf
theorem all_raw : ∀ (xs : List T3), (∀ x ∈ xs, Sg x) → ∀ p : Str × Str, (xs.foldl (tstep false false false) p).1.cps.toList = p.1.cps.toList ++ rawL xs
  | [], _, p => by simp [rawL]
  | x :: xs, h, p => by
    rw [List.foldl_cons, all_raw xs (fun y hy => h y (.tail _ hy)), step_raw x (h x (.head _))]
    simp [rawL]
theorem all_prep : ∀ (xs : List T3), (∀ x ∈ xs, Sg x) → ∀ p : Str × Str, (xs.foldl (tstep false false true) p).1.cps.toList = p.1.cps.toList ++ seenL xs
  | [], _, p => by simp [seenL]
  | x :: xs, h, p => by
    rw [List.foldl_cons, all_prep xs (fun y hy => h y (.tail _ hy)), step_prep x (h x (.head _))]
    simp [seenL]
theorem all_sent : ∀ (xs : List T3), (∀ x ∈ xs, Sg x) → ∀ p : Str × Str, (xs.foldl (tstep true true false) p).1.cps.toList = p.1.cps.toList ++ snd (stA p.2) (rawL xs)
  | [], _, p => by simp [rawL, snd]
  | x :: xs, h, p => by
    have hs := step_sent x (h x (.head _)) p
    rw [List.foldl_cons, all_sent xs (fun y hy => h y (.tail _ hy)), hs.1, hs.2]
    simp [rawL, snd_app]
theorem all_ps : ∀ (xs : List T3), (∀ x ∈ xs, Sg x) → ∀ p : Str × Str, (xs.foldl (tstep true false true) p).1.cps.toList = p.1.cps.toList ++ snd (stA p.2) (seenL xs)
  | [], _, p => by simp [seenL, snd]
  | x :: xs, h, p => by
    have hs := step_ps x (h x (.head _)) p
    rw [List.foldl_cons, all_ps xs (fun y hy => h y (.tail _ hy)), hs.1, hs.2]
    simp [seenL, snd_app]
theorem all_sp : ∀ (xs : List T3), (∀ x ∈ xs, Sg x) → ∀ p q : Str × Str, q.1.cps.toList = prepL p.1.cps.toList → q.2 = p.2 → (xs.foldl (tstep true true true) q).1.cps.toList = prepL (xs.foldl (tstep true true false) p).1.cps.toList
  | [], _, p, q, h1, _ => h1
  | x :: xs, h, p, q, h1, h2 => by
    have hs := step_sp x (h x (.head _)) p q h1 h2
    rw [List.foldl_cons, List.foldl_cons]
    exact all_sp xs (fun y hy => h y (.tail _ hy)) _ _ hs.1 hs.2
/-- a sign prepared -/
theorem prep_sign (x : T3) (hx : Sg x) : prepL x.s.cps.toList = seenOf x := by
  cases hx with
  | feed => simp [seenOf, k_feed.1, l_F.1, l_F.2]; exact prep_ids _ (by decide)
  | ret => simp [seenOf, k_ret.1, l_R.1, l_R.2]; exact prep_ids _ (by decide)
  | dot => simp [seenOf, k_dot.1, l_D.1, l_D.2]; exact prep_ids _ (by decide)
  | un k => simp [seenOf, k_un k, l_U, prep_un]
  | las _ hk s1 s2 f1 f2 hp lo => simp [seenOf, (k_las x hk).1, hp]
theorem prep_raw : ∀ (xs : List T3), (∀ x ∈ xs, Sg x) → prepL (rawL xs) = seenL xs
  | [], _ => rfl
  | x :: xs, h => by
    show prepL (x.s.cps.toList ++ rawL xs) = seenOf x ++ seenL xs
    rw [prepL_app, prep_sign x (h x (.head _)), prep_raw xs fun y hy => h y (.tail _ hy)]
theorem told_start : (Str.ofString "").cps.toList = [] := by decide +kernel
end Mine
end
section
open PySem PySem.W PySem.Calls PyProof.Rows
namespace Mine
theorem str_ext {x y : Str} (h : x.cps.toList = y.cps.toList) : x = y := by
  obtain ⟨a⟩ := x
  obtain ⟨b⟩ := y
  congr 1
  exact Array.toList_inj.mp h
/-! head, spoiled head, closing -/
noncomputable def hdL (k : Int) : List Nat := if k = 2 then [50, 50, 57, 32, 58, 41, 32] else [50, 50, 57, 32, 58, 41, 32, 40]
theorem head_list (k : Int) : (headOf k).cps.toList = hdL k := by
  unfold headOf hdL
  split <;> decide +kernel
noncomputable def clL (k : Int) : List Nat := if k = 1 then [] else if k = 2 then [41] else [41, 32, 40, 124, 124, 124, 57, 124, 41]
theorem close_list (k : Int) : (closeOf k).cps.toList = clL k := by
  unfold closeOf clL
  repeat' split
  all_goals decide +kernel
noncomputable def spL (xs : List Int) : List Nat := if placeOf xs < 4 then (hdL (lackOf xs)).take (placeOf xs).toNat ++ [(un ((totOf xs).fdiv 8)).toNat] ++ (hdL (lackOf xs)).drop (placeOf xs).toNat else hdL (lackOf xs)
theorem cuts : ∀ b : Bool, ∀ k : Fin 4, (Txt.slice (headOf (if b then 2 else 0)) none (some ((k.val : Nat) : Int))).cps.toList = (hdL (if b then 2 else 0)).take k.val ∧ (Txt.slice (headOf (if b then 2 else 0)) (some ((k.val : Nat) : Int)) none).cps.toList = (hdL (if b then 2 else 0)).drop k.val := by decide +kernel
theorem head_two (k : Int) : ∃ b : Bool, headOf k = headOf (if b then 2 else 0) ∧ hdL k = hdL (if b then 2 else 0) := by
  by_cases h : k = 2
  · exact ⟨true, by rw [h]; exact ⟨rfl, rfl⟩⟩
  · refine ⟨false, ?_, ?_⟩
    · unfold headOf; rw [if_neg h]; rfl
    · unfold hdL; rw [if_neg h]; rfl
theorem place_range (xs : List Int) : 0 ≤ placeOf xs ∧ placeOf xs < 8 := ⟨Int.fmod_nonneg_of_pos _ (by decide), Int.fmod_lt_of_pos _ (by decide)⟩
theorem sp_list (xs : List Int) : (spOf xs).cps.toList = spL xs := by
  unfold spOf spL
  by_cases h : placeOf xs < 4
  · rw [if_pos h, if_pos h, str_app_list, str_app_list]
    have hp := place_range xs
    obtain ⟨b, e1, e2⟩ := head_two (lackOf xs)
    have hc := cuts b ⟨(placeOf xs).toNat, by omega⟩
    have hk : (((placeOf xs).toNat : Nat) : Int) = placeOf xs := Int.toNat_of_nonneg hp.1
    simp only [hk] at hc
    rw [e1, e2, hc.1, hc.2]
    rfl
  · rw [if_neg h, if_neg h, head_list]
noncomputable def Pl (c : Nat) : Prop := c ≠ 13 ∧ c ≠ 10 ∧ c ≠ 46
theorem snd_plain : ∀ (l : List Nat), (∀ c ∈ l, Pl c) → ∀ st, snd st l = l ∧ (l ≠ [] → stE st l = .N)
  | [], _, st => ⟨rfl, fun h => absurd rfl h⟩
  | c :: r, h, st => by
    have hc := h c (.head _)
    have ih := snd_plain r (fun d hd => h d (.tail _ hd)) .N
    refine ⟨?_, fun _ => ?_⟩
    · rw [snd, if_neg hc.1, if_neg hc.2.1, if_neg fun q => hc.2.2 q.1, ih.1]
    · rw [stE, if_neg hc.1, if_neg hc.2.1]
      cases r with
      | nil => rfl
      | cons d r => exact ih.2 (by simp)
theorem hd_facts (k : Int) : (∀ c ∈ hdL k, Pl c ∧ c ∈ idc ∧ c < 0x110000) := by
  intro c hc
  unfold hdL at hc
  have : c ∈ [50, 50, 57, 32, 58, 41, 32, 40] := by
    split at hc
    · simp at hc ⊢; omega
    · exact hc
  simp only [List.mem_cons, List.not_mem_nil, or_false] at this
  rcases this with rfl | rfl | rfl | rfl | rfl | rfl | rfl | rfl <;> (refine ⟨⟨by decide, by decide, by decide⟩, by decide, by decide⟩)
theorem cl_facts (k : Int) : (∀ c ∈ clL k, Pl c ∧ c ∈ idc ∧ c < 0x110000) := by
  intro c hc
  unfold clL at hc
  have : c ∈ [41, 32, 40, 124, 124, 124, 57, 124, 41] := by
    split at hc
    · cases hc
    · split at hc
      · simp at hc ⊢; omega
      · exact hc
  simp only [List.mem_cons, List.not_mem_nil, or_false] at this
  rcases this with rfl | rfl | rfl | rfl | rfl | rfl | rfl | rfl | rfl <;> (refine ⟨⟨by decide, by decide, by decide⟩, by decide, by decide⟩)
theorem sp_facts (xs : List Int) : (∀ c ∈ spL xs, Pl c ∧ c < 0x110000) ∧ spL xs ≠ [] ∧ prepL (spL xs) = hdL (lackOf xs) := by
  have hh := hd_facts (lackOf xs)
  have hu := un_facts ((totOf xs).fdiv 8)
  have hne : hdL (lackOf xs) ≠ [] := by unfold hdL; split <;> simp
  have hid : prepL (hdL (lackOf xs)) = hdL (lackOf xs) := prep_ids _ fun c hc => (hh c hc).2.1
  unfold spL
  split
  · refine ⟨fun c hc => ?_, by simp, ?_⟩
    · simp only [List.mem_append, List.mem_singleton] at hc
      rcases hc with (hc | hc) | hc
      · exact ⟨(hh c (List.mem_of_mem_take hc)).1, (hh c (List.mem_of_mem_take hc)).2.2⟩
      · rw [hc]; exact ⟨⟨by omega, by omega, by omega⟩, hu.2.2⟩
      · exact ⟨(hh c (List.mem_of_mem_drop hc)).1, (hh c (List.mem_of_mem_drop hc)).2.2⟩
    · rw [prepL_app, prepL_app, prep_un, prep_ids _ fun c hc => (hh c (List.mem_of_mem_take hc)).2.1, prep_ids _ fun c hc => (hh c (List.mem_of_mem_drop hc)).2.1, List.append_nil, List.take_append_drop]
  · exact ⟨fun c hc => ⟨(hh c hc).1, (hh c hc).2.2⟩, hne, hid⟩
theorem text0_list (xs : List Int) : (text0 xs).cps.toList = spL xs ++ rawL (sgOf xs) ++ clL (lackOf xs) := by
  unfold text0
  rw [str_app_list, str_app_list, sp_list, close_list, join_same, show (Str.ofString "" : Str) = ⟨#[]⟩ by decide +kernel, join_flat]
  simp [flat, rawL, List.flatMap_map]
/-! what is told by each way -/
theorem told0 : stA (Str.ofString "lasting") = .N := a_las
theorem in1 (xs : List Int) : (innerOf xs ⟨[], false, false, false⟩).cps.toList = rawL (sgOf xs) := by
  show (toldTo false false false (sgOf xs)).1.cps.toList = _
  rw [toldTo, all_raw _ (sgOf_Sg xs), told_start]; rfl
theorem in2 (xs : List Int) : (innerOf xs ⟨[false], false, false, true⟩).cps.toList = seenL (sgOf xs) := by
  show (toldTo false false true (sgOf xs)).1.cps.toList = _
  rw [toldTo, all_prep _ (sgOf_Sg xs), told_start]; rfl
theorem in3 (xs : List Int) : (innerOf xs ⟨[true], true, true, false⟩).cps.toList = snd .N (rawL (sgOf xs)) := by
  show (toldTo true true false (sgOf xs)).1.cps.toList = _
  rw [toldTo, all_sent _ (sgOf_Sg xs), told_start, a_las]; rfl
theorem in4 (xs : List Int) : (innerOf xs ⟨[true, false], true, true, true⟩).cps.toList = prepL (snd .N (rawL (sgOf xs))) := by
  show (toldTo true true true (sgOf xs)).1.cps.toList = _
  rw [toldTo, all_sp _ (sgOf_Sg xs) (Str.ofString "", Str.ofString "lasting") _ (by rw [told_start]; rfl) rfl, all_sent _ (sgOf_Sg xs), told_start, a_las]; rfl
theorem in5 (xs : List Int) : (innerOf xs ⟨[false, true], true, false, true⟩).cps.toList = snd .N (seenL (sgOf xs)) := by
  show (toldTo true false true (sgOf xs)).1.cps.toList = _
  rw [toldTo, all_ps _ (sgOf_Sg xs), told_start, a_las]; rfl
theorem h3_list (xs : List Int) : (handOne true (text0 xs)).cps.toList = spL xs ++ snd .N (rawL (sgOf xs)) ++ clL (lackOf xs) := by
  have hs := sp_facts xs
  have h1 := snd_plain (spL xs) (fun c hc => (hs.1 c hc).1) .F
  rw [send_list, text0_list, List.append_assoc, snd_app, snd_app, h1.1, h1.2 hs.2.1, (snd_plain _ (fun c hc => (cl_facts _ c hc).1) _).1, List.append_assoc]
theorem h2_list (xs : List Int) : (handOne false (text0 xs)).cps.toList = hdL (lackOf xs) ++ seenL (sgOf xs) ++ clL (lackOf xs) := by
  rw [prep_list, text0_list, prepL_app, prepL_app, (sp_facts xs).2.2, prep_raw _ (sgOf_Sg xs), prep_ids (clL _) fun c hc => (cl_facts _ c hc).2.1]
theorem same_all (xs : List Int) (y : Way) (hy : y ∈ waysL) : handTo y.hands (text0 xs) = (if y.prep then headOf (lackOf xs) else spOf xs) ++ innerOf xs y ++ closeOf (lackOf xs) := by
  apply str_ext
  rw [str_app_list, str_app_list, close_list]
  simp only [waysL, List.mem_cons, List.not_mem_nil, or_false] at hy
  rcases hy with rfl | rfl | rfl | rfl | rfl
  · rw [in1]
    show (text0 xs).cps.toList = (spOf xs).cps.toList ++ _ ++ _
    rw [text0_list, sp_list]
  · rw [in2]
    show (handOne false (text0 xs)).cps.toList = (headOf _).cps.toList ++ _ ++ _
    rw [h2_list, head_list]
  · rw [in3]
    show (handOne true (text0 xs)).cps.toList = (spOf xs).cps.toList ++ _ ++ _
    rw [h3_list, sp_list]
  · rw [in4]
    show (handOne false (handOne true (text0 xs))).cps.toList = (headOf _).cps.toList ++ _ ++ _
    rw [prep_list, h3_list, prepL_app, prepL_app, (sp_facts xs).2.2, prep_ids (clL _) fun c hc => (cl_facts _ c hc).2.1, head_list]
  · rw [in5]
    show (handOne true (handOne false (text0 xs))).cps.toList = (headOf _).cps.toList ++ _ ++ _
    have hh := hd_facts (lackOf xs)
    have h1 := snd_plain (hdL (lackOf xs)) (fun c hc => (hh c hc).1) .F
    have hne : hdL (lackOf xs) ≠ [] := by unfold hdL; split <;> simp
    rw [send_list, h2_list, List.append_assoc, snd_app, snd_app, h1.1, h1.2 hne, (snd_plain _ (fun c hc => (cl_facts _ c hc).1) _).1, head_list, List.append_assoc]
/-! sizes -/
theorem fold_le (c : Nat) : (fold1 c).length ≤ 10 := by
  rcases b3_ok (c : Int) with h | ⟨x, u, h, hl⟩
  · have e : fold1 c = Txt.lower ⟨#[c]⟩ := by unfold fold1; rw [h]
    have := len_lower (⟨#[c]⟩ : Str)
    have h1 : (⟨#[c]⟩ : Str).length = 1 := rfl
    rw [e]; omega
  · have e : fold1 c = x := by unfold fold1; rw [h]
    rw [e]; exact hl
theorem inner_le (xs : List Int) (y : Way) : (innerOf xs y).length ≤ 138 := by
  have a := toldTo_len (sent := y.sent) (seen := y.seen) (prep := y.prep) (sgOf xs) (Str.ofString "", Str.ofString "lasting") (sgOf_small xs)
  have b := sgOf_len xs
  have e0 : (Str.ofString "").length = 0 := by decide
  have e : innerOf xs y = ((sgOf xs).foldl (tstep y.sent y.seen y.prep) (Str.ofString "", Str.ofString "lasting")).1 := rfl
  rw [e]
  dsimp only at a
  omega
theorem len_list (x : Str) : x.length = x.cps.toList.length := Array.length_toList.symm
theorem text_le (xs : List Int) (y : Way) (hy : y ∈ waysL) : (handTo y.hands (text0 xs)).length ≤ 170 := by
  have a := head_len (lackOf xs)
  have b := sp_len xs
  have c := close_len (lackOf xs)
  have d := inner_le xs y
  rw [same_all xs y hy, str_len_app, str_len_app]
  split <;> omega
theorem ends_len (x : Str) : (ends x).length ≤ 2 * x.length := by
  rw [len_list, ends_list, len_list]
  exact ends_le _ _ (Nat.le_refl _)
theorem ok_send {x : Str} (h : x.length ≤ 200) : OKhand true x := ⟨by omega, by have := ends_len x; omega⟩
theorem ok_prep {x : Str} (h : x.length ≤ 200) : OKhand false x := ⟨by omega, fun c _ => ⟨by
  rcases b3_ok (c : Int) with h | ⟨z, u, h, _⟩
  · exact .inl h
  · exact .inr ⟨z, u, h⟩, fun _ => fold_le c⟩⟩
theorem hands_ok (xs : List Int) (y : Way) (hy : y ∈ waysL) : ∀ i b, y.hands[i]? = some b → OKhand b (handTo (y.hands.take i) (text0 xs)) := by
  have t0 := text_le xs ⟨[], false, false, false⟩ (by simp [waysL])
  have t2 := text_le xs ⟨[false], false, false, true⟩ (by simp [waysL])
  have t3 := text_le xs ⟨[true], true, true, false⟩ (by simp [waysL])
  have ok : ∀ b (x : Str), x.length ≤ 170 → OKhand b x := fun b x h => by
    cases b
    · exact ok_prep (by omega)
    · exact ok_send (by omega)
  intro i b hb
  refine ok b _ ?_
  simp only [waysL, List.mem_cons, List.not_mem_nil, or_false] at hy
  rcases hy with rfl | rfl | rfl | rfl | rfl
  · cases hb
  · rcases i with _ | i
    · exact t0
    · cases hb
  · rcases i with _ | i
    · exact t0
    · cases hb
  · rcases i with _ | _ | i
    · exact t0
    · exact t3
    · cases hb
  · rcases i with _ | _ | i
    · exact t0
    · exact t2
    · cases hb
end Mine
end
section
open PySem PySem.W PySem.Calls PyProof.Rows
namespace Mine
/-! a text cut at a sign -/
noncomputable def splitL (d : Nat) : List Nat → List (List Nat)
  | [] => [[]]
  | c :: r => if c = d then [] :: splitL d r else match splitL d r with
    | p :: ps => (c :: p) :: ps
    | [] => [[c]]
theorem splitL_ne (d : Nat) : ∀ l, splitL d l ≠ []
  | [] => by simp [splitL]
  | c :: r => by
    rw [splitL]
    split
    · simp
    · split <;> simp
theorem splitL_free (d : Nat) : ∀ l : List Nat, d ∉ l → splitL d l = [l]
  | [], _ => rfl
  | c :: r, h => by
    have hc : ¬ c = d := fun e => h (by rw [e]; exact .head _)
    rw [splitL, if_neg hc, splitL_free d r fun q => h (.tail _ q)]
theorem splitL_app (d : Nat) (r : List Nat) : ∀ l : List Nat, d ∉ l → splitL d (l ++ d :: r) = l :: splitL d r
  | [], _ => by rw [List.nil_append, splitL, if_pos rfl]
  | c :: l, h => by
    have hc : ¬ c = d := fun e => h (by rw [e]; exact .head _)
    rw [List.cons_append, splitL, if_neg hc, splitL_app d r l fun q => h (.tail _ q)]
theorem splitL_join (d : Nat) : ∀ parts : List Str, parts ≠ [] → (∀ p ∈ parts, d ∉ p.cps.toList) → splitL d (Str.join ⟨#[d]⟩ parts).cps.toList = parts.map (·.cps.toList)
  | [], h, _ => absurd rfl h
  | [x], _, h => by
    rw [show Str.join ⟨#[d]⟩ [x] = x from rfl, splitL_free d _ (h x (.head _))]; rfl
  | x :: y :: r, _, h => by
    show splitL d (x ++ (⟨#[d]⟩ : Str) ++ Str.join ⟨#[d]⟩ (y :: r)).cps.toList = _
    rw [str_app_list, str_app_list, List.append_assoc]
    show splitL d (x.cps.toList ++ d :: (Str.join ⟨#[d]⟩ (y :: r)).cps.toList) = _
    rw [splitL_app d _ _ (h x (.head _)), splitL_join d (y :: r) (by simp) fun p hp => h p (.tail _ hp)]
    rfl
theorem split_ne (x : Str) (d : Nat) : Txt.split x ⟨#[d]⟩ ≠ [] := by
  unfold Txt.split
  split
  · simp
  split
  · simp
  · rw [StrLaws.partsBetween_eq]
    obtain ⟨p, r, e⟩ := StrLaws.partsFrom_ne x (⟨#[d]⟩ : Str).length 0 (PySem.Builtin.Str.occurrences x ⟨#[d]⟩ 0 x.length (x.length + 1))
    rw [e]; simp
theorem split_list (x : Str) (d : Nat) : (Txt.split x ⟨#[d]⟩).map (·.cps.toList) = splitL d x.cps.toList := by
  have h := splitL_join d (Txt.split x ⟨#[d]⟩) (split_ne x d) (StrLaws.split_free x d)
  rw [StrLaws.join_split] at h
  exact h.symm
theorem splitL_mem (d : Nat) : ∀ l : List Nat, ∀ p ∈ splitL d l, p.length ≤ l.length ∧ ∀ c ∈ p, c ∈ l
  | [], p, h => by
    rw [List.mem_singleton.mp h]; exact ⟨Nat.le_refl _, fun c hc => hc⟩
  | c :: r, p, h => by
    have ih := splitL_mem d r
    rw [splitL] at h
    split at h
    · rcases List.mem_cons.mp h with rfl | h
      · exact ⟨Nat.zero_le _, fun c hc => nomatch hc⟩
      · have := ih p h
        exact ⟨Nat.le_succ_of_le this.1, fun c hc => .tail _ (this.2 c hc)⟩
    · split at h
      · rename_i q ps e
        rw [e] at ih
        rcases List.mem_cons.mp h with rfl | h
        · have := ih q (.head _)
          refine ⟨Nat.succ_le_succ this.1, fun a ha => ?_⟩
          rcases List.mem_cons.mp ha with rfl | ha
          · exact .head _
          · exact .tail _ (this.2 a ha)
        · have := ih p (.tail _ h)
          exact ⟨Nat.le_succ_of_le this.1, fun c hc => .tail _ (this.2 c hc)⟩
      · rename_i e
        exact absurd e (splitL_ne d r)
theorem split_mem (x : Str) (d : Nat) : ∀ z ∈ Txt.split x ⟨#[d]⟩, z.length ≤ x.length ∧ ∀ c ∈ z.cps.toList, c ∈ x.cps.toList := by
  intro z hz
  have h : z.cps.toList ∈ splitL d x.cps.toList := by
    rw [← split_list]
    exact List.mem_map.mpr ⟨z, hz, rfl⟩
  have := splitL_mem d _ _ h
  rw [len_list, len_list]
  exact this
/-! the places of a sign -/
noncomputable def posL (d : Nat) : Nat → List Nat → List Nat
  | _, [] => []
  | i, c :: r => if c = d then i :: posL d (i + 1) r else posL d (i + 1) r
theorem posL_mem (d : Nat) : ∀ (l : List Nat) (i k : Nat), k ∈ posL d i l ↔ i ≤ k ∧ l[k - i]? = some d
  | [], i, k => by simp [posL]
  | c :: r, i, k => by
    have ih := posL_mem d r (i + 1) k
    have hk : i + 1 ≤ k → (c :: r)[k - i]? = r[k - (i + 1)]? := fun h => by
      rw [show k - i = (k - (i + 1)) + 1 by omega]; rfl
    rw [posL]
    split
    · rename_i e
      rw [List.mem_cons, ih]
      constructor
      · rintro (rfl | ⟨h1, h2⟩)
        · exact ⟨Nat.le_refl _, by rw [Nat.sub_self, e]; rfl⟩
        · exact ⟨by omega, by rw [hk h1]; exact h2⟩
      · rintro ⟨h1, h2⟩
        by_cases h : k = i
        · exact .inl h
        · exact .inr ⟨by omega, by rw [← hk (by omega)]; exact h2⟩
    · rename_i e
      rw [ih]
      constructor
      · rintro ⟨h1, h2⟩
        exact ⟨by omega, by rw [hk h1]; exact h2⟩
      · rintro ⟨h1, h2⟩
        have h : k ≠ i := by
          rintro rfl
          rw [Nat.sub_self] at h2
          exact e (Option.some.inj h2)
        exact ⟨by omega, by rw [← hk (by omega)]; exact h2⟩
theorem posL_sorted (d : Nat) : ∀ (l : List Nat) (i : Nat), (posL d i l).Pairwise (· < ·)
  | [], i => .nil
  | c :: r, i => by
    rw [posL]
    split
    · refine .cons (fun k hk => ?_) (posL_sorted d r (i + 1))
      have := ((posL_mem d r (i + 1) k).mp hk).1
      omega
    · exact posL_sorted d r (i + 1)
noncomputable def partsL : Nat → List Nat → List Nat → List (List Nat)
  | _, l, [] => [l]
  | i, l, p :: ps => l.take (p - i) :: partsL (p + 1) (l.drop (p - i + 1)) ps
theorem split_parts (d : Nat) : ∀ (l : List Nat) (i : Nat), splitL d l = partsL i l (posL d i l)
  | [], i => rfl
  | c :: r, i => by
    rw [splitL, posL]
    by_cases e : c = d
    · rw [if_pos e, if_pos e, partsL, Nat.sub_self, split_parts d r (i + 1)]
      rfl
    · rw [if_neg e, if_neg e, split_parts d r (i + 1)]
      cases h : posL d (i + 1) r with
      | nil => rfl
      | cons p ps =>
        have hp : i + 1 ≤ p := ((posL_mem d r (i + 1) p).mp (by rw [h]; exact .head _)).1
        rw [partsL, partsL, show p - i = (p - (i + 1)) + 1 by omega]
        rfl
theorem partsL_len : ∀ (P : List Nat) (i : Nat) (l : List Nat), (partsL i l P).length = P.length + 1
  | [], _, _ => rfl
  | p :: ps, i, l => by rw [partsL, List.length_cons, partsL_len ps, List.length_cons]
theorem range_pos (d : Nat) : ∀ (l : List Nat) (i : Nat) (p : Nat → Bool), (∀ k, p k = decide (i ≤ k ∧ l[k - i]? = some d)) → (List.range' i l.length).filter p = posL d i l
  | [], i, p, _ => rfl
  | c :: r, i, p, h => by
    have hp : p i = decide (c = d) := by
      rw [h i, Nat.sub_self]
      simp
    have ih := range_pos d r (i + 1) (fun k => p k && decide (i + 1 ≤ k)) fun k => by
      rw [h k]
      by_cases hk : i + 1 ≤ k
      · rw [show k - i = (k - (i + 1)) + 1 by omega]
        have h3 : i ≤ k := by omega
        simp [hk, h3]
      · simp [hk]
    have e : (List.range' (i + 1) r.length).filter p = (List.range' (i + 1) r.length).filter fun k => p k && decide (i + 1 ≤ k) := by
      refine List.filter_congr fun k hk => ?_
      have := (List.mem_range'_1.mp hk).1
      rw [decide_eq_true this, Bool.and_true]
    rw [List.length_cons, List.range'_succ, List.filter_cons, hp, e, ih, posL]
    by_cases hc : c = d
    · simp [hc]
    · simp [hc]
/-! places in a text -/
theorem item_nat (x : Str) (k c : Nat) (h : x.cps.toList[k]? = some c) : Txt.item x (k : Int) = ⟨#[c]⟩ := by
  unfold Txt.item Txt.charAt
  rw [StrLaws.at_nonneg (by omega) (by rw [Int.toNat_natCast, ← Array.getElem?_toList]; exact h)]
  rfl
theorem slice_nat (x : Str) (a b : Nat) (hab : a ≤ b) (hb : b ≤ x.length) : (Txt.slice x (some (a : Int)) (some (b : Int))).cps.toList = (x.cps.toList.drop a).take (b - a) := by
  rw [show Txt.slice x (some (a : Int)) (some (b : Int)) = StrLaws.sliceText x (some (a : Int)) (some (b : Int)) from rfl, StrLaws.sliceText_nat x hab hb]
theorem slice_mem (x : Str) (l u : Option Int) : ∀ c ∈ (Txt.slice x l u).cps.toList, c ∈ x.cps.toList := by
  intro c hc
  unfold Txt.slice at hc
  split at hc
  · exact hc
  · obtain ⟨k, _, hk⟩ := List.mem_filterMap.mp hc
    exact List.mem_of_getElem? (by rw [Array.getElem?_toList]; exact hk)
/-! the ends taken off -/
noncomputable def stripL (g : Nat → Bool) (l : List Nat) : List Nat := ((l.dropWhile g).reverse.dropWhile g).reverse
theorem drop_takeWhile (g : Nat → Bool) : ∀ l : List Nat, l.drop (l.takeWhile g).length = l.dropWhile g
  | [] => rfl
  | c :: r => by
    rw [List.takeWhile_cons, List.dropWhile_cons]
    split
    · rw [List.length_cons, List.drop_succ_cons, drop_takeWhile g r]
    · rfl
theorem stripped_list (g : Nat → Bool) (x : Str) : (W.stripped g true true x).cps.toList = stripL g x.cps.toList := by
  show (PySem.stripped g true true x).cps.toList = _
  unfold PySem.stripped
  rw [StrLaws.strSub_toList]
  unfold stripHi stripLo
  rw [if_pos rfl, if_pos rfl, drop_takeWhile]
  unfold stripL
  generalize hm : x.cps.toList.dropWhile g = m
  have hl : m.length + (x.cps.toList.takeWhile g).length = x.length := by
    rw [← hm, len_list]
    have := congrArg List.length (List.takeWhile_append_dropWhile (p := g) (l := x.cps.toList))
    rw [List.length_append] at this
    omega
  rw [← drop_takeWhile g m.reverse, List.drop_reverse, List.reverse_reverse]
  have h2 : (m.reverse.takeWhile g).length ≤ m.length := by
    have := NumText.len_takeWhile g m.reverse
    rw [List.length_reverse] at this
    exact this
  rw [show x.length - (m.reverse.takeWhile g).length - (x.cps.toList.takeWhile g).length = m.length - (m.reverse.takeWhile g).length by omega]
end Mine
end
section
open PySem PySem.W PySem.Calls PyProof.Rows
namespace Mine
/-! a text read as a number -/
open PySem.NumText in
theorem step_dig (p : Array Nat × Bool) (c : Nat) (h1 : 48 ≤ c) (h2 : c ≤ 57) : step 10 p c = some (p.1.push (c - 48), true) := by
  have h3 : ¬ (c == 95) = true := by simp; omega
  have h4 : digit? c = some (c - 48) := by
    unfold digit?
    rw [if_pos (by simp; omega)]
  unfold NumText.step
  rw [if_neg h3, h4]
  show (if c - 48 < 10 then _ else _) = _
  rw [if_pos (by omega)]
noncomputable def dgB (c : Nat) : Bool := decide (48 ≤ c ∧ c ≤ 57)
noncomputable def nmL : List Nat := [10, 13, 46, 81, 99, 111, 113, 63]
open PySem.NumText in
theorem step_no (p : Array Nat × Bool) (c : Nat) (h : c ∈ nmL) : step 10 p c = none := by
  simp only [nmL, List.mem_cons, List.not_mem_nil, or_false] at h
  rcases h with rfl | rfl | rfl | rfl | rfl | rfl | rfl | rfl <;> rfl
noncomputable def ND (c : Nat) : Prop := dgB c = true ∨ c ∈ nmL
theorem nm_not {c : Nat} (h : c ∈ nmL) : dgB c = false := by
  simp only [nmL, List.mem_cons, List.not_mem_nil, or_false] at h
  rcases h with rfl | rfl | rfl | rfl | rfl | rfl | rfl | rfl <;> rfl
open PySem.NumText in
theorem fold_digits : ∀ (m : List Nat) (p : Array Nat × Bool), (∀ c ∈ m, ND c) → m.foldlM (step 10) p = if m.all dgB then some (p.1 ++ (m.map (· - 48)).toArray, p.2 || !m.isEmpty) else none
  | [], p, _ => by simp
  | c :: r, p, h => by
    rw [List.foldlM_cons, List.all_cons]
    rcases h c (.head _) with hc | hc
    · have hc' := of_decide_eq_true hc
      rw [step_dig p c hc'.1 hc'.2]
      show r.foldlM (step 10) _ = _
      rw [fold_digits r _ fun d hd => h d (.tail _ hd), hc, Bool.true_and]
      split
      · simp
      · rfl
    · rw [step_no p c hc, nm_not hc]
      rfl
open PySem.NumText in
theorem digits_of (m : List Nat) (h : ∀ c ∈ m, ND c) : digits? 10 m = if m.all dgB && !m.isEmpty then some (m.map (· - 48)).toArray else none := by
  unfold digits?
  rw [fold_digits m _ h]
  cases m.all dgB
  · rfl
  · cases m
    · rfl
    · simp
theorem digits_list : digits.cps.toList = [48, 49, 50, 51, 52, 53, 54, 55, 56, 57] := by decide +kernel
theorem contains_dig (c : Nat) : Txt.contains digits ⟨#[c]⟩ = dgB c := by
  show (!(PySem.Builtin.Str.occurrences digits ⟨#[c]⟩ 0 digits.length 1).isEmpty) = _
  rw [StrLaws.found_one, digits_list]
  unfold dgB
  congr 1
  simp only [List.mem_cons, List.not_mem_nil, or_false, eq_iff_iff]
  omega
theorem find_dig (c : Nat) (h : dgB c = true) : Txt.find digits ⟨#[c]⟩ = ((c - 48 : Nat) : Int) := by
  have h' := of_decide_eq_true h
  have : c = 48 ∨ c = 49 ∨ c = 50 ∨ c = 51 ∨ c = 52 ∨ c = 53 ∨ c = 54 ∨ c = 55 ∨ c = 56 ∨ c = 57 := by omega
  rcases this with rfl | rfl | rfl | rfl | rfl | rfl | rfl | rfl | rfl | rfl <;> decide +kernel
theorem port_worth : ∀ (m : List Nat) (a : Nat), m.all dgB = true → m.foldl (fun p c => 10 * p + Txt.find digits ⟨#[c]⟩) (a : Int) = (((m.map (· - 48)).foldl (fun acc d => acc * 10 + d) a : Nat) : Int)
  | [], a, _ => rfl
  | c :: r, a, h => by
    rw [List.all_cons, Bool.and_eq_true] at h
    rw [List.foldl_cons, List.map_cons, List.foldl_cons, find_dig c h.1, ← port_worth r _ h.2]
    congr 1
    simp only [Int.natCast_add, Int.natCast_mul]
    omega
theorem bad_nil (y : Str) : bad y = [] ↔ y.cps.toList.all dgB = true := by
  unfold bad
  rw [List.filter_eq_nil_iff, List.all_eq_true]
  constructor
  · intro h c hc
    have := h c hc
    rw [contains_dig] at this
    simpa using this
  · intro h c hc
    rw [contains_dig, h c hc]
    simp
theorem dropWhile_congr {g k : Nat → Bool} : ∀ l : List Nat, (∀ c ∈ l, g c = k c) → l.dropWhile g = l.dropWhile k
  | [], _ => rfl
  | c :: r, h => by rw [List.dropWhile_cons, List.dropWhile_cons, h c (.head _), dropWhile_congr r fun d hd => h d (.tail _ hd)]
theorem mem_dropWhile {g : Nat → Bool} {c : Nat} : ∀ l : List Nat, c ∈ l.dropWhile g → c ∈ l
  | [], h => h
  | d :: r, h => by
    rw [List.dropWhile_cons] at h
    split at h
    · exact .tail _ (mem_dropWhile r h)
    · exact h
theorem keeps_dropWhile {g : Nat → Bool} {c : Nat} (hc : g c = false) : ∀ l : List Nat, c ∈ l → c ∈ l.dropWhile g
  | [], h => h
  | d :: r, h => by
    rw [List.dropWhile_cons]
    split
    · rename_i hd
      rcases List.mem_cons.mp h with rfl | h
      · rw [hc] at hd; cases hd
      · exact keeps_dropWhile hc r h
    · exact h
theorem strip_mem {g : Nat → Bool} {c : Nat} {l : List Nat} (h : c ∈ stripL g l) : c ∈ l := by
  unfold stripL at h
  exact mem_dropWhile _ (List.mem_reverse.mp (mem_dropWhile _ (List.mem_reverse.mp h)))
theorem strip_keeps {g : Nat → Bool} {c : Nat} {l : List Nat} (hc : g c = false) (h : c ∈ l) : c ∈ stripL g l := by
  unfold stripL
  exact List.mem_reverse.mpr (keeps_dropWhile hc _ (List.mem_reverse.mpr (keeps_dropWhile hc _ h)))
theorem strip_congr {g k : Nat → Bool} {l : List Nat} (h : ∀ c ∈ l, g c = k c) : stripL g l = stripL k l := by
  unfold stripL
  rw [dropWhile_congr l h, dropWhile_congr (l.dropWhile k).reverse fun c hc => h c (mem_dropWhile _ (List.mem_reverse.mp hc))]
theorem strip_len (g : Nat → Bool) (l : List Nat) : (stripL g l).length ≤ l.length := by
  unfold stripL
  rw [List.length_reverse]
  refine Nat.le_trans (NumText.len_dropWhile _ _) ?_
  rw [List.length_reverse]
  exact NumText.len_dropWhile _ _
noncomputable def crB (c : Nat) : Bool := (Str.ofString "\r\n").cps.contains c
theorem crB_eq (c : Nat) : crB c = (c == 13 || c == 10) := by
  unfold crB
  rw [show (Str.ofString "\r\n").cps = #[13, 10] by decide +kernel]
  simp [Array.contains]
theorem strip_list (x : Str) : (Txt.stripChars x (Str.ofString "\r\n")).cps.toList = stripL crB x.cps.toList := by
  unfold Txt.stripChars
  rw [W.stripBy_eq]
  exact stripped_list _ x
open PySem.NumText in
theorem no_sign (t : List Nat) (h : ∀ c ∈ t, ND c) : sign (t.dropWhile blank) = (false, t.dropWhile blank) := by
  cases e : t.dropWhile blank with
  | nil => rfl
  | cons c r =>
    have hc := h c (mem_dropWhile _ (by rw [e]; exact .head _))
    unfold sign
    split
    · rename_i q
      injection q with q _
      subst q
      rcases hc with hc | hc
      · cases hc
      · exact absurd hc (by decide)
    · rename_i q
      injection q with q _
      subst q
      rcases hc with hc | hc
      · cases hc
      · exact absurd hc (by decide)
    · rfl
open PySem.NumText in
theorem core_of (t : List Nat) (h : ∀ c ∈ t, ND c) : core t = stripL crB t := by
  unfold core
  rw [no_sign t h]
  show stripL blank t = _
  refine strip_congr fun c hc => ?_
  rw [crB_eq]
  rcases h c hc with h | h
  · have h' := of_decide_eq_true h
    unfold blank
    have e1 : ¬ c = 13 := by omega
    have e2 : ¬ c = 10 := by omega
    have e3 : ¬ c = 32 := by omega
    have e4 : ¬ c ≤ 13 := by omega
    have f1 : (c == 13) = false := beq_eq_false_iff_ne.mpr e1
    have f2 : (c == 10) = false := beq_eq_false_iff_ne.mpr e2
    have f3 : (c == 32) = false := beq_eq_false_iff_ne.mpr e3
    rw [f1, f2, f3, decide_eq_false e4, Bool.and_false]
  · simp only [nmL, List.mem_cons, List.not_mem_nil, or_false] at h
    rcases h with rfl | rfl | rfl | rfl | rfl | rfl | rfl | rfl <;> rfl
theorem seen_all (t : List Nat) (h : ∀ c ∈ t, ND c) : t.takeWhile (· != 0) = t := by
  have one : ∀ c, ND c → (c != 0) = true := fun c h => by
    rcases h with h | h
    · have h' := of_decide_eq_true h
      simp; omega
    · simp only [nmL, List.mem_cons, List.not_mem_nil, or_false] at h
      rcases h with rfl | rfl | rfl | rfl | rfl | rfl | rfl | rfl <;> rfl
  induction t with
  | nil => rfl
  | cons c r ih => rw [List.takeWhile_cons, if_pos (one c (h c (.head _))), ih fun d hd => h d (.tail _ hd)]
theorem al_ND {c : Nat} (h : alL.contains c = true) : ND c := by
  have h := List.contains_iff_mem.mp h
  simp only [alL, List.mem_cons, List.not_mem_nil, or_false] at h
  unfold ND
  rcases h with rfl | rfl | rfl | rfl | rfl | rfl | rfl | rfl | rfl | rfl | rfl | rfl | rfl | rfl | rfl | rfl | rfl <;> decide
theorem al_low {c : Nat} (h : alL.contains c = true) : c < 127 := by
  have h := List.contains_iff_mem.mp h
  simp only [alL, List.mem_cons, List.not_mem_nil, or_false] at h
  omega
theorem al_split {c : Nat} (h : alB c = true) : alL.contains c = true ∨ (128 ≤ c ∧ c < 0x110000 ∧ Unicode.isSpace c = false ∧ Unicode.decimalValue? c = none) := by
  unfold alB at h
  simp only [Bool.or_eq_true, Bool.and_eq_true, decide_eq_true_eq, Bool.not_eq_true', Option.isNone_iff_eq_none] at h
  rcases h with h | ⟨⟨⟨h1, h2⟩, h3⟩, h4⟩
  · exact .inl h
  · exact .inr ⟨h1, h2, h3, h4⟩
theorem al_facts {c : Nat} (h : alB c = true) : c < 0x110000 ∧ c ≠ 40 ∧ c ≠ 41 := by
  rcases al_split h with h | h
  · have h := List.contains_iff_mem.mp h
    simp only [alL, List.mem_cons, List.not_mem_nil, or_false] at h
    omega
  · omega
theorem number_text : ∀ l : List Nat, (∀ c ∈ l, alB c = true) → (∀ c ∈ Unicode.numberText l, ND c) ∧ ((∃ c ∈ l, 128 ≤ c) → 63 ∈ Unicode.numberText l)
  | [], _ => ⟨fun c hc => (nomatch hc), fun ⟨c, hc, _⟩ => (nomatch hc)⟩
  | c :: r, h => by
    have ih := number_text r fun d hd => h d (.tail _ hd)
    rw [Unicode.numberText]
    rcases al_split (h c (.head _)) with hc | ⟨h1, h2, h3, h4⟩
    · have hl := al_low hc
      rw [if_pos hl]
      refine ⟨fun d hd => ?_, ?_⟩
      · rcases List.mem_cons.mp hd with rfl | hd
        · exact al_ND hc
        · exact ih.1 d hd
      · rintro ⟨d, hd, hd2⟩
        rcases List.mem_cons.mp hd with rfl | hd
        · omega
        · exact .tail _ (ih.2 ⟨d, hd, hd2⟩)
    · rw [if_neg (by omega), if_neg (by rw [h3]; exact Bool.false_ne_true), h4]
      refine ⟨fun d hd => ?_, fun _ => .head _⟩
      rw [List.mem_singleton.mp hd]
      exact .inr (by decide)
theorem int_at {z : Str} {t : List Nat} (ht : numTextOf z = t) (h : ∀ c ∈ t, ND c) (hl : t.length ≤ 4300) :
    PySem.intText? z = if (stripL crB t).all dgB && !(stripL crB t).isEmpty then some (NumText.worth false ((stripL crB t).map (· - 48)).toArray) else none := by
  have hs : numSeenOf z = t := by
    show (numTextOf z).takeWhile (· != 0) = t
    rw [ht]; exact seen_all t h
  unfold PySem.intText?
  rw [hs, ht, if_pos (by simp), core_of t h, digits_of _ fun c hc => h c (strip_mem hc), no_sign t h]
  split
  · rename_i ds e
    have hlen := strip_len crB t
    split at e
    · rename_i g
      injection e with e
      subst e
      rw [if_pos (by simp; omega), if_pos g]
    · cases e
  · rename_i e
    split at e
    · cases e
    · rename_i g
      rw [if_neg g]
theorem int_text (z : Str) (hz : ∀ c ∈ z.cps.toList, alB c = true) (hl : z.length ≤ 4300) :
    (match PySem.intText? z with | none => Ans.value | some p => .ok p) =
      if Txt.stripChars z (Str.ofString "\r\n") == Str.ofString "" || bad (Txt.stripChars z (Str.ofString "\r\n")) ≠ [] then .value else .ok (portOf (Txt.stripChars z (Str.ofString "\r\n")).cps.toList) := by
  have hb := bad_nil (Txt.stripChars z (Str.ofString "\r\n"))
  have hsl := strip_list z
  generalize Txt.stripChars z (Str.ofString "\r\n") = fg at hb hsl ⊢
  have he : (fg == Str.ofString "") = fg.cps.toList.isEmpty := by
    rw [Bool.eq_iff_iff, beq_iff_eq, List.isEmpty_iff]
    constructor
    · rintro rfl; exact told_start
    · intro h; exact str_ext (by rw [h, told_start])
  rw [he]
  by_cases ha : z.cps.all (· < 128) = true
  · have ht : numTextOf z = z.cps.toList := if_pos ha
    have hA : ∀ c ∈ z.cps.toList, ND c := fun c hc => by
      rcases al_split (hz c hc) with h | h
      · exact al_ND h
      · have := (Array.all_eq_true_iff_forall_mem.mp ha) c (by simpa using hc)
        simp at this; omega
    rw [int_at ht hA (by rw [← len_list]; exact hl), ← hsl]
    by_cases h1 : fg.cps.toList.all dgB = true
    · have h2 : bad fg = [] := hb.mpr h1
      cases h3 : fg.cps.toList.isEmpty
      · simp only [h1, h2]
        simp only [Bool.not_false, Bool.and_self, if_true, ne_eq, not_true, decide_false, Bool.or_self, Bool.false_eq_true, if_false]
        congr 1
        have := port_worth fg.cps.toList 0 h1
        unfold portOf
        rw [show ((0 : Nat) : Int) = 0 from rfl] at this
        rw [this]
        unfold NumText.worth
        simp
      · simp [h1]
    · have h2 : bad fg ≠ [] := fun q => h1 (hb.mp q)
      have h1' : fg.cps.toList.all dgB = false := by simpa using h1
      rw [h1']
      simp [h2]
  · have ht : numTextOf z = Unicode.numberText z.cps.toList := if_neg ha
    obtain ⟨n1, n2⟩ := number_text z.cps.toList hz
    have hex : ∃ c ∈ z.cps.toList, 128 ≤ c := by
      rw [Array.all_eq_true_iff_forall_mem] at ha
      simp only [decide_eq_true_eq] at ha
      by_cases h : ∃ c ∈ z.cps.toList, 128 ≤ c
      · exact h
      · exact absurd (fun c hc => Nat.lt_of_not_le fun q => h ⟨c, by simpa using hc, q⟩) ha
    have h63 := n2 hex
    have hlen := NumText.numberText_length z.cps.toList
    rw [int_at ht n1 (by rw [len_list] at hl; omega)]
    have hx : (stripL crB (Unicode.numberText z.cps.toList)).all dgB = false := by
      rw [List.all_eq_false]
      exact ⟨63, strip_keeps (by rw [crB_eq]; rfl) h63, by decide⟩
    have h2 : bad fg ≠ [] := fun q => by
      obtain ⟨c, hc, hc2⟩ := hex
      have g := List.all_eq_true.mp (hb.mp q) c (by rw [hsl]; exact strip_keeps (by rw [crB_eq]; simp; omega) hc)
      have g := of_decide_eq_true g
      omega
    rw [hx]
    simp [h2]
end Mine
end
section
open PySem PySem.W PySem.Calls PyProof.Rows
namespace Mine
/-! what is told, sign by sign -/
theorem sg_al (x : T3) (hx : Sg x) : ∀ c ∈ x.s.cps.toList ++ (if kq x.k "unseen" then [] else x.f.cps.toList), alB c = true := by
  cases hx with
  | feed => rw [k_feed.1, l_F.1, l_F.2]; decide +kernel
  | ret => rw [k_ret.1, l_R.1, l_R.2]; decide +kernel
  | dot => rw [k_dot.1, l_D.1, l_D.2]; decide +kernel
  | un k =>
    rw [k_un k, l_U]
    intro c hc
    have e : c = (un k).toNat := by simpa using hc
    rw [e]; exact un_al k
  | las _ hk s1 s2 f1 f2 hp lo => rw [(k_las x hk).1]; exact lo
theorem step_al (a b d : Bool) (x : T3) (hx : Sg x) (p : Str × Str) (hp : ∀ c ∈ p.1.cps.toList, alB c = true) : ∀ c ∈ (tstep a b d p x).1.cps.toList, alB c = true := by
  have h := sg_al x hx
  have hs : ∀ c ∈ x.s.cps.toList, alB c = true := fun c hc => h c (List.mem_append_left _ hc)
  have app : ∀ y : Str, (∀ c ∈ y.cps.toList, alB c = true) → ∀ c ∈ (p.1 ++ y).cps.toList, alB c = true := fun y hy c hc => by
    rw [str_app_list] at hc
    rcases List.mem_append.mp hc with hc | hc
    · exact hp c hc
    · exact hy c hc
  unfold tstep
  by_cases g : kq x.k "unseen" = true
  · rw [if_pos g]
    cases d
    · exact app _ hs
    · exact hp
  · rw [if_neg g]
    rw [if_neg g] at h
    have hf : ∀ c ∈ x.f.cps.toList, alB c = true := fun c hc => h c (List.mem_append_right _ hc)
    dsimp only
    split
    · exact app _ (by rw [l_crlf]; decide +kernel)
    split
    · exact app _ (by rw [l_dd]; decide +kernel)
    split
    · exact hp
    · cases d
      · exact app _ hs
      · exact app _ hf
theorem fold_al (a b d : Bool) : ∀ (l : List T3), (∀ x ∈ l, Sg x) → ∀ p : Str × Str, (∀ c ∈ p.1.cps.toList, alB c = true) → ∀ c ∈ (l.foldl (tstep a b d) p).1.cps.toList, alB c = true
  | [], _, p, hp => hp
  | x :: l, h, p, hp => by
    rw [List.foldl_cons]
    exact fold_al a b d l (fun y hy => h y (.tail _ hy)) _ (step_al a b d x (h x (.head _)) p hp)
theorem inner_al (xs : List Int) (y : Way) : ∀ c ∈ (innerOf xs y).cps.toList, alB c = true :=
  fold_al _ _ _ _ (sgOf_Sg xs) _ (by rw [told_start]; intro c hc; cases hc)
/-! places -/
theorem ofList_len (x : Str) {l : List Nat} (h : x.cps.toList = l) : x.length = l.length := by rw [len_list, h]
theorem getD_app {x : Str} {A B : List Nat} (h : x.cps.toList = A ++ B) (v : Nat) : x.cps.getD (A.length + v) 0 = B.getD v 0 := by
  rw [Array.getD_eq_getD_getElem?, ← Array.getElem?_toList, h, List.getElem?_append_right (by omega), List.getD_eq_getElem?_getD]
  congr 2
  omega
theorem from_at {n k : Nat} (h : k ≤ n) : fromIndex n (k : Int) = k := by
  unfold fromIndex
  rw [if_neg (by omega), Int.max_eq_right (by omega)]
  omega
theorem find3_none (x : Str) (c : Nat) (A B : List Nat) (h : x.cps.toList = A ++ B) (hc : c ∉ B) : Txt.find3 x ⟨#[c]⟩ (A.length : Int) = -1 := by
  have hl := ofList_len x h
  rw [List.length_append] at hl
  rcases StrLaws.find3_spec x c (A.length : Int) with g | ⟨k, g1, g2, g3, g4, _⟩
  · exact g.1
  · exfalso
    rw [from_at (by omega)] at g2
    obtain ⟨j, rfl⟩ := Nat.exists_eq_add_of_le g2
    rw [getD_app h, List.getD_eq_getElem?_getD, List.getElem?_eq_getElem (by omega)] at g4
    exact hc (g4 ▸ List.getElem_mem _)
theorem find3_some (x : Str) (c : Nat) (A B D : List Nat) (h : x.cps.toList = A ++ (B ++ c :: D)) (hc : c ∉ B) : Txt.find3 x ⟨#[c]⟩ (A.length : Int) = ((A.length + B.length : Nat) : Int) := by
  have hl := ofList_len x h
  rw [List.length_append, List.length_append, List.length_cons] at hl
  have hat : x.cps.getD (A.length + B.length) 0 = c := by
    rw [getD_app h, List.getD_eq_getElem?_getD, List.getElem?_append_right (Nat.le_refl _), Nat.sub_self]
    rfl
  rcases StrLaws.find3_spec x c (A.length : Int) with g | ⟨k, g1, g2, g3, g4, g5⟩
  · exfalso
    rw [from_at (by omega)] at g
    exact g.2 (A.length + B.length) (by omega) (by omega) hat
  · rw [from_at (by omega)] at g2 g5
    rw [g1]
    congr 1
    rcases Nat.lt_trichotomy k (A.length + B.length) with q | q | q
    · exfalso
      obtain ⟨j, rfl⟩ := Nat.exists_eq_add_of_le g2
      rw [getD_app h, List.getD_eq_getElem?_getD, List.getElem?_append_left (by omega), List.getElem?_eq_getElem (by omega)] at g4
      exact hc (g4 ▸ List.getElem_mem _)
    · exact q
    · exact absurd hat (g5 _ (by omega) q)
theorem find_none (x : Str) (c : Nat) (h : c ∉ x.cps.toList) : Txt.find x ⟨#[c]⟩ = -1 := by
  rw [find_is_find3]
  exact find3_none x c [] _ rfl h
theorem find_some (x : Str) (c : Nat) (B D : List Nat) (h : x.cps.toList = B ++ c :: D) (hc : c ∉ B) : Txt.find x ⟨#[c]⟩ = (B.length : Int) := by
  rw [find_is_find3]
  have := find3_some x c [] B D h hc
  simpa using this
theorem s_open : Str.ofString "(" = ⟨#[40]⟩ := by decide +kernel
theorem s_close : Str.ofString ")" = ⟨#[41]⟩ := by decide +kernel
theorem s_229 : (Str.ofString "229").cps.toList = [50, 50, 57] := by decide +kernel
theorem head3 (x : Str) (h : 3 ≤ x.length) : (Txt.slice x none (some 3)).cps.toList = x.cps.toList.take 3 := by
  have := StrLaws.sliceText_to (x := x) (j := 3) ⟨by decide, by rw [len_list] at h; omega⟩
  rw [show Txt.slice x none (some 3) = StrLaws.sliceText x none (some 3) from rfl, this]
  rfl
theorem not229 (x : Str) (h : 3 ≤ x.length) : (Txt.slice x none (some 3) != Str.ofString "229") = !decide (x.cps.toList.take 3 = [50, 50, 57]) := by
  rw [bne, ← head3 x h, ← s_229]
  congr 1
  rw [Bool.eq_iff_iff, beq_iff_eq, decide_eq_true_eq]
  exact ⟨fun e => by rw [e], fun e => str_ext e⟩
theorem marks_list (x : Str) (d : Nat) (h : x.cps.toList[0]? = some d) : marksOf x = (posL d 0 x.cps.toList).map fun (k : Nat) => (k : Int) := by
  unfold marksOf inds
  rw [List.filter_map]
  congr 1
  have h0 : Txt.item x 0 = ⟨#[d]⟩ := item_nat x 0 d h
  rw [h0, ← range_pos d x.cps.toList 0 (fun k => decide (x.cps.toList[k]? = some d)) fun k => by simp, ← len_list, List.range_eq_range']
  refine List.filter_congr fun k hk => ?_
  have hk2 : k < x.cps.toList.length := by
    have := (List.mem_range'_1.mp hk).2
    rw [← len_list]; omega
  show (Txt.item x (k : Int) == ⟨#[d]⟩) = _
  rw [item_nat x k _ (List.getElem?_eq_getElem hk2), List.getElem?_eq_getElem hk2, Bool.eq_iff_iff, beq_iff_eq, decide_eq_true_eq]
  constructor
  · intro e
    have : (#[x.cps.toList[k]] : Array Nat) = #[d] := congrArg Str.cps e
    simpa using this
  · intro e
    rw [Option.some.inj e]
theorem four {P : List Nat} (h : P.length = 4) : ∃ a b c f, P = [a, b, c, f] := by
  match P, h with
  | [a, b, c, f], _ => exact ⟨a, b, c, f, rfl⟩
theorem parse_of (T x : Str) (H C : List Nat) (hT : T.cps.toList = H ++ 40 :: (x.cps.toList ++ 41 :: C)) (h3 : T.cps.toList.take 3 = [50, 50, 57]) (hH : 40 ∉ H) (hx : ∀ c ∈ x.cps.toList, alB c = true) (hl : x.length ≤ 4300) : parseAns T = dueOf x := by
  have hlen := ofList_len T hT
  have hT3 : 3 ≤ T.length := by
    have := congrArg List.length h3
    rw [List.length_take, show ([50, 50, 57] : List Nat).length = 3 from rfl] at this
    rw [len_list]
    omega
  have n1 : (Txt.slice T none (some 3) != Str.ofString "229") = false := by rw [not229 T hT3, h3]; rfl
  have n2 : Txt.find T (Str.ofString "(") = (H.length : Int) := by
    rw [s_open]
    exact find_some T 40 H _ hT hH
  have hT2 : T.cps.toList = (H ++ [40]) ++ (x.cps.toList ++ 41 :: C) := by rw [hT]; simp
  have e1 : (H.length : Int) + 1 = (((H ++ [40]).length : Nat) : Int) := by simp
  have n3 : pR T = (((H ++ [40]).length + x.cps.toList.length : Nat) : Int) := by
    show Txt.find3 T (Str.ofString ")") (Txt.find T (Str.ofString "(") + 1) = _
    rw [n2, e1, s_close]
    exact find3_some T 41 _ _ _ hT2 fun h => (al_facts (hx 41 h)).2.2 rfl
  have n4 : pL T = (((H ++ [40]).length : Nat) : Int) := by
    show Txt.find T (Str.ofString "(") + 1 = _
    rw [n2, e1]
  have n5 : ¬ Txt.find T (Str.ofString "(") < 0 := by rw [n2]; omega
  have n6 : ¬ pR T < 0 := by rw [n3]; omega
  have n7 : (Txt.slice T (some (pL T)) (some (pR T))).cps.toList = x.cps.toList := by
    rw [n3, n4, slice_nat T _ _ (by omega) (by rw [hlen]; simp; omega), hT2, List.drop_left, Nat.add_sub_cancel_left, List.take_left]
  have hxl : x.length = x.cps.toList.length := len_list x
  cases hI : x.cps.toList with
  | nil =>
    have i1 : Txt.item T (pL T) = ⟨#[41]⟩ := by
      rw [n4]
      refine item_nat T _ 41 ?_
      rw [hT2, hI, List.getElem?_append_right (Nat.le_refl _), Nat.sub_self]
      rfl
    have i2 : Txt.item T (pR T - 1) = ⟨#[40]⟩ := by
      have e5 : (((H ++ [40]).length + ([] : List Nat).length : Nat) : Int) - 1 = (H.length : Int) := by
        rw [List.length_append, List.length_nil, List.length_singleton]; omega
      rw [n3, hI, e5]
      refine item_nat T _ 40 ?_
      rw [hT, List.getElem?_append_right (Nat.le_refl _), Nat.sub_self]
      rfl
    rw [ans4 n1 n5 n6 (by rw [i1, i2]; decide)]
    unfold dueOf
    have hm : marksOf x = [] := by
      unfold marksOf inds
      rw [hxl, hI]
      rfl
    rw [hm, if_pos (.inl (by decide))]
  | cons d r =>
    have hd0 : x.cps.toList[0]? = some d := by rw [hI]; rfl
    have hn : 0 < x.cps.toList.length := by rw [hI]; simp
    obtain ⟨e, he⟩ : ∃ e, x.cps.toList[x.cps.toList.length - 1]? = some e := ⟨_, List.getElem?_eq_getElem (by omega)⟩
    have i1 : Txt.item T (pL T) = ⟨#[d]⟩ := by
      rw [n4]
      refine item_nat T _ d ?_
      rw [hT2, List.getElem?_append_right (Nat.le_refl _), Nat.sub_self, List.getElem?_append_left hn, hd0]
    have i2 : Txt.item T (pR T - 1) = ⟨#[e]⟩ := by
      have e5 : (((H ++ [40]).length + x.cps.toList.length : Nat) : Int) - 1 = (((H ++ [40]).length + (x.cps.toList.length - 1) : Nat) : Int) := by omega
      rw [n3, e5]
      refine item_nat T _ e ?_
      rw [hT2, List.getElem?_append_right (by omega), Nat.add_sub_cancel_left, List.getElem?_append_left (by omega), he]
    have hm := marks_list x d hd0
    generalize hP : posL d 0 x.cps.toList = P at hm
    have hmem : ∀ k, k ∈ P ↔ x.cps.toList[k]? = some d := fun k => by
      rw [← hP, posL_mem]; simp
    have hso : P.Pairwise (· < ·) := hP ▸ posL_sorted d _ 0
    have hsp : (pParts T).map (·.cps.toList) = partsL 0 x.cps.toList P := by
      show (Txt.split (Txt.slice T (some (pL T)) (some (pR T))) (Txt.item T (pL T))).map (·.cps.toList) = _
      rw [i1, split_list, n7, split_parts d _ 0, hP]
    have hpl : (pParts T).length = P.length + 1 := by
      have := congrArg List.length hsp
      rw [List.length_map, partsL_len] at this
      exact this
    unfold dueOf
    rw [hm, List.length_map]
    by_cases hed : e = d
    · have n8 : (Txt.item T (pL T) != Txt.item T (pR T - 1)) = false := by rw [i1, i2, hed]; simp
      by_cases h4 : P.length = 4
      · obtain ⟨a, b, c, f, hPe⟩ := four h4
        have hs := hso
        rw [hPe] at hs
        simp only [List.pairwise_cons, List.mem_cons, List.not_mem_nil, or_false, forall_eq_or_imp, forall_eq] at hs
        obtain ⟨⟨s1, s2, s3⟩, ⟨s4, s5⟩, s6, _⟩ := hs
        have hlast : x.cps.toList.length - 1 ∈ P := (hmem _).mpr (hed ▸ he)
        have hf : f = x.cps.toList.length - 1 := by
          have hfl : f < x.cps.toList.length := by
            have := (hmem f).mp (by rw [hPe]; simp)
            exact (List.getElem?_eq_some_iff.mp this).1
          rw [hPe] at hlast
          simp only [List.mem_cons, List.not_mem_nil, or_false] at hlast
          omega
        rw [hPe]
        have g3 : ((([a, b, c, f] : List Nat).map fun (k : Nat) => (k : Int)).getD 3 0) = (f : Int) := rfl
        have g2 : ((([a, b, c, f] : List Nat).map fun (k : Nat) => (k : Int)).getD 2 0) = (c : Int) := rfl
        rw [if_neg (by
          rw [g3, hxl]
          rintro (q | q)
          · exact q rfl
          · exact q (by omega))]
        have hsp4 := hsp
        rw [hPe] at hsp4
        simp only [partsL] at hsp4
        have hz : ((pParts T).map (·.cps.toList))[3]? = some ((x.cps.toList.drop (c + 1)).take (f - (c + 1))) := by
          rw [hsp4]
          simp only [List.getElem?_cons_succ, List.getElem?_cons_zero, List.drop_drop]
          congr 3
          omega
        rw [List.getElem?_map] at hz
        cases hz3 : (pParts T)[3]? with
        | none => rw [hz3] at hz; cases hz
        | some z =>
          rw [hz3] at hz
          have hz : z.cps.toList = (x.cps.toList.drop (c + 1)).take (f - (c + 1)) := Option.some.inj hz
          have hfig : figsOf x = Txt.stripChars z (Str.ofString "\r\n") := by
            unfold figsOf
            rw [hm, hPe, g2, g3, show (c : Int) + 1 = ((c + 1 : Nat) : Int) by omega]
            congr 1
            apply str_ext
            rw [slice_nat x _ _ (by omega) (by omega), hz]
          have hzx : ∀ u ∈ z.cps.toList, u ∈ x.cps.toList := fun u hu => by
            rw [hz] at hu
            exact List.mem_of_mem_drop (List.mem_of_mem_take hu)
          have hzl : z.length ≤ 4300 := by
            rw [len_list, hz, List.length_take, List.length_drop]; omega
          have hin := int_text z (fun u hu => hx u (hzx u hu)) hzl
          rw [hfig, ← hin]
          unfold parseAns
          rw [n1, if_neg Bool.false_ne_true, if_neg n5, if_neg n6, n8, if_neg Bool.false_ne_true, if_neg (by rw [hpl, h4]; decide), hz3]
          try rfl
      · rw [if_pos (.inl h4)]
        unfold parseAns
        rw [n1, if_neg Bool.false_ne_true, if_neg n5, if_neg n6, n8, if_neg Bool.false_ne_true, if_pos (by rw [hpl]; omega)]
    · have n8 : (Txt.item T (pL T) != Txt.item T (pR T - 1)) = true := by
        rw [i1, i2, bne_iff_ne]
        intro q
        have : (#[d] : Array Nat) = #[e] := congrArg Str.cps q
        exact hed (by simpa using this.symm)
      rw [ans4 n1 n5 n6 n8, if_pos]
      by_cases h4 : P.length = 4
      · refine .inr fun q => hed ?_
        obtain ⟨a, b, c, f, hPe⟩ := four h4
        rw [hPe] at q
        have q : (f : Int) = (x.length : Int) - 1 := q
        have hfm := (hmem f).mp (by rw [hPe]; simp)
        rw [show f = x.cps.toList.length - 1 by omega, he] at hfm
        exact Option.some.inj hfm
      · exact .inl h4
end Mine
end
section
open PySem PySem.W PySem.Calls PyProof.Rows
namespace Mine
noncomputable def bsL : List Nat := [50, 50, 57, 32, 58, 41, 32]
noncomputable def opL (k : Int) : List Nat := if k = 2 then [] else [40]
theorem hd_op (k : Int) : hdL k = bsL ++ opL k := by
  unfold hdL opL
  split <;> rfl
theorem hl_shape (xs : List Int) (prep : Bool) (h : ¬ (placeOf xs < 3 ∧ prep = false)) : ∃ A, 40 ∉ A ∧ A.take 3 = [50, 50, 57] ∧ (if prep then hdL (lackOf xs) else spL xs) = A ++ opL (lackOf xs) := by
  have base : 40 ∉ bsL ∧ bsL.take 3 = [50, 50, 57] := by decide
  cases prep with
  | true => exact ⟨bsL, base.1, base.2, hd_op _⟩
  | false =>
    have h3 : ¬ placeOf xs < 3 := fun q => h ⟨q, rfl⟩
    show ∃ A, 40 ∉ A ∧ A.take 3 = [50, 50, 57] ∧ spL xs = A ++ opL (lackOf xs)
    unfold spL
    by_cases h4 : placeOf xs < 4
    · have e : placeOf xs = 3 := by omega
      have hu := un_facts ((totOf xs).fdiv 8)
      rw [if_pos h4, e, hd_op]
      generalize (un ((totOf xs).fdiv 8)).toNat = u at hu
      refine ⟨[50, 50, 57, u, 32, 58, 41, 32], ?_, rfl, rfl⟩
      intro q
      simp only [List.mem_cons, List.not_mem_nil, or_false] at q
      omega
    · rw [if_neg h4]
      exact ⟨bsL, base.1, base.2, hd_op _⟩
theorem bad_head (xs : List Int) (h : placeOf xs < 3) : 3 ≤ (spL xs).length ∧ (spL xs).take 3 ≠ [50, 50, 57] := by
  have hp := place_range xs
  have hu := un_facts ((totOf xs).fdiv 8)
  have hc : placeOf xs = 0 ∨ placeOf xs = 1 ∨ placeOf xs = 2 := by omega
  unfold spL
  rw [if_pos (by omega), hd_op]
  generalize (un ((totOf xs).fdiv 8)).toNat = u at hu
  rcases hc with e | e | e
  · rw [e]
    refine ⟨by simp [bsL], fun q => ?_⟩
    have q : [u, 50, 50] = [50, 50, 57] := q
    injection q with q
    omega
  · rw [e]
    refine ⟨by simp [bsL], fun q => ?_⟩
    have q : [50, u, 50] = [50, 50, 57] := q
    injection q with _ q
    injection q with q
    omega
  · rw [e]
    refine ⟨by simp [bsL], fun q => ?_⟩
    have q : [50, 50, u] = [50, 50, 57] := q
    injection q with _ q
    injection q with _ q
    injection q with q
    omega
theorem text_list (xs : List Int) (y : Way) (hy : y ∈ waysL) : (handTo y.hands (text0 xs)).cps.toList = (if y.prep then hdL (lackOf xs) else spL xs) ++ ((innerOf xs y).cps.toList ++ clL (lackOf xs)) := by
  rw [same_all xs y hy, str_app_list, str_app_list, close_list, List.append_assoc]
  congr 1
  split
  · exact head_list _
  · exact sp_list _
theorem take_app {A B : List Nat} (h : 3 ≤ A.length) : (A ++ B).take 3 = A.take 3 := List.take_append_of_le_length h
theorem len3 {A : List Nat} (h : A.take 3 = [50, 50, 57]) : 3 ≤ A.length := by
  have := congrArg List.length h
  rw [List.length_take, show ([50, 50, 57] : List Nat).length = 3 from rfl] at this
  omega
theorem ans_all (xs : List Int) (y : Way) (hy : y ∈ waysL) : parseAns (handTo y.hands (text0 xs)) = dueX xs y := by
  have ht := text_list xs y hy
  have hal := inner_al xs y
  have hil := inner_le xs y
  generalize handTo y.hands (text0 xs) = T at ht
  unfold dueX
  generalize innerOf xs y = x at ht hal hil
  by_cases hb : placeOf xs < 3 ∧ y.prep = false
  · rw [if_pos hb]
    have h1 := bad_head xs hb.1
    rw [if_neg (by rw [hb.2]; exact Bool.false_ne_true)] at ht
    refine ans1 ?_
    have hT3 : 3 ≤ T.length := by
      rw [ofList_len T ht, List.length_append]; omega
    rw [not229 T hT3, ht, take_app h1.1, decide_eq_false h1.2]
    rfl
  · rw [if_neg hb]
    obtain ⟨A, a1, a2, a3⟩ := hl_shape xs y.prep hb
    rw [a3] at ht
    have hA := len3 a2
    have hT : 3 ≤ T.length := by
      rw [ofList_len T ht, List.length_append, List.length_append]; omega
    have hT3 : T.cps.toList.take 3 = [50, 50, 57] := by
      rw [ht, List.append_assoc, take_app hA, a2]
    have n1 : (Txt.slice T none (some 3) != Str.ofString "229") = false := by rw [not229 T hT, hT3]; rfl
    have no40 : 40 ∉ x.cps.toList := fun h => (al_facts (hal 40 h)).2.1 rfl
    have no41 : 41 ∉ x.cps.toList := fun h => (al_facts (hal 41 h)).2.2 rfl
    by_cases h2 : lackOf xs = 2
    · rw [if_pos (.inr h2)]
      refine ans2 n1 ?_
      have hn : 40 ∉ T.cps.toList := by
        rw [ht, h2]
        intro q
        simp only [List.mem_append] at q
        rcases q with (q | q) | q | q
        · exact a1 q
        · exact nomatch q
        · exact no40 q
        · have q : 40 ∈ [41] := q
          simp at q
      rw [s_open, find_none T 40 hn]
      decide
    · have ho : opL (lackOf xs) = [40] := if_neg h2
      rw [ho] at ht
      have ht2 : T.cps.toList = A ++ 40 :: (x.cps.toList ++ clL (lackOf xs)) := by rw [ht]; simp
      have n2 : Txt.find T (Str.ofString "(") = (A.length : Int) := by
        rw [s_open]
        exact find_some T 40 A _ ht2 a1
      by_cases h1 : lackOf xs = 1
      · rw [if_pos (.inl h1)]
        have hr : pR T = -1 := by
          show Txt.find3 T (Str.ofString ")") (Txt.find T (Str.ofString "(") + 1) = _
          have e1 : (A.length : Int) + 1 = (((A ++ [40]).length : Nat) : Int) := by simp
          rw [n2, e1, s_close]
          refine find3_none T 41 (A ++ [40]) x.cps.toList ?_ no41
          rw [ht, h1, show clL 1 = [] from rfl, List.append_nil]
        exact ans3 n1 (by rw [n2]; omega) (by rw [hr]; decide)
      · rw [if_neg (by rintro (q | q) <;> contradiction)]
        have hc : clL (lackOf xs) = 41 :: [32, 40, 124, 124, 124, 57, 124, 41] := by
          unfold clL
          rw [if_neg h1, if_neg h2]
        rw [hc] at ht2
        exact parse_of T x A _ ht2 hT3 a1 hal (by omega)
theorem text_low (xs : List Int) (y : Way) (hy : y ∈ waysL) : ∀ c ∈ (handTo y.hands (text0 xs)).cps.toList, c < 0x110000 := by
  intro c hc
  rw [text_list xs y hy] at hc
  rcases List.mem_append.mp hc with hc | hc
  · split at hc
    · exact (hd_facts _ c hc).2.2
    · exact ((sp_facts xs).1 c hc).2
  · rcases List.mem_append.mp hc with hc | hc
    · exact (al_facts (inner_al xs y c hc)).1
    · exact (cl_facts _ c hc).2.2
theorem plain (xs : List Int) (y : Way) (hy : y ∈ waysL) : PlainW xs y where
  hands := hands_ok xs y hy
  same := same_all xs y hy
  inner := by
    refine ⟨by have := inner_le xs y; omega, fun c hc => ?_⟩
    unfold figsOf at hc
    rw [strip_list] at hc
    exact (al_facts (inner_al xs y c (slice_mem _ _ _ c (strip_mem hc)))).1
  text := by
    have hl := text_le xs y hy
    have hlow := text_low xs y hy
    generalize handTo y.hands (text0 xs) = T at hl hlow
    refine ⟨by omega, fun z hz => ?_⟩
    have h := split_mem _ _ z hz
    have hs := Txt.slice_le T (some (pL T)) (some (pR T))
    refine ⟨by omega, fun c hc => ?_⟩
    have := hlow c (slice_mem _ _ _ c (h.2 c hc))
    omega
  ans := ans_all xs y hy
end Mine
end
section
open PySem PySem.W
namespace Mine
noncomputable abbrev RowOf : Type := Str → Str → Str → Str → Str → Str → Str → Str → Str → Str → Str → Str → Str → Str → Str → Str → Str → Str → Str → Str → Str → Str → Str → Str → Str → Str → Str → Str → Str → Str → Str → Str → Str → Str → Str → Str → Str → Str → Str → Str → Str → Str → Str → Str → Str → Str → Str → Str → Str → Str → Str → Str → Str → Str → Str → Str → Str → Str → Str → Str → Str → Str → Str → Str → Str → Str → Str → Str → Str → Str → Str → Str → Str → Str → Str → Str → Str → Str → OpenLaw
structure IsRow (F : RowOf) : Prop where
  eq : PySem.Challenge.rw_tr0051_01 = F (Str.ofString "resp") (Str.ofString "peer") (Str.ofString "left") (Str.ofString "right") (Str.ofString "parts") (Str.ofString "host") (Str.ofString "port") (Str.ofString "error_reply") (Str.ofString "error_proto") (Str.ofString "len") (Str.ofString "int") (Str.ofString "data") (Str.ofString "_twin_re_1") (Str.ofString "_twin_re_2") (Str.ofString "CRLF") (Str.ofString "code") (Str.ofString "ord") (Str.ofString "b1_set") (Str.ofString "r") (Str.ofString "b3_exceptions") (Str.ofString "k") (Str.ofString "codes") (Str.ofString "chr") (Str.ofString "list") (Str.ofString "range") (Str.ofString ".0") (Str.ofString "figure") (Str.ofString "numbers") (Str.ofString "signs") (Str.ofString "place") (Str.ofString "n") (Str.ofString "kind") (Str.ofString "body") (Str.ofString "_law_unseen") (Str.ofString "str") (Str.ofString "fast") (Str.ofString "sent") (Str.ofString "seen") (Str.ofString "prepared") (Str.ofString "told") (Str.ofString "ahead") (Str.ofString "sign") (Str.ofString "fold") (Str.ofString "behind_end") (Str.ofString "inner") (Str.ofString "marks") (Str.ofString "figures") (Str.ofString "text") (Str.ofString "error") (Str.ofString "parse229") (Str.ofString "ValueError") (Str.ofString "in_table_b1") (Str.ofString "map_table_b3") (Str.ofString "hand") (Str.ofString "quotedata") (Str.ofString "x") (Str.ofString "script") (Str.ofString "total") (Str.ofString "extra") (Str.ofString "lack") (Str.ofString "head") (Str.ofString "closing") (Str.ofString "spoiled") (Str.ofString "ways") (Str.ofString "hands") (Str.ofString "due") (Str.ofString "sum") (Str.ofString "_law_signs") (Str.ofString "_law_hand") (Str.ofString "_law_told") (Str.ofString "_law_due") (Str.ofString "_law_asked") (Str.ofString "_sre") (Str.ofString "__name__") (Str.ofString "Error") (Str.ofString "Exception") (Str.ofString "set") (Str.ofString "law")
noncomputable def rowS : {F : RowOf // IsRow F} := ⟨_, ⟨by
  delta PySem.Challenge.rw_tr0051_01 PySem.Challenge.pw_tr0051_01
  generalize Str.ofString "resp" = a0
  generalize Str.ofString "peer" = a1
  generalize Str.ofString "left" = a2
  generalize Str.ofString "right" = a3
  generalize Str.ofString "parts" = a4
  generalize Str.ofString "host" = a5
  generalize Str.ofString "port" = a6
  generalize Str.ofString "error_reply" = a7
  generalize Str.ofString "error_proto" = a8
  generalize Str.ofString "len" = a9
  generalize Str.ofString "int" = a10
  generalize Str.ofString "data" = a11
  generalize Str.ofString "_twin_re_1" = a12
  generalize Str.ofString "_twin_re_2" = a13
  generalize Str.ofString "CRLF" = a14
  generalize Str.ofString "code" = a15
  generalize Str.ofString "ord" = a16
  generalize Str.ofString "b1_set" = a17
  generalize Str.ofString "r" = a18
  generalize Str.ofString "b3_exceptions" = a19
  generalize Str.ofString "k" = a20
  generalize Str.ofString "codes" = a21
  generalize Str.ofString "chr" = a22
  generalize Str.ofString "list" = a23
  generalize Str.ofString "range" = a24
  generalize Str.ofString ".0" = a25
  generalize Str.ofString "figure" = a26
  generalize Str.ofString "numbers" = a27
  generalize Str.ofString "signs" = a28
  generalize Str.ofString "place" = a29
  generalize Str.ofString "n" = a30
  generalize Str.ofString "kind" = a31
  generalize Str.ofString "body" = a32
  generalize Str.ofString "_law_unseen" = a33
  generalize Str.ofString "str" = a34
  generalize Str.ofString "fast" = a35
  generalize Str.ofString "sent" = a36
  generalize Str.ofString "seen" = a37
  generalize Str.ofString "prepared" = a38
  generalize Str.ofString "told" = a39
  generalize Str.ofString "ahead" = a40
  generalize Str.ofString "sign" = a41
  generalize Str.ofString "fold" = a42
  generalize Str.ofString "behind_end" = a43
  generalize Str.ofString "inner" = a44
  generalize Str.ofString "marks" = a45
  generalize Str.ofString "figures" = a46
  generalize Str.ofString "text" = a47
  generalize Str.ofString "error" = a48
  generalize Str.ofString "parse229" = a49
  generalize Str.ofString "ValueError" = a50
  generalize Str.ofString "in_table_b1" = a51
  generalize Str.ofString "map_table_b3" = a52
  generalize Str.ofString "hand" = a53
  generalize Str.ofString "quotedata" = a54
  generalize Str.ofString "x" = a55
  generalize Str.ofString "script" = a56
  generalize Str.ofString "total" = a57
  generalize Str.ofString "extra" = a58
  generalize Str.ofString "lack" = a59
  generalize Str.ofString "head" = a60
  generalize Str.ofString "closing" = a61
  generalize Str.ofString "spoiled" = a62
  generalize Str.ofString "ways" = a63
  generalize Str.ofString "hands" = a64
  generalize Str.ofString "due" = a65
  generalize Str.ofString "sum" = a66
  generalize Str.ofString "_law_signs" = a67
  generalize Str.ofString "_law_hand" = a68
  generalize Str.ofString "_law_told" = a69
  generalize Str.ofString "_law_due" = a70
  generalize Str.ofString "_law_asked" = a71
  generalize Str.ofString "_sre" = a72
  generalize Str.ofString "__name__" = a73
  generalize Str.ofString "Error" = a74
  generalize Str.ofString "Exception" = a75
  generalize Str.ofString "set" = a76
  generalize Str.ofString "law" = a77
  exact rfl⟩⟩
noncomputable def rowQ : OpenLaw := rowS.1 ⟨⟨[114,101,115,112]⟩⟩ ⟨⟨[112,101,101,114]⟩⟩ ⟨⟨[108,101,102,116]⟩⟩ ⟨⟨[114,105,103,104,116]⟩⟩ ⟨⟨[112,97,114,116,115]⟩⟩ ⟨⟨[104,111,115,116]⟩⟩ ⟨⟨[112,111,114,116]⟩⟩ ⟨⟨[101,114,114,111,114,95,114,101,112,108,121]⟩⟩ ⟨⟨[101,114,114,111,114,95,112,114,111,116,111]⟩⟩ ⟨⟨[108,101,110]⟩⟩ ⟨⟨[105,110,116]⟩⟩ ⟨⟨[100,97,116,97]⟩⟩ ⟨⟨[95,116,119,105,110,95,114,101,95,49]⟩⟩ ⟨⟨[95,116,119,105,110,95,114,101,95,50]⟩⟩ ⟨⟨[67,82,76,70]⟩⟩ ⟨⟨[99,111,100,101]⟩⟩ ⟨⟨[111,114,100]⟩⟩ ⟨⟨[98,49,95,115,101,116]⟩⟩ ⟨⟨[114]⟩⟩ ⟨⟨[98,51,95,101,120,99,101,112,116,105,111,110,115]⟩⟩ ⟨⟨[107]⟩⟩ ⟨⟨[99,111,100,101,115]⟩⟩ ⟨⟨[99,104,114]⟩⟩ ⟨⟨[108,105,115,116]⟩⟩ ⟨⟨[114,97,110,103,101]⟩⟩ ⟨⟨[46,48]⟩⟩ ⟨⟨[102,105,103,117,114,101]⟩⟩ ⟨⟨[110,117,109,98,101,114,115]⟩⟩ ⟨⟨[115,105,103,110,115]⟩⟩ ⟨⟨[112,108,97,99,101]⟩⟩ ⟨⟨[110]⟩⟩ ⟨⟨[107,105,110,100]⟩⟩ ⟨⟨[98,111,100,121]⟩⟩ ⟨⟨[95,108,97,119,95,117,110,115,101,101,110]⟩⟩ ⟨⟨[115,116,114]⟩⟩ ⟨⟨[102,97,115,116]⟩⟩ ⟨⟨[115,101,110,116]⟩⟩ ⟨⟨[115,101,101,110]⟩⟩ ⟨⟨[112,114,101,112,97,114,101,100]⟩⟩ ⟨⟨[116,111,108,100]⟩⟩ ⟨⟨[97,104,101,97,100]⟩⟩ ⟨⟨[115,105,103,110]⟩⟩ ⟨⟨[102,111,108,100]⟩⟩ ⟨⟨[98,101,104,105,110,100,95,101,110,100]⟩⟩ ⟨⟨[105,110,110,101,114]⟩⟩ ⟨⟨[109,97,114,107,115]⟩⟩ ⟨⟨[102,105,103,117,114,101,115]⟩⟩ ⟨⟨[116,101,120,116]⟩⟩ ⟨⟨[101,114,114,111,114]⟩⟩ ⟨⟨[112,97,114,115,101,50,50,57]⟩⟩ ⟨⟨[86,97,108,117,101,69,114,114,111,114]⟩⟩ ⟨⟨[105,110,95,116,97,98,108,101,95,98,49]⟩⟩ ⟨⟨[109,97,112,95,116,97,98,108,101,95,98,51]⟩⟩ ⟨⟨[104,97,110,100]⟩⟩ ⟨⟨[113,117,111,116,101,100,97,116,97]⟩⟩ ⟨⟨[120]⟩⟩ ⟨⟨[115,99,114,105,112,116]⟩⟩ ⟨⟨[116,111,116,97,108]⟩⟩ ⟨⟨[101,120,116,114,97]⟩⟩ ⟨⟨[108,97,99,107]⟩⟩ ⟨⟨[104,101,97,100]⟩⟩ ⟨⟨[99,108,111,115,105,110,103]⟩⟩ ⟨⟨[115,112,111,105,108,101,100]⟩⟩ ⟨⟨[119,97,121,115]⟩⟩ ⟨⟨[104,97,110,100,115]⟩⟩ ⟨⟨[100,117,101]⟩⟩ ⟨⟨[115,117,109]⟩⟩ ⟨⟨[95,108,97,119,95,115,105,103,110,115]⟩⟩ ⟨⟨[95,108,97,119,95,104,97,110,100]⟩⟩ ⟨⟨[95,108,97,119,95,116,111,108,100]⟩⟩ ⟨⟨[95,108,97,119,95,100,117,101]⟩⟩ ⟨⟨[95,108,97,119,95,97,115,107,101,100]⟩⟩ ⟨⟨[95,115,114,101]⟩⟩ ⟨⟨[95,95,110,97,109,101,95,95]⟩⟩ ⟨⟨[69,114,114,111,114]⟩⟩ ⟨⟨[69,120,99,101,112,116,105,111,110]⟩⟩ ⟨⟨[115,101,116]⟩⟩ ⟨⟨[108,97,119]⟩⟩
theorem atom0 : Str.ofString "resp" = ⟨⟨[114,101,115,112]⟩⟩ := (PySem.W.Fast.ofString_ofList ['r', 'e', 's', 'p'])
theorem atom1 : Str.ofString "peer" = ⟨⟨[112,101,101,114]⟩⟩ := (PySem.W.Fast.ofString_ofList ['p', 'e', 'e', 'r'])
theorem atom2 : Str.ofString "left" = ⟨⟨[108,101,102,116]⟩⟩ := (PySem.W.Fast.ofString_ofList ['l', 'e', 'f', 't'])
theorem atom3 : Str.ofString "right" = ⟨⟨[114,105,103,104,116]⟩⟩ := (PySem.W.Fast.ofString_ofList ['r', 'i', 'g', 'h', 't'])
theorem atom4 : Str.ofString "parts" = ⟨⟨[112,97,114,116,115]⟩⟩ := (PySem.W.Fast.ofString_ofList ['p', 'a', 'r', 't', 's'])
theorem atom5 : Str.ofString "host" = ⟨⟨[104,111,115,116]⟩⟩ := (PySem.W.Fast.ofString_ofList ['h', 'o', 's', 't'])
theorem atom6 : Str.ofString "port" = ⟨⟨[112,111,114,116]⟩⟩ := (PySem.W.Fast.ofString_ofList ['p', 'o', 'r', 't'])
theorem atom7 : Str.ofString "error_reply" = ⟨⟨[101,114,114,111,114,95,114,101,112,108,121]⟩⟩ := (PySem.W.Fast.ofString_ofList ['e', 'r', 'r', 'o', 'r', '_', 'r', 'e', 'p', 'l', 'y'])
theorem atom8 : Str.ofString "error_proto" = ⟨⟨[101,114,114,111,114,95,112,114,111,116,111]⟩⟩ := (PySem.W.Fast.ofString_ofList ['e', 'r', 'r', 'o', 'r', '_', 'p', 'r', 'o', 't', 'o'])
theorem atom9 : Str.ofString "len" = ⟨⟨[108,101,110]⟩⟩ := (PySem.W.Fast.ofString_ofList ['l', 'e', 'n'])
theorem atom10 : Str.ofString "int" = ⟨⟨[105,110,116]⟩⟩ := (PySem.W.Fast.ofString_ofList ['i', 'n', 't'])
theorem atom11 : Str.ofString "data" = ⟨⟨[100,97,116,97]⟩⟩ := (PySem.W.Fast.ofString_ofList ['d', 'a', 't', 'a'])
theorem atom12 : Str.ofString "_twin_re_1" = ⟨⟨[95,116,119,105,110,95,114,101,95,49]⟩⟩ := (PySem.W.Fast.ofString_ofList ['_', 't', 'w', 'i', 'n', '_', 'r', 'e', '_', '1'])
theorem atom13 : Str.ofString "_twin_re_2" = ⟨⟨[95,116,119,105,110,95,114,101,95,50]⟩⟩ := (PySem.W.Fast.ofString_ofList ['_', 't', 'w', 'i', 'n', '_', 'r', 'e', '_', '2'])
theorem atom14 : Str.ofString "CRLF" = ⟨⟨[67,82,76,70]⟩⟩ := (PySem.W.Fast.ofString_ofList ['C', 'R', 'L', 'F'])
theorem atom15 : Str.ofString "code" = ⟨⟨[99,111,100,101]⟩⟩ := (PySem.W.Fast.ofString_ofList ['c', 'o', 'd', 'e'])
theorem atom16 : Str.ofString "ord" = ⟨⟨[111,114,100]⟩⟩ := (PySem.W.Fast.ofString_ofList ['o', 'r', 'd'])
theorem atom17 : Str.ofString "b1_set" = ⟨⟨[98,49,95,115,101,116]⟩⟩ := (PySem.W.Fast.ofString_ofList ['b', '1', '_', 's', 'e', 't'])
theorem atom18 : Str.ofString "r" = ⟨⟨[114]⟩⟩ := (PySem.W.Fast.ofString_ofList ['r'])
theorem atom19 : Str.ofString "b3_exceptions" = ⟨⟨[98,51,95,101,120,99,101,112,116,105,111,110,115]⟩⟩ := (PySem.W.Fast.ofString_ofList ['b', '3', '_', 'e', 'x', 'c', 'e', 'p', 't', 'i', 'o', 'n', 's'])
theorem atom20 : Str.ofString "k" = ⟨⟨[107]⟩⟩ := (PySem.W.Fast.ofString_ofList ['k'])
theorem atom21 : Str.ofString "codes" = ⟨⟨[99,111,100,101,115]⟩⟩ := (PySem.W.Fast.ofString_ofList ['c', 'o', 'd', 'e', 's'])
theorem atom22 : Str.ofString "chr" = ⟨⟨[99,104,114]⟩⟩ := (PySem.W.Fast.ofString_ofList ['c', 'h', 'r'])
theorem atom23 : Str.ofString "list" = ⟨⟨[108,105,115,116]⟩⟩ := (PySem.W.Fast.ofString_ofList ['l', 'i', 's', 't'])
theorem atom24 : Str.ofString "range" = ⟨⟨[114,97,110,103,101]⟩⟩ := (PySem.W.Fast.ofString_ofList ['r', 'a', 'n', 'g', 'e'])
theorem atom25 : Str.ofString ".0" = ⟨⟨[46,48]⟩⟩ := (PySem.W.Fast.ofString_ofList ['.', '0'])
theorem atom26 : Str.ofString "figure" = ⟨⟨[102,105,103,117,114,101]⟩⟩ := (PySem.W.Fast.ofString_ofList ['f', 'i', 'g', 'u', 'r', 'e'])
theorem atom27 : Str.ofString "numbers" = ⟨⟨[110,117,109,98,101,114,115]⟩⟩ := (PySem.W.Fast.ofString_ofList ['n', 'u', 'm', 'b', 'e', 'r', 's'])
theorem atom28 : Str.ofString "signs" = ⟨⟨[115,105,103,110,115]⟩⟩ := (PySem.W.Fast.ofString_ofList ['s', 'i', 'g', 'n', 's'])
theorem atom29 : Str.ofString "place" = ⟨⟨[112,108,97,99,101]⟩⟩ := (PySem.W.Fast.ofString_ofList ['p', 'l', 'a', 'c', 'e'])
theorem atom30 : Str.ofString "n" = ⟨⟨[110]⟩⟩ := (PySem.W.Fast.ofString_ofList ['n'])
theorem atom31 : Str.ofString "kind" = ⟨⟨[107,105,110,100]⟩⟩ := (PySem.W.Fast.ofString_ofList ['k', 'i', 'n', 'd'])
theorem atom32 : Str.ofString "body" = ⟨⟨[98,111,100,121]⟩⟩ := (PySem.W.Fast.ofString_ofList ['b', 'o', 'd', 'y'])
theorem atom33 : Str.ofString "_law_unseen" = ⟨⟨[95,108,97,119,95,117,110,115,101,101,110]⟩⟩ := (PySem.W.Fast.ofString_ofList ['_', 'l', 'a', 'w', '_', 'u', 'n', 's', 'e', 'e', 'n'])
theorem atom34 : Str.ofString "str" = ⟨⟨[115,116,114]⟩⟩ := (PySem.W.Fast.ofString_ofList ['s', 't', 'r'])
theorem atom35 : Str.ofString "fast" = ⟨⟨[102,97,115,116]⟩⟩ := (PySem.W.Fast.ofString_ofList ['f', 'a', 's', 't'])
theorem atom36 : Str.ofString "sent" = ⟨⟨[115,101,110,116]⟩⟩ := (PySem.W.Fast.ofString_ofList ['s', 'e', 'n', 't'])
theorem atom37 : Str.ofString "seen" = ⟨⟨[115,101,101,110]⟩⟩ := (PySem.W.Fast.ofString_ofList ['s', 'e', 'e', 'n'])
theorem atom38 : Str.ofString "prepared" = ⟨⟨[112,114,101,112,97,114,101,100]⟩⟩ := (PySem.W.Fast.ofString_ofList ['p', 'r', 'e', 'p', 'a', 'r', 'e', 'd'])
theorem atom39 : Str.ofString "told" = ⟨⟨[116,111,108,100]⟩⟩ := (PySem.W.Fast.ofString_ofList ['t', 'o', 'l', 'd'])
theorem atom40 : Str.ofString "ahead" = ⟨⟨[97,104,101,97,100]⟩⟩ := (PySem.W.Fast.ofString_ofList ['a', 'h', 'e', 'a', 'd'])
theorem atom41 : Str.ofString "sign" = ⟨⟨[115,105,103,110]⟩⟩ := (PySem.W.Fast.ofString_ofList ['s', 'i', 'g', 'n'])
theorem atom42 : Str.ofString "fold" = ⟨⟨[102,111,108,100]⟩⟩ := (PySem.W.Fast.ofString_ofList ['f', 'o', 'l', 'd'])
theorem atom43 : Str.ofString "behind_end" = ⟨⟨[98,101,104,105,110,100,95,101,110,100]⟩⟩ := (PySem.W.Fast.ofString_ofList ['b', 'e', 'h', 'i', 'n', 'd', '_', 'e', 'n', 'd'])
theorem atom44 : Str.ofString "inner" = ⟨⟨[105,110,110,101,114]⟩⟩ := (PySem.W.Fast.ofString_ofList ['i', 'n', 'n', 'e', 'r'])
theorem atom45 : Str.ofString "marks" = ⟨⟨[109,97,114,107,115]⟩⟩ := (PySem.W.Fast.ofString_ofList ['m', 'a', 'r', 'k', 's'])
theorem atom46 : Str.ofString "figures" = ⟨⟨[102,105,103,117,114,101,115]⟩⟩ := (PySem.W.Fast.ofString_ofList ['f', 'i', 'g', 'u', 'r', 'e', 's'])
theorem atom47 : Str.ofString "text" = ⟨⟨[116,101,120,116]⟩⟩ := (PySem.W.Fast.ofString_ofList ['t', 'e', 'x', 't'])
theorem atom48 : Str.ofString "error" = ⟨⟨[101,114,114,111,114]⟩⟩ := (PySem.W.Fast.ofString_ofList ['e', 'r', 'r', 'o', 'r'])
theorem atom49 : Str.ofString "parse229" = ⟨⟨[112,97,114,115,101,50,50,57]⟩⟩ := (PySem.W.Fast.ofString_ofList ['p', 'a', 'r', 's', 'e', '2', '2', '9'])
theorem atom50 : Str.ofString "ValueError" = ⟨⟨[86,97,108,117,101,69,114,114,111,114]⟩⟩ := (PySem.W.Fast.ofString_ofList ['V', 'a', 'l', 'u', 'e', 'E', 'r', 'r', 'o', 'r'])
theorem atom51 : Str.ofString "in_table_b1" = ⟨⟨[105,110,95,116,97,98,108,101,95,98,49]⟩⟩ := (PySem.W.Fast.ofString_ofList ['i', 'n', '_', 't', 'a', 'b', 'l', 'e', '_', 'b', '1'])
theorem atom52 : Str.ofString "map_table_b3" = ⟨⟨[109,97,112,95,116,97,98,108,101,95,98,51]⟩⟩ := (PySem.W.Fast.ofString_ofList ['m', 'a', 'p', '_', 't', 'a', 'b', 'l', 'e', '_', 'b', '3'])
theorem atom53 : Str.ofString "hand" = ⟨⟨[104,97,110,100]⟩⟩ := (PySem.W.Fast.ofString_ofList ['h', 'a', 'n', 'd'])
theorem atom54 : Str.ofString "quotedata" = ⟨⟨[113,117,111,116,101,100,97,116,97]⟩⟩ := (PySem.W.Fast.ofString_ofList ['q', 'u', 'o', 't', 'e', 'd', 'a', 't', 'a'])
theorem atom55 : Str.ofString "x" = ⟨⟨[120]⟩⟩ := (PySem.W.Fast.ofString_ofList ['x'])
theorem atom56 : Str.ofString "script" = ⟨⟨[115,99,114,105,112,116]⟩⟩ := (PySem.W.Fast.ofString_ofList ['s', 'c', 'r', 'i', 'p', 't'])
theorem atom57 : Str.ofString "total" = ⟨⟨[116,111,116,97,108]⟩⟩ := (PySem.W.Fast.ofString_ofList ['t', 'o', 't', 'a', 'l'])
theorem atom58 : Str.ofString "extra" = ⟨⟨[101,120,116,114,97]⟩⟩ := (PySem.W.Fast.ofString_ofList ['e', 'x', 't', 'r', 'a'])
theorem atom59 : Str.ofString "lack" = ⟨⟨[108,97,99,107]⟩⟩ := (PySem.W.Fast.ofString_ofList ['l', 'a', 'c', 'k'])
theorem atom60 : Str.ofString "head" = ⟨⟨[104,101,97,100]⟩⟩ := (PySem.W.Fast.ofString_ofList ['h', 'e', 'a', 'd'])
theorem atom61 : Str.ofString "closing" = ⟨⟨[99,108,111,115,105,110,103]⟩⟩ := (PySem.W.Fast.ofString_ofList ['c', 'l', 'o', 's', 'i', 'n', 'g'])
theorem atom62 : Str.ofString "spoiled" = ⟨⟨[115,112,111,105,108,101,100]⟩⟩ := (PySem.W.Fast.ofString_ofList ['s', 'p', 'o', 'i', 'l', 'e', 'd'])
theorem atom63 : Str.ofString "ways" = ⟨⟨[119,97,121,115]⟩⟩ := (PySem.W.Fast.ofString_ofList ['w', 'a', 'y', 's'])
theorem atom64 : Str.ofString "hands" = ⟨⟨[104,97,110,100,115]⟩⟩ := (PySem.W.Fast.ofString_ofList ['h', 'a', 'n', 'd', 's'])
theorem atom65 : Str.ofString "due" = ⟨⟨[100,117,101]⟩⟩ := (PySem.W.Fast.ofString_ofList ['d', 'u', 'e'])
theorem atom66 : Str.ofString "sum" = ⟨⟨[115,117,109]⟩⟩ := (PySem.W.Fast.ofString_ofList ['s', 'u', 'm'])
theorem atom67 : Str.ofString "_law_signs" = ⟨⟨[95,108,97,119,95,115,105,103,110,115]⟩⟩ := (PySem.W.Fast.ofString_ofList ['_', 'l', 'a', 'w', '_', 's', 'i', 'g', 'n', 's'])
theorem atom68 : Str.ofString "_law_hand" = ⟨⟨[95,108,97,119,95,104,97,110,100]⟩⟩ := (PySem.W.Fast.ofString_ofList ['_', 'l', 'a', 'w', '_', 'h', 'a', 'n', 'd'])
theorem atom69 : Str.ofString "_law_told" = ⟨⟨[95,108,97,119,95,116,111,108,100]⟩⟩ := (PySem.W.Fast.ofString_ofList ['_', 'l', 'a', 'w', '_', 't', 'o', 'l', 'd'])
theorem atom70 : Str.ofString "_law_due" = ⟨⟨[95,108,97,119,95,100,117,101]⟩⟩ := (PySem.W.Fast.ofString_ofList ['_', 'l', 'a', 'w', '_', 'd', 'u', 'e'])
theorem atom71 : Str.ofString "_law_asked" = ⟨⟨[95,108,97,119,95,97,115,107,101,100]⟩⟩ := (PySem.W.Fast.ofString_ofList ['_', 'l', 'a', 'w', '_', 'a', 's', 'k', 'e', 'd'])
theorem atom72 : Str.ofString "_sre" = ⟨⟨[95,115,114,101]⟩⟩ := (PySem.W.Fast.ofString_ofList ['_', 's', 'r', 'e'])
theorem atom73 : Str.ofString "__name__" = ⟨⟨[95,95,110,97,109,101,95,95]⟩⟩ := (PySem.W.Fast.ofString_ofList ['_', '_', 'n', 'a', 'm', 'e', '_', '_'])
theorem atom74 : Str.ofString "Error" = ⟨⟨[69,114,114,111,114]⟩⟩ := (PySem.W.Fast.ofString_ofList ['E', 'r', 'r', 'o', 'r'])
theorem atom75 : Str.ofString "Exception" = ⟨⟨[69,120,99,101,112,116,105,111,110]⟩⟩ := (PySem.W.Fast.ofString_ofList ['E', 'x', 'c', 'e', 'p', 't', 'i', 'o', 'n'])
theorem atom76 : Str.ofString "set" = ⟨⟨[115,101,116]⟩⟩ := (PySem.W.Fast.ofString_ofList ['s', 'e', 't'])
theorem atom77 : Str.ofString "law" = ⟨⟨[108,97,119]⟩⟩ := (PySem.W.Fast.ofString_ofList ['l', 'a', 'w'])
theorem rowQ_eq : PySem.Challenge.rw_tr0051_01 = rowQ := rowS.2.eq.trans (congr (congr (congr (congr (congr (congr (congr (congr (congr (congr (congr (congr (congr (congr (congr (congr (congr (congr (congr (congr (congr (congr (congr (congr (congr (congr (congr (congr (congr (congr (congr (congr (congr (congr (congr (congr (congr (congr (congr (congr (congr (congr (congr (congr (congr (congr (congr (congr (congr (congr (congr (congr (congr (congr (congr (congr (congr (congr (congr (congr (congr (congr (congr (congr (congr (congr (congr (congr (congr (congr (congr (congr (congr (congr (congr (congr (congr (congr rfl atom0) atom1) atom2) atom3) atom4) atom5) atom6) atom7) atom8) atom9) atom10) atom11) atom12) atom13) atom14) atom15) atom16) atom17) atom18) atom19) atom20) atom21) atom22) atom23) atom24) atom25) atom26) atom27) atom28) atom29) atom30) atom31) atom32) atom33) atom34) atom35) atom36) atom37) atom38) atom39) atom40) atom41) atom42) atom43) atom44) atom45) atom46) atom47) atom48) atom49) atom50) atom51) atom52) atom53) atom54) atom55) atom56) atom57) atom58) atom59) atom60) atom61) atom62) atom63) atom64) atom65) atom66) atom67) atom68) atom69) atom70) atom71) atom72) atom73) atom74) atom75) atom76) atom77)
end Mine
end
section
open PySem PySem.W PySem.Calls PyProof.Rows
namespace Mine
theorem fill_join : (K = K ∧ PySem.Challenge.rw_tr0051_01 = PySem.Challenge.rw_tr0051_01) → True := by
  k_fill
  intro _
  trivial
theorem law_end {c : ClaimW} {cl : Str → Option Addr} {mean : ExcName → Option Value} {args : List WData} {s₁ : Shared} {h' : Heap} {tk' : Nat} (st : s₁.heap.StaysIn h') (hg : s₁.gens = #[]) (hn : ∀ cls, c.raises args cls = false) (hp : c.post args (.bool true) args = true) :
    GoodWG c cl mean args s₁ (.ok (.ret (.bool true))) { s₁ with heap := h', toks := tk' } := GoodW.toG ⟨.inl ⟨_, .bool true, [], rfl, hn, .bool true, hp, unshared_nil⟩, st, rfl, hg⟩
theorem no_raise (args : List WData) : ∀ cls, PySem.Challenge.rw_tr0051_01.row.claim.raises args cls = false := by
  refine raisesW_false ?_
  wrow_none_raised
theorem post_true (zs : List Int) : PySem.Challenge.rw_tr0051_01.row.claim.post [ofPy (PyData.list (List.map PyData.int zs))] (WData.bool true) [ofPy (PyData.list (List.map PyData.int zs))] = true := by
  wrow_post
theorem law_goal {w : World} {mean : ExcName → Option Value} {mg mb : Str → Option Value} {s₁ : Shared} {fa Lx : Addr} {us : List Value} {zs : List Int} {Q E : Value → Shared → Prop} (KX : (K w.params).In s₁.heap) (T : TopK mean mg mb s₁.heap)
    (hmg : mg (Str.ofString "law") = some (.ref fa)) (hL : s₁.heap.IsList Lx us.toArray) (hI : IntsAre us zs) (hlen : zs.length ≤ 63) (hret : ∀ h' tk', s₁.heap.StaysIn h' → Q (.bool true) { s₁ with heap := h', toks := tk' }) :
    wpC (MM w) callerA (call (.ref fa) [.ref Lx]) Q E s₁ := by
  have hfa : fa = 197 := by
    have h1 := mg_of (v := .ref 197) KX T.g (n := Str.ofString "law") (by k_is)
    rw [h1] at hmg
    injection hmg with h2
    injection h2 with h2
    exact h2.symm
  subst hfa
  exact law_walk Lx us zs hI hlen s₁ _ _ KX T hL (below_caller _) (plain zs) hret
set_option maxHeartbeats 4000000 in
theorem of_law : PySem.Challenge.rw_tr0051_01.Holds := by
  rw [rowQ_eq]
  w_on
  o_law
  rw [← rowQ_eq]
  refine holds_C (q := qv) (loose := qLoose) (Xt := fun s => xlAt qv [] s && recOk [] s) (XP := XL qv []) (Yf := Hook.obs (kHook K Kas K_as)) (Ya := Hook.val (kHook K Kas K_as)) (YP := Hook.says (kHook K Kas K_as)) (N := 20000) ?hl (Hook.of (kHook K Kas K_as)) (Hook.keeps (kHook K Kas K_as)) (fun s e => xl_of s (Bool.and_eq_true_iff.mp e).1) XL.keeps (by rfl) (by rfl) (by rfl) (fun s e => recFacts_of (Bool.and_eq_true_iff.mp e).2) (by rfl) (by first | assumption | decide +kernel) (by decide +kernel) ⟨rfl, rfl, rfl, rfl, rfl, by decide +kernel⟩ ?hw ?hc
  case hl => exact left
  case hw => w_witness2
  intro w s₀ s₁ mg mb G Y fa o pm cd doc dV kV ho hd hcd hD hmg hg args vals as hpre hlay hrd hwl hlo
  have KX := kIn_of Y
  have X := (Ground.X G).1
  have V := (Ground.X G).2
  refine Ground.open G ?_
  intro T B D TE TW
  try (refine guard_noD D (by decide +kernel) ?_; clear D)
  wrow_args hpre hlay hrd hwl hlo
  rename_i zs hs hlay0 hL1 hr1 hl2 as1 as2 Lx us as3 hL ra w1 r0 hI hr hc1 hc2
  have hlen : zs.length ≤ 63 := Nat.not_lt.mp fun h => hc1 (Int.ofNat_lt.mpr h)
  exact law_goal KX T hmg hL hI hlen fun h' tk' st => law_end st hg (no_raise _) (post_true _)
end Mine
end
theorem PySem.Challenge.cw_tr0051_01_holds : PySem.Challenge.rw_tr0051_01.Holds := by
  exact Mine.of_law
