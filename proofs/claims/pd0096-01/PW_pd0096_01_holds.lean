import PyProof.Rows.All
import Wide.All
import OpenK.AllK
import Wide.FinOn
import PySem.Challenge.RW_pd0096_01
set_option rowWalk.seconds 0
open PySem PySem.W PyProof.Rows
set_option Elab.async false
set_option maxRecDepth 100000
set_option linter.unusedVariables false
namespace Mine
noncomputable section
@[reducible] def de (P : Params) (x : Str) (t : Nat) (v : Value) : DictEntry := ⟨PyData.keyHash P x, .str x t, v⟩
noncomputable def hd (d : Nat) : Nat := bif Nat.blt d 10 then Nat.add 48 d else Nat.add 55 d
noncomputable def hx (k : Nat) : Str := ⟨⟨[61, hd (k / 16), hd (k % 16)]⟩⟩
noncomputable def q (k : Nat) : Value := .str (hx k) (Nat.add 325 (Nat.mul 4 k))
noncomputable def h (c t : Nat) : Value := .str ⟨⟨[c]⟩⟩ t
noncomputable def fnOf (p : Program) (i : Nat) : Arguments × List Stmt × Scope := match p.main.body[i]? with
  | some (.FunctionDef _ a b _ _ _ s _ _ _) => (a, b, s)
  | _ => (⟨[], [], none, [], [], none, []⟩, [], ⟨.function, [], false, false, []⟩)
noncomputable def fa15 : Arguments := (fnOf PySem.Challenge.pw_pd0096_01 15).1
noncomputable def fb15 : List Stmt := (fnOf PySem.Challenge.pw_pd0096_01 15).2.1
noncomputable def fs15 : Scope := (fnOf PySem.Challenge.pw_pd0096_01 15).2.2
noncomputable def fa16 : Arguments := (fnOf PySem.Challenge.pw_pd0096_01 16).1
noncomputable def fb16 : List Stmt := (fnOf PySem.Challenge.pw_pd0096_01 16).2.1
noncomputable def fs16 : Scope := (fnOf PySem.Challenge.pw_pd0096_01 16).2.2
noncomputable def fa17 : Arguments := (fnOf PySem.Challenge.pw_pd0096_01 17).1
noncomputable def fb17 : List Stmt := (fnOf PySem.Challenge.pw_pd0096_01 17).2.1
noncomputable def fs17 : Scope := (fnOf PySem.Challenge.pw_pd0096_01 17).2.2
noncomputable def fa18 : Arguments := (fnOf PySem.Challenge.pw_pd0096_01 18).1
noncomputable def fb18 : List Stmt := (fnOf PySem.Challenge.pw_pd0096_01 18).2.1
noncomputable def fs18 : Scope := (fnOf PySem.Challenge.pw_pd0096_01 18).2.2
noncomputable def fa19 : Arguments := (fnOf PySem.Challenge.pw_pd0096_01 19).1
noncomputable def fb19 : List Stmt := (fnOf PySem.Challenge.pw_pd0096_01 19).2.1
noncomputable def fs19 : Scope := (fnOf PySem.Challenge.pw_pd0096_01 19).2.2
noncomputable def fa23 : Arguments := (fnOf PySem.Challenge.pw_pd0096_01 23).1
noncomputable def fb23 : List Stmt := (fnOf PySem.Challenge.pw_pd0096_01 23).2.1
noncomputable def fs23 : Scope := (fnOf PySem.Challenge.pw_pd0096_01 23).2.2
noncomputable def fa24 : Arguments := (fnOf PySem.Challenge.pw_pd0096_01 24).1
noncomputable def fb24 : List Stmt := (fnOf PySem.Challenge.pw_pd0096_01 24).2.1
noncomputable def fs24 : Scope := (fnOf PySem.Challenge.pw_pd0096_01 24).2.2
noncomputable def fa25 : Arguments := (fnOf PySem.Challenge.pw_pd0096_01 25).1
noncomputable def fb25 : List Stmt := (fnOf PySem.Challenge.pw_pd0096_01 25).2.1
noncomputable def fs25 : Scope := (fnOf PySem.Challenge.pw_pd0096_01 25).2.2
noncomputable def fa27 : Arguments := (fnOf PySem.Challenge.pw_pd0096_01 27).1
noncomputable def fb27 : List Stmt := (fnOf PySem.Challenge.pw_pd0096_01 27).2.1
noncomputable def fs27 : Scope := (fnOf PySem.Challenge.pw_pd0096_01 27).2.2
noncomputable def fa28 : Arguments := (fnOf PySem.Challenge.pw_pd0096_01 28).1
noncomputable def fb28 : List Stmt := (fnOf PySem.Challenge.pw_pd0096_01 28).2.1
noncomputable def fs28 : Scope := (fnOf PySem.Challenge.pw_pd0096_01 28).2.2
noncomputable def fa30 : Arguments := (fnOf PySem.Challenge.pw_pd0096_01 30).1
noncomputable def fb30 : List Stmt := (fnOf PySem.Challenge.pw_pd0096_01 30).2.1
noncomputable def fs30 : Scope := (fnOf PySem.Challenge.pw_pd0096_01 30).2.2
noncomputable def fa31 : Arguments := (fnOf PySem.Challenge.pw_pd0096_01 31).1
noncomputable def fb31 : List Stmt := (fnOf PySem.Challenge.pw_pd0096_01 31).2.1
noncomputable def fs31 : Scope := (fnOf PySem.Challenge.pw_pd0096_01 31).2.2
noncomputable def fa32 : Arguments := (fnOf PySem.Challenge.pw_pd0096_01 32).1
noncomputable def fb32 : List Stmt := (fnOf PySem.Challenge.pw_pd0096_01 32).2.1
noncomputable def fs32 : Scope := (fnOf PySem.Challenge.pw_pd0096_01 32).2.2
noncomputable def fa33 : Arguments := (fnOf PySem.Challenge.pw_pd0096_01 33).1
noncomputable def fb33 : List Stmt := (fnOf PySem.Challenge.pw_pd0096_01 33).2.1
noncomputable def fs33 : Scope := (fnOf PySem.Challenge.pw_pd0096_01 33).2.2
noncomputable def fa34 : Arguments := (fnOf PySem.Challenge.pw_pd0096_01 34).1
noncomputable def fb34 : List Stmt := (fnOf PySem.Challenge.pw_pd0096_01 34).2.1
noncomputable def fs34 : Scope := (fnOf PySem.Challenge.pw_pd0096_01 34).2.2
noncomputable def fa35 : Arguments := (fnOf PySem.Challenge.pw_pd0096_01 35).1
noncomputable def fb35 : List Stmt := (fnOf PySem.Challenge.pw_pd0096_01 35).2.1
noncomputable def fs35 : Scope := (fnOf PySem.Challenge.pw_pd0096_01 35).2.2
noncomputable def ql : List Value := [q 0, q 1, q 2, q 3, q 4, q 5, q 6, q 7, q 8, q 9, q 10, q 11, q 12, q 13, q 14, q 15, q 16, q 17, q 18, q 19, q 20, q 21, q 22, q 23, q 24, q 25, q 26, q 27, q 28, q 29, q 30, q 31, q 32, q 33, q 34, q 35, q 36, q 37, q 38, q 39, q 40, q 41, q 42, q 43, q 44, q 45, q 46, q 47, q 48, q 49, q 50, q 51, q 52, q 53, q 54, q 55, q 56, q 57, q 58, q 59, q 60, q 61, q 62, q 63, q 64, q 65, q 66, q 67, q 68, q 69, q 70, q 71, q 72, q 73, q 74, q 75, q 76, q 77, q 78, q 79, q 80, q 81, q 82, q 83, q 84, q 85, q 86, q 87, q 88, q 89, q 90, q 91, q 92, q 93, q 94, q 95, q 96, q 97, q 98, q 99, q 100, q 101, q 102, q 103, q 104, q 105, q 106, q 107, q 108, q 109, q 110, q 111, q 112, q 113, q 114, q 115, q 116, q 117, q 118, q 119, q 120, q 121, q 122, q 123, q 124, q 125, q 126, q 127, q 128, q 129, q 130, q 131, q 132, q 133, q 134, q 135, q 136, q 137, q 138, q 139, q 140, q 141, q 142, q 143, q 144, q 145, q 146, q 147, q 148, q 149, q 150, q 151, q 152, q 153, q 154, q 155, q 156, q 157, q 158, q 159, q 160, q 161, q 162, q 163, q 164, q 165, q 166, q 167, q 168, q 169, q 170, q 171, q 172, q 173, q 174, q 175, q 176, q 177, q 178, q 179, q 180, q 181, q 182, q 183, q 184, q 185, q 186, q 187, q 188, q 189, q 190, q 191, q 192, q 193, q 194, q 195, q 196, q 197, q 198, q 199, q 200, q 201, q 202, q 203, q 204, q 205, q 206, q 207, q 208, q 209, q 210, q 211, q 212, q 213, q 214, q 215, q 216, q 217, q 218, q 219, q 220, q 221, q 222, q 223, q 224, q 225, q 226, q 227, q 228, q 229, q 230, q 231, q 232, q 233, q 234, q 235, q 236, q 237, q 238, q 239, q 240, q 241, q 242, q 243, q 244, q 245, q 246, q 247, q 248, q 249, q 250, q 251, q 252, q 253, q 254, q 255]
noncomputable def o0a (P : Params) : List DictEntry := [de P "__name__" 1 (.str "builtins" 160), de P "__doc__" 2 (.builtin "builtins.__doc__:str#opaque"), de P "__package__" 3 (.builtin "builtins.__package__:str#opaque"), de P "__loader__" 4 (.builtin "builtins.__loader__:shared#opaque"), de P "__spec__" 5 (.builtin "builtins.__spec__#opaque"), de P "__build_class__" 6 (.builtin "__build_class__"), de P "__import__" 7 (.builtin "__import__"), de P "abs" 8 (.builtin "abs"), de P "all" 9 (.builtin "all"), de P "any" 10 (.builtin "any"), de P "ascii" 11 (.builtin "ascii"), de P "bin" 12 (.builtin "bin"), de P "breakpoint" 13 (.builtin "breakpoint"), de P "callable" 14 (.builtin "callable"), de P "chr" 15 (.builtin "chr"), de P "compile" 16 (.builtin "compile")]
noncomputable def o0b (P : Params) : List DictEntry := [de P "delattr" 17 (.builtin "delattr"), de P "dir" 18 (.builtin "dir"), de P "divmod" 19 (.builtin "divmod"), de P "eval" 20 (.builtin "eval"), de P "exec" 21 (.builtin "exec"), de P "format" 22 (.builtin "format"), de P "getattr" 23 (.builtin "getattr"), de P "globals" 24 (.builtin "globals"), de P "hasattr" 25 (.builtin "hasattr"), de P "hash" 26 (.builtin "hash"), de P "hex" 27 (.builtin "hex"), de P "id" 28 (.builtin "id"), de P "input" 29 (.builtin "input"), de P "isinstance" 30 (.builtin "isinstance"), de P "issubclass" 31 (.builtin "issubclass"), de P "iter" 32 (.builtin "iter")]
noncomputable def o0c (P : Params) : List DictEntry := [de P "aiter" 33 (.builtin "aiter"), de P "len" 34 (.builtin "len"), de P "locals" 35 (.builtin "locals"), de P "max" 36 (.builtin "max"), de P "min" 37 (.builtin "min"), de P "next" 38 (.builtin "next"), de P "anext" 39 (.builtin "anext"), de P "oct" 40 (.builtin "oct"), de P "ord" 41 (.builtin "ord"), de P "pow" 42 (.builtin "pow"), de P "print" 43 (.builtin "print"), de P "repr" 44 (.builtin "repr"), de P "round" 45 (.builtin "round"), de P "setattr" 46 (.builtin "setattr"), de P "sorted" 47 (.builtin "sorted"), de P "sum" 48 (.builtin "sum")]
noncomputable def o0d (P : Params) : List DictEntry := [de P "vars" 49 (.builtin "vars"), de P "None" 50 .none, de P "Ellipsis" 51 .ellipsis, de P "NotImplemented" 52 .notImplemented, de P "False" 53 (.bool false), de P "True" 54 (.bool true), de P "bool" 55 (.type "bool"), de P "memoryview" 56 (.type "memoryview"), de P "bytearray" 57 (.type "bytearray"), de P "bytes" 58 (.type "bytes"), de P "classmethod" 59 (.type "classmethod"), de P "complex" 60 (.type "complex"), de P "dict" 61 (.type "dict"), de P "enumerate" 62 (.type "enumerate"), de P "filter" 63 (.type "filter"), de P "float" 64 (.type "float")]
noncomputable def o0e (P : Params) : List DictEntry := [de P "frozenset" 65 (.type "frozenset"), de P "property" 66 (.type "property"), de P "int" 67 (.type "int"), de P "list" 68 (.type "list"), de P "map" 69 (.type "map"), de P "object" 70 (.type "object"), de P "range" 71 (.type "range"), de P "reversed" 72 (.type "reversed"), de P "set" 73 (.type "set"), de P "slice" 74 (.type "slice"), de P "staticmethod" 75 (.type "staticmethod"), de P "str" 76 (.type "str"), de P "super" 77 (.type "super"), de P "tuple" 78 (.type "tuple"), de P "type" 79 (.type "type"), de P "zip" 80 (.type "zip")]
noncomputable def o0f (P : Params) : List DictEntry := [de P "__debug__" 81 (.bool true), de P "BaseException" 82 (.type "BaseException"), de P "BaseExceptionGroup" 83 (.type "BaseExceptionGroup"), de P "Exception" 84 (.type "Exception"), de P "GeneratorExit" 85 (.type "GeneratorExit"), de P "KeyboardInterrupt" 86 (.type "KeyboardInterrupt"), de P "SystemExit" 87 (.type "SystemExit"), de P "ArithmeticError" 88 (.type "ArithmeticError"), de P "AssertionError" 89 (.type "AssertionError"), de P "AttributeError" 90 (.type "AttributeError"), de P "BufferError" 91 (.type "BufferError"), de P "EOFError" 92 (.type "EOFError"), de P "ImportError" 93 (.type "ImportError"), de P "LookupError" 94 (.type "LookupError"), de P "MemoryError" 95 (.type "MemoryError"), de P "NameError" 96 (.type "NameError")]
noncomputable def o0g (P : Params) : List DictEntry := [de P "OSError" 97 (.type "OSError"), de P "ReferenceError" 98 (.type "ReferenceError"), de P "RuntimeError" 99 (.type "RuntimeError"), de P "StopAsyncIteration" 100 (.type "StopAsyncIteration"), de P "StopIteration" 101 (.type "StopIteration"), de P "SyntaxError" 102 (.type "SyntaxError"), de P "SystemError" 103 (.type "SystemError"), de P "TypeError" 104 (.type "TypeError"), de P "ValueError" 105 (.type "ValueError"), de P "Warning" 106 (.type "Warning"), de P "FloatingPointError" 107 (.type "FloatingPointError"), de P "OverflowError" 108 (.type "OverflowError"), de P "ZeroDivisionError" 109 (.type "ZeroDivisionError"), de P "BytesWarning" 110 (.type "BytesWarning"), de P "DeprecationWarning" 111 (.type "DeprecationWarning"), de P "EncodingWarning" 112 (.type "EncodingWarning")]
noncomputable def o0h (P : Params) : List DictEntry := [de P "FutureWarning" 113 (.type "FutureWarning"), de P "ImportWarning" 114 (.type "ImportWarning"), de P "PendingDeprecationWarning" 115 (.type "PendingDeprecationWarning"), de P "ResourceWarning" 116 (.type "ResourceWarning"), de P "RuntimeWarning" 117 (.type "RuntimeWarning"), de P "SyntaxWarning" 118 (.type "SyntaxWarning"), de P "UnicodeWarning" 119 (.type "UnicodeWarning"), de P "UserWarning" 120 (.type "UserWarning"), de P "BlockingIOError" 121 (.type "BlockingIOError"), de P "ChildProcessError" 122 (.type "ChildProcessError"), de P "ConnectionError" 123 (.type "ConnectionError"), de P "FileExistsError" 124 (.type "FileExistsError"), de P "FileNotFoundError" 125 (.type "FileNotFoundError"), de P "InterruptedError" 126 (.type "InterruptedError"), de P "IsADirectoryError" 127 (.type "IsADirectoryError"), de P "NotADirectoryError" 128 (.type "NotADirectoryError")]
noncomputable def o0i (P : Params) : List DictEntry := [de P "PermissionError" 129 (.type "PermissionError"), de P "ProcessLookupError" 130 (.type "ProcessLookupError"), de P "TimeoutError" 131 (.type "TimeoutError"), de P "IndentationError" 132 (.type "IndentationError"), de P "_IncompleteInputError" 133 (.type "_IncompleteInputError"), de P "IndexError" 134 (.type "IndexError"), de P "KeyError" 135 (.type "KeyError"), de P "ModuleNotFoundError" 136 (.type "ModuleNotFoundError"), de P "NotImplementedError" 137 (.type "NotImplementedError"), de P "PythonFinalizationError" 138 (.type "PythonFinalizationError"), de P "RecursionError" 139 (.type "RecursionError"), de P "UnboundLocalError" 140 (.type "UnboundLocalError"), de P "UnicodeError" 141 (.type "UnicodeError"), de P "BrokenPipeError" 142 (.type "BrokenPipeError"), de P "ConnectionAbortedError" 143 (.type "ConnectionAbortedError"), de P "ConnectionRefusedError" 144 (.type "ConnectionRefusedError")]
noncomputable def o0j (P : Params) : List DictEntry := [de P "ConnectionResetError" 145 (.type "ConnectionResetError"), de P "TabError" 146 (.type "TabError"), de P "UnicodeDecodeError" 147 (.type "UnicodeDecodeError"), de P "UnicodeEncodeError" 148 (.type "UnicodeEncodeError"), de P "UnicodeTranslateError" 149 (.type "UnicodeTranslateError"), de P "ExceptionGroup" 150 (.type "ExceptionGroup"), de P "EnvironmentError" 151 (.type "OSError"), de P "IOError" 152 (.type "OSError"), de P "open" 153 (.builtin "open"), de P "quit" 154 (.builtin "builtins.quit#opaque"), de P "exit" 155 (.builtin "builtins.exit#opaque"), de P "copyright" 156 (.builtin "builtins.copyright#opaque"), de P "credits" 157 (.builtin "builtins.credits#opaque"), de P "license" 158 (.builtin "builtins.license#opaque"), de P "help" 159 (.builtin "builtins.help#opaque")]
noncomputable def o0 (P : Params) : Obj := ⟨(.type "dict"), none, (.dict (o0a P ++ (o0b P ++ (o0c P ++ (o0d P ++ (o0e P ++ (o0f P ++ (o0g P ++ (o0h P ++ (o0i P ++ (o0j P)))))))))).toArray 159), #[]⟩
noncomputable def o1 (P : Params) : Obj := ⟨(.type "dict"), none, (.dict #[de P "builtins" 162 (.ref 4), de P "__main__" 163 (.ref 5), de P "_sre" 244 (.ref 12)] 3), #[]⟩
noncomputable def o2 (P : Params) : Obj := ⟨.none, none, (.dict #[de P "\x69mport.loaded._sre" 183 (.bool true), de P "class._frozen_importlib.BuiltinImporter" 185 (.ref 14), de P "watched.\x69mport" 206 (.ref 18), de P "class._frozen_importlib.ModuleSpec" 216 (.ref 22), de P "sys.modules.booked-epoch" 245 (.int (3) 0), de P "\x69mport.later-laid._sre" 270 (.bool true), de P "watched.library" 272 (.ref 27), de P "watched.library-objects" 0 (.str "\x0c" 0), de P "watched.library-deep._sre" 273 (.str "\x04\x00\x00\x0b\x04\x00\x00\x0b\x04\x00\x00\x03\x04\x00\x00\x0b\x08\x04dict\x02" 0)] 9), #[]⟩
noncomputable def o3 (P : Params) : Obj := ⟨(.type "dict"), none, (.dict #[de P "__name__" 165 (.str "__main__" 164), de P "__doc__" 166 .none, de P "__package__" 167 .none, de P "__loader__" 168 (.builtin "__main__.__loader__#opaque"), de P "__spec__" 169 .none, de P "__annotations__" 170 (.ref 6), de P "__builtins__" 171 (.ref 4), de P "__file__" 173 (.str "/claim/cut.py" 172), de P "__cached__" 174 .none, de P "_sre" 275 (.ref 12)] 10), #[]⟩
noncomputable def o4 (P : Params) : Obj := ⟨(.type "module"), (some 0), .plain, #[]⟩
noncomputable def o5 (P : Params) : Obj := ⟨(.type "module"), (some 3), .plain, #[]⟩
noncomputable def o6 (P : Params) : Obj := ⟨(.type "dict"), none, (.dict #[] 0), #[]⟩
noncomputable def o7 (P : Params) : Obj := ⟨(.type "tuple"), none, (.seq #[] 0), #[]⟩
noncomputable def o8 (P : Params) : Obj := ⟨.none, none, (.fields #[]), #[]⟩
noncomputable def o9 (P : Params) : Obj := ⟨(.type "code"), none, (.fields #[(.str "<module>" 176), (.str "<module>" 177), (.str "/claim/cut.py" 178), (.int (1) 0), (.int (0) 0), (.int (0) 0), (.int (0) 0), (.int (0) 0), (.ref 7), (.bool false), (.int (175) 0), (.ref 8), .none, .none, .none, .none, (.int (179) 0), (.int (1) 0), (.str "/claim/cut.py" 180)]), #[]⟩
noncomputable def o10 (P : Params) : Obj := ⟨(.type "frame"), none, .plain, #[some (.ref 9), some (.ref 3), some (.ref 3), none, some (.str "__main__" 164), none, some (.ref 0)]⟩
noncomputable def o11 (P : Params) : Obj := ⟨(.type "dict"), none, (.dict #[de P "__name__" 247 (.str "_sre" 246), de P "__doc__" 248 .none, de P "__package__" 250 (.str "" 249), de P "__loader__" 251 (.ref 14), de P "__spec__" 252 (.ref 26), de P "compile" 253 (.builtin "_sre.compile"), de P "template" 254 (.builtin "_sre.template"), de P "getcodesize" 255 (.builtin "_sre.getcodesize"), de P "ascii_iscased" 256 (.builtin "_sre.ascii_iscased"), de P "unicode_iscased" 257 (.builtin "_sre.unicode_iscased"), de P "ascii_tolower" 258 (.builtin "_sre.ascii_tolower"), de P "unicode_tolower" 259 (.builtin "_sre.unicode_tolower"), de P "MAGIC" 261 (.int (20230612) 260), de P "CODESIZE" 263 (.int (4) 262), de P "MAXREPEAT" 265 (.int (4294967295) 264), de P "MAXGROUPS" 267 (.int (1073741823) 266), de P "copyright" 269 (.str " SRE 2.2.2 Copyright (c) 1997-2002 by Secret Labs AB " 268)] 17), #[]⟩
noncomputable def o12 (P : Params) : Obj := ⟨(.type "module"), (some 11), .plain, #[]⟩
noncomputable def o13 (P : Params) : Obj := ⟨(.type "dict"), none, (.dict #[de P "__module__" 189 (.str "_frozen_importlib" 186), de P "__firstlineno__" 190 (.int (971) 187), de P "__doc__" 191 (.builtin "_frozen_importlib.BuiltinImporter.__doc__:str#opaque"), de P "_ORIGIN" 192 (.str "built-in" 188), de P "find_spec" 193 (.builtin "_frozen_importlib.BuiltinImporter.find_spec#opaque"), de P "create_module" 194 (.builtin "_frozen_importlib.BuiltinImporter.create_module#opaque"), de P "exec_module" 195 (.builtin "_frozen_importlib.BuiltinImporter.exec_module#opaque"), de P "get_code" 196 (.builtin "_frozen_importlib.BuiltinImporter.get_code#opaque"), de P "get_source" 197 (.builtin "_frozen_importlib.BuiltinImporter.get_source#opaque"), de P "is_package" 198 (.builtin "_frozen_importlib.BuiltinImporter.is_package#opaque"), de P "load_module" 199 (.builtin "_frozen_importlib.BuiltinImporter.load_module#opaque"), de P "__static_attributes__" 200 (.ref 15), de P "__dict__" 202 (.ref 16), de P "__weakref__" 204 (.ref 17)] 14), #[]⟩
noncomputable def o14 (P : Params) : Obj := ⟨(.type "type"), none, (.cls ⟨"BuiltinImporter", [(.type "object")], [(.ref 14), (.type "object")], 13, "BuiltinImporter", true, [], [], false, none, false⟩), #[]⟩
noncomputable def o15 (P : Params) : Obj := ⟨(.type "tuple"), none, (.seq #[] 0), #[]⟩
noncomputable def o16 (P : Params) : Obj := ⟨(.type "getset_descriptor"), none, (.fields #[(.str "__dict__" 201), (.ref 14), (.builtin "function.__dict__"), (.builtin "function.__dict__#set")]), #[]⟩
noncomputable def o17 (P : Params) : Obj := ⟨(.type "getset_descriptor"), none, (.fields #[(.str "__weakref__" 203), (.ref 14), (.builtin "ExceptionGroup.__weakref__"), .none]), #[]⟩
noncomputable def o18 (P : Params) : Obj := ⟨.none, none, (.seq #[(.int (13) 0), (.str "\x06½\n__module__\x06º\x11_frozen_importlib\x06¾\x0f__firstlineno__\x04»\x00ϋ\x06¿\x07__doc__\t4_frozen_importlib.BuiltinImporter.__doc__:str#opaque\x06À\x07_ORIGIN\x06¼\x08built-in\x06Á\tfind_spec\t2_frozen_importlib.BuiltinImporter.find_spec#opaque\x06Â\x0dcreate_module\t6_frozen_importlib.BuiltinImporter.create_module#opaque\x06Ã\x0bexec_module\t4_frozen_importlib.BuiltinImporter.exec_module#opaque\x06Ä\x08get_code\t1_frozen_importlib.BuiltinImporter.get_code#opaque\x06Å\nget_source\t3_frozen_importlib.BuiltinImporter.get_source#opaque\x06Æ\nis_package\t3_frozen_importlib.BuiltinImporter.is_package#opaque\x06Ç\x0bload_module\t4_frozen_importlib.BuiltinImporter.load_module#opaque\x06È\x15__static_attributes__\x04\x00\x00\x0f\x06Ê\x08__dict__\x04\x00\x00\x10\x06Ì\x0b__weakref__\x04\x00\x00\x11" 0), (.bool true), (.bool true), (.str "" 205), (.int (21) 0), (.str "\x06ã\n__module__\x06Ù\x11_frozen_importlib\x06ä\x0f__firstlineno__\x04Ú\x00Ȳ\x06å\x07__doc__\t/_frozen_importlib.ModuleSpec.__doc__:str#opaque\x06æ\x08__init__\t,_frozen_importlib.ModuleSpec.__init__#opaque\x06ç\x08__repr__\t,_frozen_importlib.ModuleSpec.__repr__#opaque\x06è\x06__eq__\t*_frozen_importlib.ModuleSpec.__eq__#opaque\x06é\x06cached\t*_frozen_importlib.ModuleSpec.cached#opaque\x06ê\x06parent\t*_frozen_importlib.ModuleSpec.parent#opaque\x06ë\x0chas_location\t0_frozen_importlib.ModuleSpec.has_location#opaque\x06ì\x15__static_attributes__\x04\x00\x00\x17\x06î\x08__dict__\x04\x00\x00\x18\x06ð\x0b__weakref__\x04\x00\x00\x19\x06ñ\x08__hash__\x00" 0), (.bool true), (.bool true), (.str "" 242)] 1), #[]⟩
noncomputable def o19 (P : Params) : Obj := ⟨(.type "list"), none, (.seq #[] 0), #[]⟩
noncomputable def o20 (P : Params) : Obj := ⟨(.type "dict"), none, (.dict #[de P "name" 208 (.str "_sre" 207), de P "loader" 209 (.ref 14), de P "origin" 210 (.str "built-in" 184), de P "loader_state" 211 .none, de P "submodule_search_locations" 212 .none, de P "_uninitialized_submodules" 213 (.ref 19), de P "_set_fileattr" 214 (.bool false), de P "_cached" 215 .none, de P "_initializing" 243 (.bool false)] 9), #[]⟩
noncomputable def o21 (P : Params) : Obj := ⟨(.type "dict"), none, (.dict #[de P "__module__" 227 (.str "_frozen_importlib" 217), de P "__firstlineno__" 228 (.int (562) 218), de P "__doc__" 229 (.builtin "_frozen_importlib.ModuleSpec.__doc__:str#opaque"), de P "__init__" 230 (.builtin "_frozen_importlib.ModuleSpec.__init__#opaque"), de P "__repr__" 231 (.builtin "_frozen_importlib.ModuleSpec.__repr__#opaque"), de P "__eq__" 232 (.builtin "_frozen_importlib.ModuleSpec.__eq__#opaque"), de P "cached" 233 (.builtin "_frozen_importlib.ModuleSpec.cached#opaque"), de P "parent" 234 (.builtin "_frozen_importlib.ModuleSpec.parent#opaque"), de P "has_location" 235 (.builtin "_frozen_importlib.ModuleSpec.has_location#opaque"), de P "__static_attributes__" 236 (.ref 23), de P "__dict__" 238 (.ref 24), de P "__weakref__" 240 (.ref 25), de P "__hash__" 241 .none] 13), #[]⟩
noncomputable def o22 (P : Params) : Obj := ⟨(.type "type"), none, (.cls ⟨"ModuleSpec", [(.type "object")], [(.ref 22), (.type "object")], 21, "ModuleSpec", true, [], [], false, none, false⟩), #[]⟩
noncomputable def o23 (P : Params) : Obj := ⟨(.type "tuple"), none, (.seq #[(.str "_cached" 219), (.str "_set_fileattr" 220), (.str "_uninitialized_submodules" 221), (.str "loader" 222), (.str "loader_state" 223), (.str "name" 224), (.str "origin" 225), (.str "submodule_search_locations" 226)] 0), #[]⟩
noncomputable def o24 (P : Params) : Obj := ⟨(.type "getset_descriptor"), none, (.fields #[(.str "__dict__" 237), (.ref 22), (.builtin "function.__dict__"), (.builtin "function.__dict__#set")]), #[]⟩
noncomputable def o25 (P : Params) : Obj := ⟨(.type "getset_descriptor"), none, (.fields #[(.str "__weakref__" 239), (.ref 22), (.builtin "ExceptionGroup.__weakref__"), .none]), #[]⟩
noncomputable def o26 (P : Params) : Obj := ⟨(.ref 22), (some 20), .plain, #[]⟩
noncomputable def o27 (P : Params) : Obj := ⟨.none, none, (.seq #[(.int (11) 0), (.str ⟨#[6, 247, 8, 95, 95, 110, 97, 109, 101, 95, 95, 6, 246, 4, 95, 115, 114, 101, 6, 248, 7, 95, 95, 100, 111, 99, 95, 95, 0, 6, 250, 11, 95, 95, 112, 97, 99, 107, 97, 103, 101, 95, 95, 6, 249, 0, 6, 251, 10, 95, 95, 108, 111, 97, 100, 101, 114, 95, 95, 4, 0, 0, 14, 6, 252, 8, 95, 95, 115, 112, 101, 99, 95, 95, 4, 0, 0, 26, 6, 253, 7, 99, 111, 109, 112, 105, 108, 101, 9, 12, 95, 115, 114, 101, 46, 99, 111, 109, 112, 105, 108, 101, 6, 254, 8, 116, 101, 109, 112, 108, 97, 116, 101, 9, 13, 95, 115, 114, 101, 46, 116, 101, 109, 112, 108, 97, 116, 101, 6, 255, 11, 103, 101, 116, 99, 111, 100, 101, 115, 105, 122, 101, 9, 16, 95, 115, 114, 101, 46, 103, 101, 116, 99, 111, 100, 101, 115, 105, 122, 101, 6, 256, 13, 97, 115, 99, 105, 105, 95, 105, 115, 99, 97, 115, 101, 100, 9, 18, 95, 115, 114, 101, 46, 97, 115, 99, 105, 105, 95, 105, 115, 99, 97, 115, 101, 100, 6, 257, 15, 117, 110, 105, 99, 111, 100, 101, 95, 105, 115, 99, 97, 115, 101, 100, 9, 20, 95, 115, 114, 101, 46, 117, 110, 105, 99, 111, 100, 101, 95, 105, 115, 99, 97, 115, 101, 100, 6, 258, 13, 97, 115, 99, 105, 105, 95, 116, 111, 108, 111, 119, 101, 114, 9, 18, 95, 115, 114, 101, 46, 97, 115, 99, 105, 105, 95, 116, 111, 108, 111, 119, 101, 114, 6, 259, 15, 117, 110, 105, 99, 111, 100, 101, 95, 116, 111, 108, 111, 119, 101, 114, 9, 20, 95, 115, 114, 101, 46, 117, 110, 105, 99, 111, 100, 101, 95, 116, 111, 108, 111, 119, 101, 114, 6, 261, 5, 77, 65, 71, 73, 67, 4, 260, 0, 20230612, 6, 263, 8, 67, 79, 68, 69, 83, 73, 90, 69, 4, 262, 0, 4, 6, 265, 9, 77, 65, 88, 82, 69, 80, 69, 65, 84, 4, 264, 0, 4294967295, 6, 267, 9, 77, 65, 88, 71, 82, 79, 85, 80, 83, 4, 266, 0, 1073741823, 6, 269, 9, 99, 111, 112, 121, 114, 105, 103, 104, 116, 6, 268, 53, 32, 83, 82, 69, 32, 50, 46, 50, 46, 50, 32, 67, 111, 112, 121, 114, 105, 103, 104, 116, 32, 40, 99, 41, 32, 49, 57, 57, 55, 45, 50, 48, 48, 50, 32, 98, 121, 32, 83, 101, 99, 114, 101, 116, 32, 76, 97, 98, 115, 32, 65, 66, 32]⟩ 0), (.bool true), (.bool false), (.str "_sre" 271)] 0), #[]⟩
noncomputable def trn (P : Params) : BT := (.node (o0 P) (.node (o1 P) (.node (o3 P) (.node (o7 P) (.node (o15 P) .nil .nil) (.node (o23 P) .nil .nil)) (.node (o11 P) (.node (o19 P) .nil .nil) (.node (o27 P) .nil .nil))) (.node (o5 P) (.node (o9 P) (.node (o17 P) .nil .nil) (.node (o25 P) .nil .nil)) (.node (o13 P) (.node (o21 P) .nil .nil) .nil))) (.node (o2 P) (.node (o4 P) (.node (o8 P) (.node (o16 P) .nil .nil) (.node (o24 P) .nil .nil)) (.node (o12 P) (.node (o20 P) .nil .nil) .nil)) (.node (o6 P) (.node (o10 P) (.node (o18 P) .nil .nil) (.node (o26 P) .nil .nil)) (.node (o14 P) (.node (o22 P) .nil .nil) .nil))))
noncomputable def Sn (w : World) (os : OsState) : SharedT := ⟨trn w.params, 28, {}, ⟨[]⟩, {}, 276, os⟩
noncomputable def o11v1 (P : Params) : Obj := ⟨(.type "dict"), none, (.dict #[de P "__name__" 247 (.str "_sre" 246), de P "__doc__" 248 .none, de P "__package__" 250 (.str "" 249), de P "__loader__" 251 (.builtin "off-the-table:_sre.__loader__:shared#opaque"), de P "__spec__" 252 (.builtin "off-the-table:_sre.__spec__:shared#opaque"), de P "compile" 253 (.builtin "_sre.compile"), de P "template" 254 (.builtin "off-the-table:_sre.template:shared#opaque"), de P "getcodesize" 255 (.builtin "off-the-table:_sre.getcodesize:shared#opaque"), de P "ascii_iscased" 256 (.builtin "off-the-table:_sre.ascii_iscased:shared#opaque"), de P "unicode_iscased" 257 (.builtin "off-the-table:_sre.unicode_iscased:shared#opaque"), de P "ascii_tolower" 258 (.builtin "off-the-table:_sre.ascii_tolower:shared#opaque"), de P "unicode_tolower" 259 (.builtin "off-the-table:_sre.unicode_tolower:shared#opaque"), de P "MAGIC" 261 (.int (20230612) 260), de P "CODESIZE" 263 (.int (4) 262), de P "MAXREPEAT" 265 (.int (4294967295) 264), de P "MAXGROUPS" 267 (.int (1073741823) 266), de P "copyright" 269 (.str " SRE 2.2.2 Copyright (c) 1997-2002 by Secret Labs AB " 268)] 17), #[]⟩
noncomputable def tro (P : Params) : BT := (.node (o0 P) (.node (o1 P) (.node (o3 P) (.node (o7 P) (.node (o15 P) .nil .nil) (.node (o23 P) .nil .nil)) (.node (o11v1 P) (.node (o19 P) .nil .nil) (.node (o27 P) .nil .nil))) (.node (o5 P) (.node (o9 P) (.node (o17 P) .nil .nil) (.node (o25 P) .nil .nil)) (.node (o13 P) (.node (o21 P) .nil .nil) .nil))) (.node (o2 P) (.node (o4 P) (.node (o8 P) (.node (o16 P) .nil .nil) (.node (o24 P) .nil .nil)) (.node (o12 P) (.node (o20 P) .nil .nil) .nil)) (.node (o6 P) (.node (o10 P) (.node (o18 P) .nil .nil) (.node (o26 P) .nil .nil)) (.node (o14 P) (.node (o22 P) .nil .nil) .nil))))
noncomputable def So (w : World) (os : OsState) : SharedT := ⟨tro w.params, 28, {}, ⟨[]⟩, {}, 276, os⟩
noncomputable def o28 (P : Params) : Obj := ⟨(.type "tuple"), none, (.seq #[] 0), #[]⟩
noncomputable def o29 (P : Params) : Obj := ⟨.none, none, (.fields #[]), #[]⟩
noncomputable def o30 (P : Params) : Obj := ⟨(.type "code"), none, (.fields #[(.str "<module>" 277), (.str "<module>" 278), (.str "/claim/cut.py" 279), (.int (1) 0), (.int (0) 0), (.int (0) 0), (.int (0) 0), (.int (0) 0), (.ref 28), (.bool false), (.int (276) 0), (.ref 29), .none, .none, .none, .none, (.int (280) 0), (.int (1) 0), (.str "/claim/cut.py" 281)]), #[]⟩
noncomputable def o31 (P : Params) : Obj := ⟨(.type "frame"), none, .plain, #[some (.ref 30), some (.ref 3), some (.ref 3), none, some (.str "__main__" 164), none, some (.ref 0)]⟩
noncomputable def tra (P : Params) : BT := (.node (o0 P) (.node (o1 P) (.node (o3 P) (.node (o7 P) (.node (o15 P) (.node (o31 P) .nil .nil) .nil) (.node (o23 P) .nil .nil)) (.node (o11v1 P) (.node (o19 P) .nil .nil) (.node (o27 P) .nil .nil))) (.node (o5 P) (.node (o9 P) (.node (o17 P) .nil .nil) (.node (o25 P) .nil .nil)) (.node (o13 P) (.node (o21 P) .nil .nil) (.node (o29 P) .nil .nil)))) (.node (o2 P) (.node (o4 P) (.node (o8 P) (.node (o16 P) .nil .nil) (.node (o24 P) .nil .nil)) (.node (o12 P) (.node (o20 P) .nil .nil) (.node (o28 P) .nil .nil))) (.node (o6 P) (.node (o10 P) (.node (o18 P) .nil .nil) (.node (o26 P) .nil .nil)) (.node (o14 P) (.node (o22 P) .nil .nil) (.node (o30 P) .nil .nil)))))
noncomputable def Sa (w : World) (os : OsState) : SharedT := ⟨tra w.params, 32, {}, ⟨[]⟩, {}, 282, os⟩
noncomputable def o3v1 (P : Params) : Obj := ⟨(.type "dict"), none, (.dict #[de P "__name__" 165 (.str "__main__" 164), de P "__doc__" 166 .none, de P "__package__" 167 .none, de P "__loader__" 168 (.builtin "__main__.__loader__#opaque"), de P "__spec__" 169 .none, de P "__annotations__" 170 (.ref 6), de P "__builtins__" 171 (.ref 4), de P "__file__" 173 (.str "/claim/cut.py" 172), de P "__cached__" 174 .none, de P "_sre" 275 (.ref 12), de P "_twin_re_1" 316 (.ref 36), de P "NL" 318 (.str "\n" 317)] 12), #[]⟩
noncomputable def o32 (P : Params) : Obj := ⟨(.type "list"), none, (.seq #[(.int (14) 285), (.int (8) 286), (.int (1) 287), (.int (3) 288), (.int (3) 289), (.int (1) 290), (.int (1) 291), (.int (61) 292), (.int (0) 293), (.int (16) 294), (.int (61) 295), (.int (24) 296), (.int (16) 297), (.int (2) 298), (.int (2) 299), (.int (13) 300), (.int (11) 301), (.int (9) 302), (.int (0) 303), (.int (67043328) 304), (.int (126) 305), (.int (126) 306), (.int (0) 307), (.int (0) 308), (.int (0) 309), (.int (0) 310), (.int (0) 311), (.int (1) 312), (.int (1) 313)] 0), #[]⟩
noncomputable def o33 (P : Params) : Obj := ⟨(.type "dict"), none, (.dict #[] 0), #[]⟩
noncomputable def o34 (P : Params) : Obj := ⟨(.type "tuple"), none, (.seq #[.none] 0), #[]⟩
noncomputable def o35 (P : Params) : Obj := ⟨(.type "tuple"), none, (.seq #[(.int (14) 0), (.int (8) 0), (.int (1) 0), (.int (3) 0), (.int (3) 0), (.int (1) 0), (.int (1) 0), (.int (61) 0), (.int (0) 0), (.int (16) 0), (.int (61) 0), (.int (24) 0), (.int (16) 0), (.int (2) 0), (.int (2) 0), (.int (13) 0), (.int (11) 0), (.int (9) 0), (.int (0) 0), (.int (67043328) 0), (.int (126) 0), (.int (126) 0), (.int (0) 0), (.int (0) 0), (.int (0) 0), (.int (0) 0), (.int (0) 0), (.int (1) 0), (.int (1) 0)] 0), #[]⟩
noncomputable def o36 (P : Params) : Obj := ⟨(.type "re.Pattern"), none, (.fields #[(.str "=[a-fA-F0-9]{2}" 283), (.int (256) 315), (.int (0) 0), .none, .none, (.ref 35), (.int (0) 0)]), #[]⟩
noncomputable def trb (P : Params) : BT := (.node (o0 P) (.node (o1 P) (.node (o3v1 P) (.node (o7 P) (.node (o15 P) (.node (o31 P) .nil .nil) .nil) (.node (o23 P) .nil .nil)) (.node (o11v1 P) (.node (o19 P) (.node (o35 P) .nil .nil) .nil) (.node (o27 P) .nil .nil))) (.node (o5 P) (.node (o9 P) (.node (o17 P) (.node (o33 P) .nil .nil) .nil) (.node (o25 P) .nil .nil)) (.node (o13 P) (.node (o21 P) .nil .nil) (.node (o29 P) .nil .nil)))) (.node (o2 P) (.node (o4 P) (.node (o8 P) (.node (o16 P) (.node (o32 P) .nil .nil) .nil) (.node (o24 P) .nil .nil)) (.node (o12 P) (.node (o20 P) (.node (o36 P) .nil .nil) .nil) (.node (o28 P) .nil .nil))) (.node (o6 P) (.node (o10 P) (.node (o18 P) (.node (o34 P) .nil .nil) .nil) (.node (o26 P) .nil .nil)) (.node (o14 P) (.node (o22 P) .nil .nil) (.node (o30 P) .nil .nil)))))
noncomputable def Sb (w : World) (os : OsState) : SharedT := ⟨trb w.params, 37, {}, ⟨[]⟩, {}, 319, os⟩
noncomputable def o37 (P : Params) : Obj := ⟨(.type "range"), none, (.fields #[(.int (0) 320), (.int (256) 319), (.int (1) 321)]), #[]⟩
noncomputable def trc (P : Params) (x38 x39 x40 : Obj) : BT := (.node (o0 P) (.node (o1 P) (.node (o3v1 P) (.node (o7 P) (.node (o15 P) (.node (o31 P) .nil .nil) .nil) (.node (o23 P) (.node x39 .nil .nil) .nil)) (.node (o11v1 P) (.node (o19 P) (.node (o35 P) .nil .nil) .nil) (.node (o27 P) .nil .nil))) (.node (o5 P) (.node (o9 P) (.node (o17 P) (.node (o33 P) .nil .nil) .nil) (.node (o25 P) .nil .nil)) (.node (o13 P) (.node (o21 P) (.node (o37 P) .nil .nil) .nil) (.node (o29 P) .nil .nil)))) (.node (o2 P) (.node (o4 P) (.node (o8 P) (.node (o16 P) (.node (o32 P) .nil .nil) .nil) (.node (o24 P) (.node x40 .nil .nil) .nil)) (.node (o12 P) (.node (o20 P) (.node (o36 P) .nil .nil) .nil) (.node (o28 P) .nil .nil))) (.node (o6 P) (.node (o10 P) (.node (o18 P) (.node (o34 P) .nil .nil) .nil) (.node (o26 P) .nil .nil)) (.node (o14 P) (.node (o22 P) (.node x38 .nil .nil) .nil) (.node (o30 P) .nil .nil)))))
noncomputable def o38 (P : Params) : Obj := ⟨(.type "range_iterator"), none, (.fields #[(.int (1) 0), (.int (255) 0), (.int (1) 0)]), #[]⟩
noncomputable def o39 (P : Params) : Obj := ⟨(.type "list"), none, (.seq (ql.take 1).toArray 1), #[]⟩
noncomputable def o40 (P : Params) : Obj := ⟨(.type "dict"), none, (.dict #[de P "c" 323 (.int (0) 322)] 1), #[]⟩
noncomputable def Sc1 (w : World) (os : OsState) : SharedT := ⟨trc w.params (o38 w.params) (o39 w.params) (o40 w.params), 41, {}, ⟨[]⟩, {}, 326, os⟩
noncomputable def o38v1 (P : Params) : Obj := ⟨(.type "range_iterator"), none, (.fields #[(.int (16) 0), (.int (240) 0), (.int (1) 0)]), #[]⟩
noncomputable def o39v1 (P : Params) : Obj := ⟨(.type "list"), none, (.seq (ql.take 16).toArray 16), #[]⟩
noncomputable def o40v1 (P : Params) : Obj := ⟨(.type "dict"), none, (.dict #[de P "c" 323 (.int (15) 382)] 1), #[]⟩
noncomputable def Sc16 (w : World) (os : OsState) : SharedT := ⟨trc w.params (o38v1 w.params) (o39v1 w.params) (o40v1 w.params), 41, {}, ⟨[]⟩, {}, 386, os⟩
noncomputable def o38v2 (P : Params) : Obj := ⟨(.type "range_iterator"), none, (.fields #[(.int (31) 0), (.int (225) 0), (.int (1) 0)]), #[]⟩
noncomputable def o39v2 (P : Params) : Obj := ⟨(.type "list"), none, (.seq (ql.take 31).toArray 31), #[]⟩
noncomputable def o40v2 (P : Params) : Obj := ⟨(.type "dict"), none, (.dict #[de P "c" 323 (.int (30) 442)] 1), #[]⟩
noncomputable def Sc31 (w : World) (os : OsState) : SharedT := ⟨trc w.params (o38v2 w.params) (o39v2 w.params) (o40v2 w.params), 41, {}, ⟨[]⟩, {}, 446, os⟩
noncomputable def o38v3 (P : Params) : Obj := ⟨(.type "range_iterator"), none, (.fields #[(.int (46) 0), (.int (210) 0), (.int (1) 0)]), #[]⟩
noncomputable def o39v3 (P : Params) : Obj := ⟨(.type "list"), none, (.seq (ql.take 46).toArray 46), #[]⟩
noncomputable def o40v3 (P : Params) : Obj := ⟨(.type "dict"), none, (.dict #[de P "c" 323 (.int (45) 502)] 1), #[]⟩
noncomputable def Sc46 (w : World) (os : OsState) : SharedT := ⟨trc w.params (o38v3 w.params) (o39v3 w.params) (o40v3 w.params), 41, {}, ⟨[]⟩, {}, 506, os⟩
noncomputable def o38v4 (P : Params) : Obj := ⟨(.type "range_iterator"), none, (.fields #[(.int (61) 0), (.int (195) 0), (.int (1) 0)]), #[]⟩
noncomputable def o39v4 (P : Params) : Obj := ⟨(.type "list"), none, (.seq (ql.take 61).toArray 61), #[]⟩
noncomputable def o40v4 (P : Params) : Obj := ⟨(.type "dict"), none, (.dict #[de P "c" 323 (.int (60) 562)] 1), #[]⟩
noncomputable def Sc61 (w : World) (os : OsState) : SharedT := ⟨trc w.params (o38v4 w.params) (o39v4 w.params) (o40v4 w.params), 41, {}, ⟨[]⟩, {}, 566, os⟩
noncomputable def o38v5 (P : Params) : Obj := ⟨(.type "range_iterator"), none, (.fields #[(.int (76) 0), (.int (180) 0), (.int (1) 0)]), #[]⟩
noncomputable def o39v5 (P : Params) : Obj := ⟨(.type "list"), none, (.seq (ql.take 76).toArray 76), #[]⟩
noncomputable def o40v5 (P : Params) : Obj := ⟨(.type "dict"), none, (.dict #[de P "c" 323 (.int (75) 622)] 1), #[]⟩
noncomputable def Sc76 (w : World) (os : OsState) : SharedT := ⟨trc w.params (o38v5 w.params) (o39v5 w.params) (o40v5 w.params), 41, {}, ⟨[]⟩, {}, 626, os⟩
noncomputable def o38v6 (P : Params) : Obj := ⟨(.type "range_iterator"), none, (.fields #[(.int (91) 0), (.int (165) 0), (.int (1) 0)]), #[]⟩
noncomputable def o39v6 (P : Params) : Obj := ⟨(.type "list"), none, (.seq (ql.take 91).toArray 91), #[]⟩
noncomputable def o40v6 (P : Params) : Obj := ⟨(.type "dict"), none, (.dict #[de P "c" 323 (.int (90) 682)] 1), #[]⟩
noncomputable def Sc91 (w : World) (os : OsState) : SharedT := ⟨trc w.params (o38v6 w.params) (o39v6 w.params) (o40v6 w.params), 41, {}, ⟨[]⟩, {}, 686, os⟩
noncomputable def o38v7 (P : Params) : Obj := ⟨(.type "range_iterator"), none, (.fields #[(.int (106) 0), (.int (150) 0), (.int (1) 0)]), #[]⟩
noncomputable def o39v7 (P : Params) : Obj := ⟨(.type "list"), none, (.seq (ql.take 106).toArray 106), #[]⟩
noncomputable def o40v7 (P : Params) : Obj := ⟨(.type "dict"), none, (.dict #[de P "c" 323 (.int (105) 742)] 1), #[]⟩
noncomputable def Sc106 (w : World) (os : OsState) : SharedT := ⟨trc w.params (o38v7 w.params) (o39v7 w.params) (o40v7 w.params), 41, {}, ⟨[]⟩, {}, 746, os⟩
noncomputable def o38v8 (P : Params) : Obj := ⟨(.type "range_iterator"), none, (.fields #[(.int (121) 0), (.int (135) 0), (.int (1) 0)]), #[]⟩
noncomputable def o39v8 (P : Params) : Obj := ⟨(.type "list"), none, (.seq (ql.take 121).toArray 121), #[]⟩
noncomputable def o40v8 (P : Params) : Obj := ⟨(.type "dict"), none, (.dict #[de P "c" 323 (.int (120) 802)] 1), #[]⟩
noncomputable def Sc121 (w : World) (os : OsState) : SharedT := ⟨trc w.params (o38v8 w.params) (o39v8 w.params) (o40v8 w.params), 41, {}, ⟨[]⟩, {}, 806, os⟩
noncomputable def o38v9 (P : Params) : Obj := ⟨(.type "range_iterator"), none, (.fields #[(.int (136) 0), (.int (120) 0), (.int (1) 0)]), #[]⟩
noncomputable def o39v9 (P : Params) : Obj := ⟨(.type "list"), none, (.seq (ql.take 136).toArray 136), #[]⟩
noncomputable def o40v9 (P : Params) : Obj := ⟨(.type "dict"), none, (.dict #[de P "c" 323 (.int (135) 862)] 1), #[]⟩
noncomputable def Sc136 (w : World) (os : OsState) : SharedT := ⟨trc w.params (o38v9 w.params) (o39v9 w.params) (o40v9 w.params), 41, {}, ⟨[]⟩, {}, 866, os⟩
noncomputable def o38v10 (P : Params) : Obj := ⟨(.type "range_iterator"), none, (.fields #[(.int (151) 0), (.int (105) 0), (.int (1) 0)]), #[]⟩
noncomputable def o39v10 (P : Params) : Obj := ⟨(.type "list"), none, (.seq (ql.take 151).toArray 151), #[]⟩
noncomputable def o40v10 (P : Params) : Obj := ⟨(.type "dict"), none, (.dict #[de P "c" 323 (.int (150) 922)] 1), #[]⟩
noncomputable def Sc151 (w : World) (os : OsState) : SharedT := ⟨trc w.params (o38v10 w.params) (o39v10 w.params) (o40v10 w.params), 41, {}, ⟨[]⟩, {}, 926, os⟩
noncomputable def o38v11 (P : Params) : Obj := ⟨(.type "range_iterator"), none, (.fields #[(.int (166) 0), (.int (90) 0), (.int (1) 0)]), #[]⟩
noncomputable def o39v11 (P : Params) : Obj := ⟨(.type "list"), none, (.seq (ql.take 166).toArray 166), #[]⟩
noncomputable def o40v11 (P : Params) : Obj := ⟨(.type "dict"), none, (.dict #[de P "c" 323 (.int (165) 982)] 1), #[]⟩
noncomputable def Sc166 (w : World) (os : OsState) : SharedT := ⟨trc w.params (o38v11 w.params) (o39v11 w.params) (o40v11 w.params), 41, {}, ⟨[]⟩, {}, 986, os⟩
noncomputable def o38v12 (P : Params) : Obj := ⟨(.type "range_iterator"), none, (.fields #[(.int (181) 0), (.int (75) 0), (.int (1) 0)]), #[]⟩
noncomputable def o39v12 (P : Params) : Obj := ⟨(.type "list"), none, (.seq (ql.take 181).toArray 181), #[]⟩
noncomputable def o40v12 (P : Params) : Obj := ⟨(.type "dict"), none, (.dict #[de P "c" 323 (.int (180) 1042)] 1), #[]⟩
noncomputable def Sc181 (w : World) (os : OsState) : SharedT := ⟨trc w.params (o38v12 w.params) (o39v12 w.params) (o40v12 w.params), 41, {}, ⟨[]⟩, {}, 1046, os⟩
noncomputable def o38v13 (P : Params) : Obj := ⟨(.type "range_iterator"), none, (.fields #[(.int (196) 0), (.int (60) 0), (.int (1) 0)]), #[]⟩
noncomputable def o39v13 (P : Params) : Obj := ⟨(.type "list"), none, (.seq (ql.take 196).toArray 196), #[]⟩
noncomputable def o40v13 (P : Params) : Obj := ⟨(.type "dict"), none, (.dict #[de P "c" 323 (.int (195) 1102)] 1), #[]⟩
noncomputable def Sc196 (w : World) (os : OsState) : SharedT := ⟨trc w.params (o38v13 w.params) (o39v13 w.params) (o40v13 w.params), 41, {}, ⟨[]⟩, {}, 1106, os⟩
noncomputable def o38v14 (P : Params) : Obj := ⟨(.type "range_iterator"), none, (.fields #[(.int (211) 0), (.int (45) 0), (.int (1) 0)]), #[]⟩
noncomputable def o39v14 (P : Params) : Obj := ⟨(.type "list"), none, (.seq (ql.take 211).toArray 211), #[]⟩
noncomputable def o40v14 (P : Params) : Obj := ⟨(.type "dict"), none, (.dict #[de P "c" 323 (.int (210) 1162)] 1), #[]⟩
noncomputable def Sc211 (w : World) (os : OsState) : SharedT := ⟨trc w.params (o38v14 w.params) (o39v14 w.params) (o40v14 w.params), 41, {}, ⟨[]⟩, {}, 1166, os⟩
noncomputable def o38v15 (P : Params) : Obj := ⟨(.type "range_iterator"), none, (.fields #[(.int (226) 0), (.int (30) 0), (.int (1) 0)]), #[]⟩
noncomputable def o39v15 (P : Params) : Obj := ⟨(.type "list"), none, (.seq (ql.take 226).toArray 226), #[]⟩
noncomputable def o40v15 (P : Params) : Obj := ⟨(.type "dict"), none, (.dict #[de P "c" 323 (.int (225) 1222)] 1), #[]⟩
noncomputable def Sc226 (w : World) (os : OsState) : SharedT := ⟨trc w.params (o38v15 w.params) (o39v15 w.params) (o40v15 w.params), 41, {}, ⟨[]⟩, {}, 1226, os⟩
noncomputable def o38v16 (P : Params) : Obj := ⟨(.type "range_iterator"), none, (.fields #[(.int (241) 0), (.int (15) 0), (.int (1) 0)]), #[]⟩
noncomputable def o39v16 (P : Params) : Obj := ⟨(.type "list"), none, (.seq (ql.take 241).toArray 241), #[]⟩
noncomputable def o40v16 (P : Params) : Obj := ⟨(.type "dict"), none, (.dict #[de P "c" 323 (.int (240) 1282)] 1), #[]⟩
noncomputable def Sc241 (w : World) (os : OsState) : SharedT := ⟨trc w.params (o38v16 w.params) (o39v16 w.params) (o40v16 w.params), 41, {}, ⟨[]⟩, {}, 1286, os⟩
noncomputable def o38v17 (P : Params) : Obj := ⟨(.type "range_iterator"), none, (.fields #[(.int (256) 0), (.int (0) 0), (.int (1) 0)]), #[]⟩
noncomputable def o39v17 (P : Params) : Obj := ⟨(.type "list"), none, (.seq (ql.take 256).toArray 256), #[]⟩
noncomputable def o40v17 (P : Params) : Obj := ⟨(.type "dict"), none, (.dict #[de P "c" 323 (.int (255) 1342)] 1), #[]⟩
noncomputable def Sc256 (w : World) (os : OsState) : SharedT := ⟨trc w.params (o38v17 w.params) (o39v17 w.params) (o40v17 w.params), 41, {}, ⟨[]⟩, {}, 1346, os⟩
noncomputable def o3v2 (P : Params) : Obj := ⟨(.type "dict"), none, (.dict #[de P "__name__" 165 (.str "__main__" 164), de P "__doc__" 166 .none, de P "__package__" 167 .none, de P "__loader__" 168 (.builtin "__main__.__loader__#opaque"), de P "__spec__" 169 .none, de P "__annotations__" 170 (.ref 6), de P "__builtins__" 171 (.ref 4), de P "__file__" 173 (.str "/claim/cut.py" 172), de P "__cached__" 174 .none, de P "_sre" 275 (.ref 12), de P "_twin_re_1" 316 (.ref 36), de P "NL" 318 (.str "\n" 317), de P "_QUOPRI_MAP" 1346 (.ref 39)] 13), #[]⟩
noncomputable def o40v18 (P : Params) : Obj := ⟨(.type "dict"), none, (.dict #[] 2), #[]⟩
noncomputable def o41 (P : Params) : Obj := ⟨(.type "tuple"), none, (.seq #[] 0), #[]⟩
noncomputable def o42 (P : Params) : Obj := ⟨(.type "StopIteration"), none, (.fields #[(.ref 41), .none, .none, .none, (.bool false), .none]), #[]⟩
noncomputable def trd (P : Params) : BT := (.node (o0 P) (.node (o1 P) (.node (o3v2 P) (.node (o7 P) (.node (o15 P) (.node (o31 P) .nil .nil) .nil) (.node (o23 P) (.node (o39v17 P) .nil .nil) .nil)) (.node (o11v1 P) (.node (o19 P) (.node (o35 P) .nil .nil) .nil) (.node (o27 P) .nil .nil))) (.node (o5 P) (.node (o9 P) (.node (o17 P) (.node (o33 P) .nil .nil) .nil) (.node (o25 P) (.node (o41 P) .nil .nil) .nil)) (.node (o13 P) (.node (o21 P) (.node (o37 P) .nil .nil) .nil) (.node (o29 P) .nil .nil)))) (.node (o2 P) (.node (o4 P) (.node (o8 P) (.node (o16 P) (.node (o32 P) .nil .nil) .nil) (.node (o24 P) (.node (o40v18 P) .nil .nil) .nil)) (.node (o12 P) (.node (o20 P) (.node (o36 P) .nil .nil) .nil) (.node (o28 P) .nil .nil))) (.node (o6 P) (.node (o10 P) (.node (o18 P) (.node (o34 P) .nil .nil) .nil) (.node (o26 P) (.node (o42 P) .nil .nil) .nil)) (.node (o14 P) (.node (o22 P) (.node (o38v17 P) .nil .nil) .nil) (.node (o30 P) .nil .nil)))))
noncomputable def Sd (w : World) (os : OsState) : SharedT := ⟨trd w.params, 43, {}, ⟨[]⟩, {}, 1347, os⟩
noncomputable def o3v3 (P : Params) : Obj := ⟨(.type "dict"), none, (.dict #[de P "__name__" 165 (.str "cpy313.email.quoprimime" 1362), de P "__doc__" 166 .none, de P "__package__" 167 .none, de P "__loader__" 168 (.builtin "__main__.__loader__#opaque"), de P "__spec__" 169 .none, de P "__annotations__" 170 (.ref 6), de P "__builtins__" 171 (.ref 4), de P "__file__" 173 (.str "/claim/cut.py" 172), de P "__cached__" 174 .none, de P "_sre" 275 (.ref 12), de P "_twin_re_1" 316 (.ref 36), de P "NL" 318 (.str "\n" 317), de P "_QUOPRI_MAP" 1346 (.ref 39), de P "_QUOPRI_HEADER_MAP" 1347 (.ref 44), de P "_QUOPRI_BODY_MAP" 1348 (.ref 46), de P "ascii_lowercase" 1350 (.str "abcdefghijklmnopqrstuvwxyz" 1349), de P "ascii_uppercase" 1352 (.str "ABCDEFGHIJKLMNOPQRSTUVWXYZ" 1351), de P "ascii_letters" 1354 (.str "abcdefghijklmnopqrstuvwxyzABCDEFGHIJKLMNOPQRSTUVWXYZ" 1353), de P "digits" 1356 (.str "0123456789" 1355), de P "hexdigits" 1361 (.str "0123456789abcdefABCDEF" 1360)] 20), #[]⟩
noncomputable def o43 (P : Params) : Obj := ⟨(.type "slice"), none, (.fields #[.none, .none, .none]), #[]⟩
noncomputable def o44 (P : Params) : Obj := ⟨(.type "list"), none, (.seq (List.toArray [q 0, q 1, q 2, q 3, q 4, q 5, q 6, q 7, q 8, q 9, q 10, q 11, q 12, q 13, q 14, q 15, q 16, q 17, q 18, q 19, q 20, q 21, q 22, q 23, q 24, q 25, q 26, q 27, q 28, q 29, q 30, q 31, q 32, q 33, q 34, q 35, q 36, q 37, q 38, q 39, q 40, q 41, q 42, q 43, q 44, q 45, q 46, q 47, q 48, q 49, q 50, q 51, q 52, q 53, q 54, q 55, q 56, q 57, q 58, q 59, q 60, q 61, q 62, q 63, q 64, q 65, q 66, q 67, q 68, q 69, q 70, q 71, q 72, q 73, q 74, q 75, q 76, q 77, q 78, q 79, q 80, q 81, q 82, q 83, q 84, q 85, q 86, q 87, q 88, q 89, q 90, q 91, q 92, q 93, q 94, q 95, q 96, q 97, q 98, q 99, q 100, q 101, q 102, q 103, q 104, q 105, q 106, q 107, q 108, q 109, q 110, q 111, q 112, q 113, q 114, q 115, q 116, q 117, q 118, q 119, q 120, q 121, q 122, q 123, q 124, q 125, q 126, q 127, q 128, q 129, q 130, q 131, q 132, q 133, q 134, q 135, q 136, q 137, q 138, q 139, q 140, q 141, q 142, q 143, q 144, q 145, q 146, q 147, q 148, q 149, q 150, q 151, q 152, q 153, q 154, q 155, q 156, q 157, q 158, q 159, q 160, q 161, q 162, q 163, q 164, q 165, q 166, q 167, q 168, q 169, q 170, q 171, q 172, q 173, q 174, q 175, q 176, q 177, q 178, q 179, q 180, q 181, q 182, q 183, q 184, q 185, q 186, q 187, q 188, q 189, q 190, q 191, q 192, q 193, q 194, q 195, q 196, q 197, q 198, q 199, q 200, q 201, q 202, q 203, q 204, q 205, q 206, q 207, q 208, q 209, q 210, q 211, q 212, q 213, q 214, q 215, q 216, q 217, q 218, q 219, q 220, q 221, q 222, q 223, q 224, q 225, q 226, q 227, q 228, q 229, q 230, q 231, q 232, q 233, q 234, q 235, q 236, q 237, q 238, q 239, q 240, q 241, q 242, q 243, q 244, q 245, q 246, q 247, q 248, q 249, q 250, q 251, q 252, q 253, q 254, q 255]) 0), #[]⟩
noncomputable def o45 (P : Params) : Obj := ⟨(.type "slice"), none, (.fields #[.none, .none, .none]), #[]⟩
noncomputable def o46 (P : Params) : Obj := ⟨(.type "list"), none, (.seq (List.toArray [q 0, q 1, q 2, q 3, q 4, q 5, q 6, q 7, q 8, q 9, q 10, q 11, q 12, q 13, q 14, q 15, q 16, q 17, q 18, q 19, q 20, q 21, q 22, q 23, q 24, q 25, q 26, q 27, q 28, q 29, q 30, q 31, q 32, q 33, q 34, q 35, q 36, q 37, q 38, q 39, q 40, q 41, q 42, q 43, q 44, q 45, q 46, q 47, q 48, q 49, q 50, q 51, q 52, q 53, q 54, q 55, q 56, q 57, q 58, q 59, q 60, q 61, q 62, q 63, q 64, q 65, q 66, q 67, q 68, q 69, q 70, q 71, q 72, q 73, q 74, q 75, q 76, q 77, q 78, q 79, q 80, q 81, q 82, q 83, q 84, q 85, q 86, q 87, q 88, q 89, q 90, q 91, q 92, q 93, q 94, q 95, q 96, q 97, q 98, q 99, q 100, q 101, q 102, q 103, q 104, q 105, q 106, q 107, q 108, q 109, q 110, q 111, q 112, q 113, q 114, q 115, q 116, q 117, q 118, q 119, q 120, q 121, q 122, q 123, q 124, q 125, q 126, q 127, q 128, q 129, q 130, q 131, q 132, q 133, q 134, q 135, q 136, q 137, q 138, q 139, q 140, q 141, q 142, q 143, q 144, q 145, q 146, q 147, q 148, q 149, q 150, q 151, q 152, q 153, q 154, q 155, q 156, q 157, q 158, q 159, q 160, q 161, q 162, q 163, q 164, q 165, q 166, q 167, q 168, q 169, q 170, q 171, q 172, q 173, q 174, q 175, q 176, q 177, q 178, q 179, q 180, q 181, q 182, q 183, q 184, q 185, q 186, q 187, q 188, q 189, q 190, q 191, q 192, q 193, q 194, q 195, q 196, q 197, q 198, q 199, q 200, q 201, q 202, q 203, q 204, q 205, q 206, q 207, q 208, q 209, q 210, q 211, q 212, q 213, q 214, q 215, q 216, q 217, q 218, q 219, q 220, q 221, q 222, q 223, q 224, q 225, q 226, q 227, q 228, q 229, q 230, q 231, q 232, q 233, q 234, q 235, q 236, q 237, q 238, q 239, q 240, q 241, q 242, q 243, q 244, q 245, q 246, q 247, q 248, q 249, q 250, q 251, q 252, q 253, q 254, q 255]) 0), #[]⟩
noncomputable def tre (P : Params) : BT := (.node (o0 P) (.node (o1 P) (.node (o3v3 P) (.node (o7 P) (.node (o15 P) (.node (o31 P) .nil .nil) .nil) (.node (o23 P) (.node (o39v17 P) .nil .nil) .nil)) (.node (o11v1 P) (.node (o19 P) (.node (o35 P) .nil .nil) .nil) (.node (o27 P) (.node (o43 P) .nil .nil) .nil))) (.node (o5 P) (.node (o9 P) (.node (o17 P) (.node (o33 P) .nil .nil) .nil) (.node (o25 P) (.node (o41 P) .nil .nil) .nil)) (.node (o13 P) (.node (o21 P) (.node (o37 P) .nil .nil) .nil) (.node (o29 P) (.node (o45 P) .nil .nil) .nil)))) (.node (o2 P) (.node (o4 P) (.node (o8 P) (.node (o16 P) (.node (o32 P) .nil .nil) .nil) (.node (o24 P) (.node (o40v18 P) .nil .nil) .nil)) (.node (o12 P) (.node (o20 P) (.node (o36 P) .nil .nil) .nil) (.node (o28 P) (.node (o44 P) .nil .nil) .nil))) (.node (o6 P) (.node (o10 P) (.node (o18 P) (.node (o34 P) .nil .nil) .nil) (.node (o26 P) (.node (o42 P) .nil .nil) .nil)) (.node (o14 P) (.node (o22 P) (.node (o38v17 P) .nil .nil) .nil) (.node (o30 P) (.node (o46 P) .nil .nil) .nil)))))
noncomputable def Se (w : World) (os : OsState) : SharedT := ⟨tre w.params, 47, {}, ⟨[]⟩, {}, 1364, os⟩
noncomputable def ns20 (P : Params) : List DictEntry := [de P "__name__" 165 (.str "cpy313.email.quoprimime" 1362), de P "__doc__" 166 .none, de P "__package__" 167 .none, de P "__loader__" 168 (.builtin "__main__.__loader__#opaque"), de P "__spec__" 169 .none, de P "__annotations__" 170 (.ref 6), de P "__builtins__" 171 (.ref 4), de P "__file__" 173 (.str "/claim/cut.py" 172), de P "__cached__" 174 .none, de P "_sre" 275 (.ref 12), de P "_twin_re_1" 316 (.ref 36), de P "NL" 318 (.str "\n" 317), de P "_QUOPRI_MAP" 1346 (.ref 39), de P "_QUOPRI_HEADER_MAP" 1347 (.ref 44), de P "_QUOPRI_BODY_MAP" 1348 (.ref 46), de P "ascii_lowercase" 1350 (.str "abcdefghijklmnopqrstuvwxyz" 1349), de P "ascii_uppercase" 1352 (.str "ABCDEFGHIJKLMNOPQRSTUVWXYZ" 1351), de P "ascii_letters" 1354 (.str "abcdefghijklmnopqrstuvwxyzABCDEFGHIJKLMNOPQRSTUVWXYZ" 1353), de P "digits" 1356 (.str "0123456789" 1355), de P "hexdigits" 1361 (.str "0123456789abcdefABCDEF" 1360)]
noncomputable def trf (P : Params) (x3 x44 x47 : Obj) : BT := (.node (o0 P) (.node (o1 P) (.node x3 (.node (o7 P) (.node (o15 P) (.node (o31 P) .nil .nil) (.node x47 .nil .nil)) (.node (o23 P) (.node (o39v17 P) .nil .nil) .nil)) (.node (o11v1 P) (.node (o19 P) (.node (o35 P) .nil .nil) .nil) (.node (o27 P) (.node (o43 P) .nil .nil) .nil))) (.node (o5 P) (.node (o9 P) (.node (o17 P) (.node (o33 P) .nil .nil) .nil) (.node (o25 P) (.node (o41 P) .nil .nil) .nil)) (.node (o13 P) (.node (o21 P) (.node (o37 P) .nil .nil) .nil) (.node (o29 P) (.node (o45 P) .nil .nil) .nil)))) (.node (o2 P) (.node (o4 P) (.node (o8 P) (.node (o16 P) (.node (o32 P) .nil .nil) .nil) (.node (o24 P) (.node (o40v18 P) .nil .nil) .nil)) (.node (o12 P) (.node (o20 P) (.node (o36 P) .nil .nil) .nil) (.node (o28 P) (.node x44 .nil .nil) .nil))) (.node (o6 P) (.node (o10 P) (.node (o18 P) (.node (o34 P) .nil .nil) .nil) (.node (o26 P) (.node (o42 P) .nil .nil) .nil)) (.node (o14 P) (.node (o22 P) (.node (o38v17 P) .nil .nil) .nil) (.node (o30 P) (.node (o46 P) .nil .nil) .nil)))))
noncomputable def o3v4 (P : Params) : Obj := ⟨(.type "dict"), none, (.dict (ns20 P ++ [de P "c" 1372 (.int (45) 1371)]).toArray 21), #[]⟩
noncomputable def o44v1 (P : Params) : Obj := ⟨(.type "list"), none, (.seq (List.toArray [q 0, q 1, q 2, q 3, q 4, q 5, q 6, q 7, q 8, q 9, q 10, q 11, q 12, q 13, q 14, q 15, q 16, q 17, q 18, q 19, q 20, q 21, q 22, q 23, q 24, q 25, q 26, q 27, q 28, q 29, q 30, q 31, q 32, q 33, q 34, q 35, q 36, q 37, q 38, q 39, q 40, q 41, q 42, q 43, q 44, h 45 1373, q 46, q 47, q 48, q 49, q 50, q 51, q 52, q 53, q 54, q 55, q 56, q 57, q 58, q 59, q 60, q 61, q 62, q 63, q 64, q 65, q 66, q 67, q 68, q 69, q 70, q 71, q 72, q 73, q 74, q 75, q 76, q 77, q 78, q 79, q 80, q 81, q 82, q 83, q 84, q 85, q 86, q 87, q 88, q 89, q 90, q 91, q 92, q 93, q 94, q 95, q 96, q 97, q 98, q 99, q 100, q 101, q 102, q 103, q 104, q 105, q 106, q 107, q 108, q 109, q 110, q 111, q 112, q 113, q 114, q 115, q 116, q 117, q 118, q 119, q 120, q 121, q 122, q 123, q 124, q 125, q 126, q 127, q 128, q 129, q 130, q 131, q 132, q 133, q 134, q 135, q 136, q 137, q 138, q 139, q 140, q 141, q 142, q 143, q 144, q 145, q 146, q 147, q 148, q 149, q 150, q 151, q 152, q 153, q 154, q 155, q 156, q 157, q 158, q 159, q 160, q 161, q 162, q 163, q 164, q 165, q 166, q 167, q 168, q 169, q 170, q 171, q 172, q 173, q 174, q 175, q 176, q 177, q 178, q 179, q 180, q 181, q 182, q 183, q 184, q 185, q 186, q 187, q 188, q 189, q 190, q 191, q 192, q 193, q 194, q 195, q 196, q 197, q 198, q 199, q 200, q 201, q 202, q 203, q 204, q 205, q 206, q 207, q 208, q 209, q 210, q 211, q 212, q 213, q 214, q 215, q 216, q 217, q 218, q 219, q 220, q 221, q 222, q 223, q 224, q 225, q 226, q 227, q 228, q 229, q 230, q 231, q 232, q 233, q 234, q 235, q 236, q 237, q 238, q 239, q 240, q 241, q 242, q 243, q 244, q 245, q 246, q 247, q 248, q 249, q 250, q 251, q 252, q 253, q 254, q 255]) 0), #[]⟩
noncomputable def o47 (P : Params) : Obj := ⟨(.type "bytes_iterator"), none, (.fields #[(.bytes #[45, 33, 42, 43, 47, 97, 98, 99, 100, 101, 102, 103, 104, 105, 106, 107, 108, 109, 110, 111, 112, 113, 114, 115, 116, 117, 118, 119, 120, 121, 122, 65, 66, 67, 68, 69, 70, 71, 72, 73, 74, 75, 76, 77, 78, 79, 80, 81, 82, 83, 84, 85, 86, 87, 88, 89, 90, 48, 49, 50, 51, 52, 53, 54, 55, 56, 57] 1370), (.int (1) 0)]), #[]⟩
noncomputable def Sf1 (w : World) (os : OsState) : SharedT := ⟨trf w.params (o3v4 w.params) (o44v1 w.params) (o47 w.params), 48, {}, ⟨[]⟩, {}, 1374, os⟩
noncomputable def o3v5 (P : Params) : Obj := ⟨(.type "dict"), none, (.dict (ns20 P ++ [de P "c" 1372 (.int (103) 1404)]).toArray 21), #[]⟩
noncomputable def o44v2 (P : Params) : Obj := ⟨(.type "list"), none, (.seq (List.toArray [q 0, q 1, q 2, q 3, q 4, q 5, q 6, q 7, q 8, q 9, q 10, q 11, q 12, q 13, q 14, q 15, q 16, q 17, q 18, q 19, q 20, q 21, q 22, q 23, q 24, q 25, q 26, q 27, q 28, q 29, q 30, q 31, q 32, h 33 1376, q 34, q 35, q 36, q 37, q 38, q 39, q 40, q 41, h 42 1379, h 43 1382, q 44, h 45 1373, q 46, h 47 1385, q 48, q 49, q 50, q 51, q 52, q 53, q 54, q 55, q 56, q 57, q 58, q 59, q 60, q 61, q 62, q 63, q 64, q 65, q 66, q 67, q 68, q 69, q 70, q 71, q 72, q 73, q 74, q 75, q 76, q 77, q 78, q 79, q 80, q 81, q 82, q 83, q 84, q 85, q 86, q 87, q 88, q 89, q 90, q 91, q 92, q 93, q 94, q 95, q 96, h 97 1388, h 98 1391, h 99 1394, h 100 1397, h 101 1400, h 102 1403, h 103 1406, q 104, q 105, q 106, q 107, q 108, q 109, q 110, q 111, q 112, q 113, q 114, q 115, q 116, q 117, q 118, q 119, q 120, q 121, q 122, q 123, q 124, q 125, q 126, q 127, q 128, q 129, q 130, q 131, q 132, q 133, q 134, q 135, q 136, q 137, q 138, q 139, q 140, q 141, q 142, q 143, q 144, q 145, q 146, q 147, q 148, q 149, q 150, q 151, q 152, q 153, q 154, q 155, q 156, q 157, q 158, q 159, q 160, q 161, q 162, q 163, q 164, q 165, q 166, q 167, q 168, q 169, q 170, q 171, q 172, q 173, q 174, q 175, q 176, q 177, q 178, q 179, q 180, q 181, q 182, q 183, q 184, q 185, q 186, q 187, q 188, q 189, q 190, q 191, q 192, q 193, q 194, q 195, q 196, q 197, q 198, q 199, q 200, q 201, q 202, q 203, q 204, q 205, q 206, q 207, q 208, q 209, q 210, q 211, q 212, q 213, q 214, q 215, q 216, q 217, q 218, q 219, q 220, q 221, q 222, q 223, q 224, q 225, q 226, q 227, q 228, q 229, q 230, q 231, q 232, q 233, q 234, q 235, q 236, q 237, q 238, q 239, q 240, q 241, q 242, q 243, q 244, q 245, q 246, q 247, q 248, q 249, q 250, q 251, q 252, q 253, q 254, q 255]) 0), #[]⟩
noncomputable def o47v1 (P : Params) : Obj := ⟨(.type "bytes_iterator"), none, (.fields #[(.bytes #[45, 33, 42, 43, 47, 97, 98, 99, 100, 101, 102, 103, 104, 105, 106, 107, 108, 109, 110, 111, 112, 113, 114, 115, 116, 117, 118, 119, 120, 121, 122, 65, 66, 67, 68, 69, 70, 71, 72, 73, 74, 75, 76, 77, 78, 79, 80, 81, 82, 83, 84, 85, 86, 87, 88, 89, 90, 48, 49, 50, 51, 52, 53, 54, 55, 56, 57] 1370), (.int (12) 0)]), #[]⟩
noncomputable def Sf12 (w : World) (os : OsState) : SharedT := ⟨trf w.params (o3v5 w.params) (o44v2 w.params) (o47v1 w.params), 48, {}, ⟨[]⟩, {}, 1407, os⟩
noncomputable def o3v6 (P : Params) : Obj := ⟨(.type "dict"), none, (.dict (ns20 P ++ [de P "c" 1372 (.int (114) 1437)]).toArray 21), #[]⟩
noncomputable def o44v3 (P : Params) : Obj := ⟨(.type "list"), none, (.seq (List.toArray [q 0, q 1, q 2, q 3, q 4, q 5, q 6, q 7, q 8, q 9, q 10, q 11, q 12, q 13, q 14, q 15, q 16, q 17, q 18, q 19, q 20, q 21, q 22, q 23, q 24, q 25, q 26, q 27, q 28, q 29, q 30, q 31, q 32, h 33 1376, q 34, q 35, q 36, q 37, q 38, q 39, q 40, q 41, h 42 1379, h 43 1382, q 44, h 45 1373, q 46, h 47 1385, q 48, q 49, q 50, q 51, q 52, q 53, q 54, q 55, q 56, q 57, q 58, q 59, q 60, q 61, q 62, q 63, q 64, q 65, q 66, q 67, q 68, q 69, q 70, q 71, q 72, q 73, q 74, q 75, q 76, q 77, q 78, q 79, q 80, q 81, q 82, q 83, q 84, q 85, q 86, q 87, q 88, q 89, q 90, q 91, q 92, q 93, q 94, q 95, q 96, h 97 1388, h 98 1391, h 99 1394, h 100 1397, h 101 1400, h 102 1403, h 103 1406, h 104 1409, h 105 1412, h 106 1415, h 107 1418, h 108 1421, h 109 1424, h 110 1427, h 111 1430, h 112 1433, h 113 1436, h 114 1439, q 115, q 116, q 117, q 118, q 119, q 120, q 121, q 122, q 123, q 124, q 125, q 126, q 127, q 128, q 129, q 130, q 131, q 132, q 133, q 134, q 135, q 136, q 137, q 138, q 139, q 140, q 141, q 142, q 143, q 144, q 145, q 146, q 147, q 148, q 149, q 150, q 151, q 152, q 153, q 154, q 155, q 156, q 157, q 158, q 159, q 160, q 161, q 162, q 163, q 164, q 165, q 166, q 167, q 168, q 169, q 170, q 171, q 172, q 173, q 174, q 175, q 176, q 177, q 178, q 179, q 180, q 181, q 182, q 183, q 184, q 185, q 186, q 187, q 188, q 189, q 190, q 191, q 192, q 193, q 194, q 195, q 196, q 197, q 198, q 199, q 200, q 201, q 202, q 203, q 204, q 205, q 206, q 207, q 208, q 209, q 210, q 211, q 212, q 213, q 214, q 215, q 216, q 217, q 218, q 219, q 220, q 221, q 222, q 223, q 224, q 225, q 226, q 227, q 228, q 229, q 230, q 231, q 232, q 233, q 234, q 235, q 236, q 237, q 238, q 239, q 240, q 241, q 242, q 243, q 244, q 245, q 246, q 247, q 248, q 249, q 250, q 251, q 252, q 253, q 254, q 255]) 0), #[]⟩
noncomputable def o47v2 (P : Params) : Obj := ⟨(.type "bytes_iterator"), none, (.fields #[(.bytes #[45, 33, 42, 43, 47, 97, 98, 99, 100, 101, 102, 103, 104, 105, 106, 107, 108, 109, 110, 111, 112, 113, 114, 115, 116, 117, 118, 119, 120, 121, 122, 65, 66, 67, 68, 69, 70, 71, 72, 73, 74, 75, 76, 77, 78, 79, 80, 81, 82, 83, 84, 85, 86, 87, 88, 89, 90, 48, 49, 50, 51, 52, 53, 54, 55, 56, 57] 1370), (.int (23) 0)]), #[]⟩
noncomputable def Sf23 (w : World) (os : OsState) : SharedT := ⟨trf w.params (o3v6 w.params) (o44v3 w.params) (o47v2 w.params), 48, {}, ⟨[]⟩, {}, 1440, os⟩
noncomputable def o3v7 (P : Params) : Obj := ⟨(.type "dict"), none, (.dict (ns20 P ++ [de P "c" 1372 (.int (67) 1470)]).toArray 21), #[]⟩
noncomputable def o44v4 (P : Params) : Obj := ⟨(.type "list"), none, (.seq (List.toArray [q 0, q 1, q 2, q 3, q 4, q 5, q 6, q 7, q 8, q 9, q 10, q 11, q 12, q 13, q 14, q 15, q 16, q 17, q 18, q 19, q 20, q 21, q 22, q 23, q 24, q 25, q 26, q 27, q 28, q 29, q 30, q 31, q 32, h 33 1376, q 34, q 35, q 36, q 37, q 38, q 39, q 40, q 41, h 42 1379, h 43 1382, q 44, h 45 1373, q 46, h 47 1385, q 48, q 49, q 50, q 51, q 52, q 53, q 54, q 55, q 56, q 57, q 58, q 59, q 60, q 61, q 62, q 63, q 64, h 65 1466, h 66 1469, h 67 1472, q 68, q 69, q 70, q 71, q 72, q 73, q 74, q 75, q 76, q 77, q 78, q 79, q 80, q 81, q 82, q 83, q 84, q 85, q 86, q 87, q 88, q 89, q 90, q 91, q 92, q 93, q 94, q 95, q 96, h 97 1388, h 98 1391, h 99 1394, h 100 1397, h 101 1400, h 102 1403, h 103 1406, h 104 1409, h 105 1412, h 106 1415, h 107 1418, h 108 1421, h 109 1424, h 110 1427, h 111 1430, h 112 1433, h 113 1436, h 114 1439, h 115 1442, h 116 1445, h 117 1448, h 118 1451, h 119 1454, h 120 1457, h 121 1460, h 122 1463, q 123, q 124, q 125, q 126, q 127, q 128, q 129, q 130, q 131, q 132, q 133, q 134, q 135, q 136, q 137, q 138, q 139, q 140, q 141, q 142, q 143, q 144, q 145, q 146, q 147, q 148, q 149, q 150, q 151, q 152, q 153, q 154, q 155, q 156, q 157, q 158, q 159, q 160, q 161, q 162, q 163, q 164, q 165, q 166, q 167, q 168, q 169, q 170, q 171, q 172, q 173, q 174, q 175, q 176, q 177, q 178, q 179, q 180, q 181, q 182, q 183, q 184, q 185, q 186, q 187, q 188, q 189, q 190, q 191, q 192, q 193, q 194, q 195, q 196, q 197, q 198, q 199, q 200, q 201, q 202, q 203, q 204, q 205, q 206, q 207, q 208, q 209, q 210, q 211, q 212, q 213, q 214, q 215, q 216, q 217, q 218, q 219, q 220, q 221, q 222, q 223, q 224, q 225, q 226, q 227, q 228, q 229, q 230, q 231, q 232, q 233, q 234, q 235, q 236, q 237, q 238, q 239, q 240, q 241, q 242, q 243, q 244, q 245, q 246, q 247, q 248, q 249, q 250, q 251, q 252, q 253, q 254, q 255]) 0), #[]⟩
noncomputable def o47v3 (P : Params) : Obj := ⟨(.type "bytes_iterator"), none, (.fields #[(.bytes #[45, 33, 42, 43, 47, 97, 98, 99, 100, 101, 102, 103, 104, 105, 106, 107, 108, 109, 110, 111, 112, 113, 114, 115, 116, 117, 118, 119, 120, 121, 122, 65, 66, 67, 68, 69, 70, 71, 72, 73, 74, 75, 76, 77, 78, 79, 80, 81, 82, 83, 84, 85, 86, 87, 88, 89, 90, 48, 49, 50, 51, 52, 53, 54, 55, 56, 57] 1370), (.int (34) 0)]), #[]⟩
noncomputable def Sf34 (w : World) (os : OsState) : SharedT := ⟨trf w.params (o3v7 w.params) (o44v4 w.params) (o47v3 w.params), 48, {}, ⟨[]⟩, {}, 1473, os⟩
noncomputable def o3v8 (P : Params) : Obj := ⟨(.type "dict"), none, (.dict (ns20 P ++ [de P "c" 1372 (.int (78) 1503)]).toArray 21), #[]⟩
noncomputable def o44v5 (P : Params) : Obj := ⟨(.type "list"), none, (.seq (List.toArray [q 0, q 1, q 2, q 3, q 4, q 5, q 6, q 7, q 8, q 9, q 10, q 11, q 12, q 13, q 14, q 15, q 16, q 17, q 18, q 19, q 20, q 21, q 22, q 23, q 24, q 25, q 26, q 27, q 28, q 29, q 30, q 31, q 32, h 33 1376, q 34, q 35, q 36, q 37, q 38, q 39, q 40, q 41, h 42 1379, h 43 1382, q 44, h 45 1373, q 46, h 47 1385, q 48, q 49, q 50, q 51, q 52, q 53, q 54, q 55, q 56, q 57, q 58, q 59, q 60, q 61, q 62, q 63, q 64, h 65 1466, h 66 1469, h 67 1472, h 68 1475, h 69 1478, h 70 1481, h 71 1484, h 72 1487, h 73 1490, h 74 1493, h 75 1496, h 76 1499, h 77 1502, h 78 1505, q 79, q 80, q 81, q 82, q 83, q 84, q 85, q 86, q 87, q 88, q 89, q 90, q 91, q 92, q 93, q 94, q 95, q 96, h 97 1388, h 98 1391, h 99 1394, h 100 1397, h 101 1400, h 102 1403, h 103 1406, h 104 1409, h 105 1412, h 106 1415, h 107 1418, h 108 1421, h 109 1424, h 110 1427, h 111 1430, h 112 1433, h 113 1436, h 114 1439, h 115 1442, h 116 1445, h 117 1448, h 118 1451, h 119 1454, h 120 1457, h 121 1460, h 122 1463, q 123, q 124, q 125, q 126, q 127, q 128, q 129, q 130, q 131, q 132, q 133, q 134, q 135, q 136, q 137, q 138, q 139, q 140, q 141, q 142, q 143, q 144, q 145, q 146, q 147, q 148, q 149, q 150, q 151, q 152, q 153, q 154, q 155, q 156, q 157, q 158, q 159, q 160, q 161, q 162, q 163, q 164, q 165, q 166, q 167, q 168, q 169, q 170, q 171, q 172, q 173, q 174, q 175, q 176, q 177, q 178, q 179, q 180, q 181, q 182, q 183, q 184, q 185, q 186, q 187, q 188, q 189, q 190, q 191, q 192, q 193, q 194, q 195, q 196, q 197, q 198, q 199, q 200, q 201, q 202, q 203, q 204, q 205, q 206, q 207, q 208, q 209, q 210, q 211, q 212, q 213, q 214, q 215, q 216, q 217, q 218, q 219, q 220, q 221, q 222, q 223, q 224, q 225, q 226, q 227, q 228, q 229, q 230, q 231, q 232, q 233, q 234, q 235, q 236, q 237, q 238, q 239, q 240, q 241, q 242, q 243, q 244, q 245, q 246, q 247, q 248, q 249, q 250, q 251, q 252, q 253, q 254, q 255]) 0), #[]⟩
noncomputable def o47v4 (P : Params) : Obj := ⟨(.type "bytes_iterator"), none, (.fields #[(.bytes #[45, 33, 42, 43, 47, 97, 98, 99, 100, 101, 102, 103, 104, 105, 106, 107, 108, 109, 110, 111, 112, 113, 114, 115, 116, 117, 118, 119, 120, 121, 122, 65, 66, 67, 68, 69, 70, 71, 72, 73, 74, 75, 76, 77, 78, 79, 80, 81, 82, 83, 84, 85, 86, 87, 88, 89, 90, 48, 49, 50, 51, 52, 53, 54, 55, 56, 57] 1370), (.int (45) 0)]), #[]⟩
noncomputable def Sf45 (w : World) (os : OsState) : SharedT := ⟨trf w.params (o3v8 w.params) (o44v5 w.params) (o47v4 w.params), 48, {}, ⟨[]⟩, {}, 1506, os⟩
noncomputable def o3v9 (P : Params) : Obj := ⟨(.type "dict"), none, (.dict (ns20 P ++ [de P "c" 1372 (.int (89) 1536)]).toArray 21), #[]⟩
noncomputable def o44v6 (P : Params) : Obj := ⟨(.type "list"), none, (.seq (List.toArray [q 0, q 1, q 2, q 3, q 4, q 5, q 6, q 7, q 8, q 9, q 10, q 11, q 12, q 13, q 14, q 15, q 16, q 17, q 18, q 19, q 20, q 21, q 22, q 23, q 24, q 25, q 26, q 27, q 28, q 29, q 30, q 31, q 32, h 33 1376, q 34, q 35, q 36, q 37, q 38, q 39, q 40, q 41, h 42 1379, h 43 1382, q 44, h 45 1373, q 46, h 47 1385, q 48, q 49, q 50, q 51, q 52, q 53, q 54, q 55, q 56, q 57, q 58, q 59, q 60, q 61, q 62, q 63, q 64, h 65 1466, h 66 1469, h 67 1472, h 68 1475, h 69 1478, h 70 1481, h 71 1484, h 72 1487, h 73 1490, h 74 1493, h 75 1496, h 76 1499, h 77 1502, h 78 1505, h 79 1508, h 80 1511, h 81 1514, h 82 1517, h 83 1520, h 84 1523, h 85 1526, h 86 1529, h 87 1532, h 88 1535, h 89 1538, q 90, q 91, q 92, q 93, q 94, q 95, q 96, h 97 1388, h 98 1391, h 99 1394, h 100 1397, h 101 1400, h 102 1403, h 103 1406, h 104 1409, h 105 1412, h 106 1415, h 107 1418, h 108 1421, h 109 1424, h 110 1427, h 111 1430, h 112 1433, h 113 1436, h 114 1439, h 115 1442, h 116 1445, h 117 1448, h 118 1451, h 119 1454, h 120 1457, h 121 1460, h 122 1463, q 123, q 124, q 125, q 126, q 127, q 128, q 129, q 130, q 131, q 132, q 133, q 134, q 135, q 136, q 137, q 138, q 139, q 140, q 141, q 142, q 143, q 144, q 145, q 146, q 147, q 148, q 149, q 150, q 151, q 152, q 153, q 154, q 155, q 156, q 157, q 158, q 159, q 160, q 161, q 162, q 163, q 164, q 165, q 166, q 167, q 168, q 169, q 170, q 171, q 172, q 173, q 174, q 175, q 176, q 177, q 178, q 179, q 180, q 181, q 182, q 183, q 184, q 185, q 186, q 187, q 188, q 189, q 190, q 191, q 192, q 193, q 194, q 195, q 196, q 197, q 198, q 199, q 200, q 201, q 202, q 203, q 204, q 205, q 206, q 207, q 208, q 209, q 210, q 211, q 212, q 213, q 214, q 215, q 216, q 217, q 218, q 219, q 220, q 221, q 222, q 223, q 224, q 225, q 226, q 227, q 228, q 229, q 230, q 231, q 232, q 233, q 234, q 235, q 236, q 237, q 238, q 239, q 240, q 241, q 242, q 243, q 244, q 245, q 246, q 247, q 248, q 249, q 250, q 251, q 252, q 253, q 254, q 255]) 0), #[]⟩
noncomputable def o47v5 (P : Params) : Obj := ⟨(.type "bytes_iterator"), none, (.fields #[(.bytes #[45, 33, 42, 43, 47, 97, 98, 99, 100, 101, 102, 103, 104, 105, 106, 107, 108, 109, 110, 111, 112, 113, 114, 115, 116, 117, 118, 119, 120, 121, 122, 65, 66, 67, 68, 69, 70, 71, 72, 73, 74, 75, 76, 77, 78, 79, 80, 81, 82, 83, 84, 85, 86, 87, 88, 89, 90, 48, 49, 50, 51, 52, 53, 54, 55, 56, 57] 1370), (.int (56) 0)]), #[]⟩
noncomputable def Sf56 (w : World) (os : OsState) : SharedT := ⟨trf w.params (o3v9 w.params) (o44v6 w.params) (o47v5 w.params), 48, {}, ⟨[]⟩, {}, 1539, os⟩
noncomputable def o3v10 (P : Params) : Obj := ⟨(.type "dict"), none, (.dict (ns20 P ++ [de P "c" 1372 (.int (57) 1569)]).toArray 21), #[]⟩
noncomputable def o44v7 (P : Params) : Obj := ⟨(.type "list"), none, (.seq (List.toArray [q 0, q 1, q 2, q 3, q 4, q 5, q 6, q 7, q 8, q 9, q 10, q 11, q 12, q 13, q 14, q 15, q 16, q 17, q 18, q 19, q 20, q 21, q 22, q 23, q 24, q 25, q 26, q 27, q 28, q 29, q 30, q 31, q 32, h 33 1376, q 34, q 35, q 36, q 37, q 38, q 39, q 40, q 41, h 42 1379, h 43 1382, q 44, h 45 1373, q 46, h 47 1385, h 48 1544, h 49 1547, h 50 1550, h 51 1553, h 52 1556, h 53 1559, h 54 1562, h 55 1565, h 56 1568, h 57 1571, q 58, q 59, q 60, q 61, q 62, q 63, q 64, h 65 1466, h 66 1469, h 67 1472, h 68 1475, h 69 1478, h 70 1481, h 71 1484, h 72 1487, h 73 1490, h 74 1493, h 75 1496, h 76 1499, h 77 1502, h 78 1505, h 79 1508, h 80 1511, h 81 1514, h 82 1517, h 83 1520, h 84 1523, h 85 1526, h 86 1529, h 87 1532, h 88 1535, h 89 1538, h 90 1541, q 91, q 92, q 93, q 94, q 95, q 96, h 97 1388, h 98 1391, h 99 1394, h 100 1397, h 101 1400, h 102 1403, h 103 1406, h 104 1409, h 105 1412, h 106 1415, h 107 1418, h 108 1421, h 109 1424, h 110 1427, h 111 1430, h 112 1433, h 113 1436, h 114 1439, h 115 1442, h 116 1445, h 117 1448, h 118 1451, h 119 1454, h 120 1457, h 121 1460, h 122 1463, q 123, q 124, q 125, q 126, q 127, q 128, q 129, q 130, q 131, q 132, q 133, q 134, q 135, q 136, q 137, q 138, q 139, q 140, q 141, q 142, q 143, q 144, q 145, q 146, q 147, q 148, q 149, q 150, q 151, q 152, q 153, q 154, q 155, q 156, q 157, q 158, q 159, q 160, q 161, q 162, q 163, q 164, q 165, q 166, q 167, q 168, q 169, q 170, q 171, q 172, q 173, q 174, q 175, q 176, q 177, q 178, q 179, q 180, q 181, q 182, q 183, q 184, q 185, q 186, q 187, q 188, q 189, q 190, q 191, q 192, q 193, q 194, q 195, q 196, q 197, q 198, q 199, q 200, q 201, q 202, q 203, q 204, q 205, q 206, q 207, q 208, q 209, q 210, q 211, q 212, q 213, q 214, q 215, q 216, q 217, q 218, q 219, q 220, q 221, q 222, q 223, q 224, q 225, q 226, q 227, q 228, q 229, q 230, q 231, q 232, q 233, q 234, q 235, q 236, q 237, q 238, q 239, q 240, q 241, q 242, q 243, q 244, q 245, q 246, q 247, q 248, q 249, q 250, q 251, q 252, q 253, q 254, q 255]) 0), #[]⟩
noncomputable def o47v6 (P : Params) : Obj := ⟨(.type "bytes_iterator"), none, (.fields #[(.bytes #[45, 33, 42, 43, 47, 97, 98, 99, 100, 101, 102, 103, 104, 105, 106, 107, 108, 109, 110, 111, 112, 113, 114, 115, 116, 117, 118, 119, 120, 121, 122, 65, 66, 67, 68, 69, 70, 71, 72, 73, 74, 75, 76, 77, 78, 79, 80, 81, 82, 83, 84, 85, 86, 87, 88, 89, 90, 48, 49, 50, 51, 52, 53, 54, 55, 56, 57] 1370), (.int (67) 0)]), #[]⟩
noncomputable def Sf67 (w : World) (os : OsState) : SharedT := ⟨trf w.params (o3v10 w.params) (o44v7 w.params) (o47v6 w.params), 48, {}, ⟨[]⟩, {}, 1572, os⟩
noncomputable def o3v11 (P : Params) : Obj := ⟨(.type "dict"), none, (.dict #[de P "__name__" 165 (.str "cpy313.email.quoprimime" 1362), de P "__doc__" 166 .none, de P "__package__" 167 .none, de P "__loader__" 168 (.builtin "__main__.__loader__#opaque"), de P "__spec__" 169 .none, de P "__annotations__" 170 (.ref 6), de P "__builtins__" 171 (.ref 4), de P "__file__" 173 (.str "/claim/cut.py" 172), de P "__cached__" 174 .none, de P "_sre" 275 (.ref 12), de P "_twin_re_1" 316 (.ref 36), de P "NL" 318 (.str "\n" 317), de P "_QUOPRI_MAP" 1346 (.ref 39), de P "_QUOPRI_HEADER_MAP" 1347 (.ref 44), de P "_QUOPRI_BODY_MAP" 1348 (.ref 46), de P "ascii_lowercase" 1350 (.str "abcdefghijklmnopqrstuvwxyz" 1349), de P "ascii_uppercase" 1352 (.str "ABCDEFGHIJKLMNOPQRSTUVWXYZ" 1351), de P "ascii_letters" 1354 (.str "abcdefghijklmnopqrstuvwxyzABCDEFGHIJKLMNOPQRSTUVWXYZ" 1353), de P "digits" 1356 (.str "0123456789" 1355), de P "hexdigits" 1361 (.str "0123456789abcdefABCDEF" 1360), de P "c" 1372 (.int (57) 1569)] 21), #[]⟩
noncomputable def o47v7 (P : Params) : Obj := ⟨(.type "bytes_iterator"), none, (.fields #[.none, (.int (67) 0)]), #[]⟩
noncomputable def o48 (P : Params) : Obj := ⟨(.type "tuple"), none, (.seq #[] 0), #[]⟩
noncomputable def o49 (P : Params) : Obj := ⟨(.type "StopIteration"), none, (.fields #[(.ref 48), .none, .none, .none, (.bool false), .none]), #[]⟩
noncomputable def trg (P : Params) : BT := (.node (o0 P) (.node (o1 P) (.node (o3v11 P) (.node (o7 P) (.node (o15 P) (.node (o31 P) .nil .nil) (.node (o47v7 P) .nil .nil)) (.node (o23 P) (.node (o39v17 P) .nil .nil) .nil)) (.node (o11v1 P) (.node (o19 P) (.node (o35 P) .nil .nil) .nil) (.node (o27 P) (.node (o43 P) .nil .nil) .nil))) (.node (o5 P) (.node (o9 P) (.node (o17 P) (.node (o33 P) .nil .nil) (.node (o49 P) .nil .nil)) (.node (o25 P) (.node (o41 P) .nil .nil) .nil)) (.node (o13 P) (.node (o21 P) (.node (o37 P) .nil .nil) .nil) (.node (o29 P) (.node (o45 P) .nil .nil) .nil)))) (.node (o2 P) (.node (o4 P) (.node (o8 P) (.node (o16 P) (.node (o32 P) .nil .nil) (.node (o48 P) .nil .nil)) (.node (o24 P) (.node (o40v18 P) .nil .nil) .nil)) (.node (o12 P) (.node (o20 P) (.node (o36 P) .nil .nil) .nil) (.node (o28 P) (.node (o44v7 P) .nil .nil) .nil))) (.node (o6 P) (.node (o10 P) (.node (o18 P) (.node (o34 P) .nil .nil) .nil) (.node (o26 P) (.node (o42 P) .nil .nil) .nil)) (.node (o14 P) (.node (o22 P) (.node (o38v17 P) .nil .nil) .nil) (.node (o30 P) (.node (o46 P) .nil .nil) .nil)))))
noncomputable def Sg (w : World) (os : OsState) : SharedT := ⟨trg w.params, 50, {}, ⟨[]⟩, {}, 1572, os⟩
noncomputable def o44v8 (P : Params) : Obj := ⟨(.type "list"), none, (.seq (List.toArray [q 0, q 1, q 2, q 3, q 4, q 5, q 6, q 7, q 8, q 9, q 10, q 11, q 12, q 13, q 14, q 15, q 16, q 17, q 18, q 19, q 20, q 21, q 22, q 23, q 24, q 25, q 26, q 27, q 28, q 29, q 30, q 31, h 95 1572, h 33 1376, q 34, q 35, q 36, q 37, q 38, q 39, q 40, q 41, h 42 1379, h 43 1382, q 44, h 45 1373, q 46, h 47 1385, h 48 1544, h 49 1547, h 50 1550, h 51 1553, h 52 1556, h 53 1559, h 54 1562, h 55 1565, h 56 1568, h 57 1571, q 58, q 59, q 60, q 61, q 62, q 63, q 64, h 65 1466, h 66 1469, h 67 1472, h 68 1475, h 69 1478, h 70 1481, h 71 1484, h 72 1487, h 73 1490, h 74 1493, h 75 1496, h 76 1499, h 77 1502, h 78 1505, h 79 1508, h 80 1511, h 81 1514, h 82 1517, h 83 1520, h 84 1523, h 85 1526, h 86 1529, h 87 1532, h 88 1535, h 89 1538, h 90 1541, q 91, q 92, q 93, q 94, q 95, q 96, h 97 1388, h 98 1391, h 99 1394, h 100 1397, h 101 1400, h 102 1403, h 103 1406, h 104 1409, h 105 1412, h 106 1415, h 107 1418, h 108 1421, h 109 1424, h 110 1427, h 111 1430, h 112 1433, h 113 1436, h 114 1439, h 115 1442, h 116 1445, h 117 1448, h 118 1451, h 119 1454, h 120 1457, h 121 1460, h 122 1463, q 123, q 124, q 125, q 126, q 127, q 128, q 129, q 130, q 131, q 132, q 133, q 134, q 135, q 136, q 137, q 138, q 139, q 140, q 141, q 142, q 143, q 144, q 145, q 146, q 147, q 148, q 149, q 150, q 151, q 152, q 153, q 154, q 155, q 156, q 157, q 158, q 159, q 160, q 161, q 162, q 163, q 164, q 165, q 166, q 167, q 168, q 169, q 170, q 171, q 172, q 173, q 174, q 175, q 176, q 177, q 178, q 179, q 180, q 181, q 182, q 183, q 184, q 185, q 186, q 187, q 188, q 189, q 190, q 191, q 192, q 193, q 194, q 195, q 196, q 197, q 198, q 199, q 200, q 201, q 202, q 203, q 204, q 205, q 206, q 207, q 208, q 209, q 210, q 211, q 212, q 213, q 214, q 215, q 216, q 217, q 218, q 219, q 220, q 221, q 222, q 223, q 224, q 225, q 226, q 227, q 228, q 229, q 230, q 231, q 232, q 233, q 234, q 235, q 236, q 237, q 238, q 239, q 240, q 241, q 242, q 243, q 244, q 245, q 246, q 247, q 248, q 249, q 250, q 251, q 252, q 253, q 254, q 255]) 0), #[]⟩
noncomputable def tri (P : Params) : BT := (.node (o0 P) (.node (o1 P) (.node (o3v11 P) (.node (o7 P) (.node (o15 P) (.node (o31 P) .nil .nil) (.node (o47v7 P) .nil .nil)) (.node (o23 P) (.node (o39v17 P) .nil .nil) .nil)) (.node (o11v1 P) (.node (o19 P) (.node (o35 P) .nil .nil) .nil) (.node (o27 P) (.node (o43 P) .nil .nil) .nil))) (.node (o5 P) (.node (o9 P) (.node (o17 P) (.node (o33 P) .nil .nil) (.node (o49 P) .nil .nil)) (.node (o25 P) (.node (o41 P) .nil .nil) .nil)) (.node (o13 P) (.node (o21 P) (.node (o37 P) .nil .nil) .nil) (.node (o29 P) (.node (o45 P) .nil .nil) .nil)))) (.node (o2 P) (.node (o4 P) (.node (o8 P) (.node (o16 P) (.node (o32 P) .nil .nil) (.node (o48 P) .nil .nil)) (.node (o24 P) (.node (o40v18 P) .nil .nil) .nil)) (.node (o12 P) (.node (o20 P) (.node (o36 P) .nil .nil) .nil) (.node (o28 P) (.node (o44v8 P) .nil .nil) .nil))) (.node (o6 P) (.node (o10 P) (.node (o18 P) (.node (o34 P) .nil .nil) .nil) (.node (o26 P) (.node (o42 P) .nil .nil) .nil)) (.node (o14 P) (.node (o22 P) (.node (o38v17 P) .nil .nil) .nil) (.node (o30 P) (.node (o46 P) .nil .nil) .nil)))))
noncomputable def Si (w : World) (os : OsState) : SharedT := ⟨tri w.params, 50, {}, ⟨[]⟩, {}, 1575, os⟩
noncomputable def trj (P : Params) (x3 x46 x50 : Obj) : BT := (.node (o0 P) (.node (o1 P) (.node x3 (.node (o7 P) (.node (o15 P) (.node (o31 P) .nil .nil) (.node (o47v7 P) .nil .nil)) (.node (o23 P) (.node (o39v17 P) .nil .nil) .nil)) (.node (o11v1 P) (.node (o19 P) (.node (o35 P) .nil .nil) .nil) (.node (o27 P) (.node (o43 P) .nil .nil) .nil))) (.node (o5 P) (.node (o9 P) (.node (o17 P) (.node (o33 P) .nil .nil) (.node (o49 P) .nil .nil)) (.node (o25 P) (.node (o41 P) .nil .nil) .nil)) (.node (o13 P) (.node (o21 P) (.node (o37 P) .nil .nil) .nil) (.node (o29 P) (.node (o45 P) .nil .nil) .nil)))) (.node (o2 P) (.node (o4 P) (.node (o8 P) (.node (o16 P) (.node (o32 P) .nil .nil) (.node (o48 P) .nil .nil)) (.node (o24 P) (.node (o40v18 P) .nil .nil) .nil)) (.node (o12 P) (.node (o20 P) (.node (o36 P) .nil .nil) .nil) (.node (o28 P) (.node (o44v8 P) .nil .nil) .nil))) (.node (o6 P) (.node (o10 P) (.node (o18 P) (.node (o34 P) .nil .nil) (.node x50 .nil .nil)) (.node (o26 P) (.node (o42 P) .nil .nil) .nil)) (.node (o14 P) (.node (o22 P) (.node (o38v17 P) .nil .nil) .nil) (.node (o30 P) (.node x46 .nil .nil) .nil)))))
noncomputable def o3v12 (P : Params) : Obj := ⟨(.type "dict"), none, (.dict (ns20 P ++ [de P "c" 1372 (.int (32) 1576)]).toArray 21), #[]⟩
noncomputable def o46v1 (P : Params) : Obj := ⟨(.type "list"), none, (.seq (List.toArray [q 0, q 1, q 2, q 3, q 4, q 5, q 6, q 7, q 8, q 9, q 10, q 11, q 12, q 13, q 14, q 15, q 16, q 17, q 18, q 19, q 20, q 21, q 22, q 23, q 24, q 25, q 26, q 27, q 28, q 29, q 30, q 31, h 32 1578, q 33, q 34, q 35, q 36, q 37, q 38, q 39, q 40, q 41, q 42, q 43, q 44, q 45, q 46, q 47, q 48, q 49, q 50, q 51, q 52, q 53, q 54, q 55, q 56, q 57, q 58, q 59, q 60, q 61, q 62, q 63, q 64, q 65, q 66, q 67, q 68, q 69, q 70, q 71, q 72, q 73, q 74, q 75, q 76, q 77, q 78, q 79, q 80, q 81, q 82, q 83, q 84, q 85, q 86, q 87, q 88, q 89, q 90, q 91, q 92, q 93, q 94, q 95, q 96, q 97, q 98, q 99, q 100, q 101, q 102, q 103, q 104, q 105, q 106, q 107, q 108, q 109, q 110, q 111, q 112, q 113, q 114, q 115, q 116, q 117, q 118, q 119, q 120, q 121, q 122, q 123, q 124, q 125, q 126, q 127, q 128, q 129, q 130, q 131, q 132, q 133, q 134, q 135, q 136, q 137, q 138, q 139, q 140, q 141, q 142, q 143, q 144, q 145, q 146, q 147, q 148, q 149, q 150, q 151, q 152, q 153, q 154, q 155, q 156, q 157, q 158, q 159, q 160, q 161, q 162, q 163, q 164, q 165, q 166, q 167, q 168, q 169, q 170, q 171, q 172, q 173, q 174, q 175, q 176, q 177, q 178, q 179, q 180, q 181, q 182, q 183, q 184, q 185, q 186, q 187, q 188, q 189, q 190, q 191, q 192, q 193, q 194, q 195, q 196, q 197, q 198, q 199, q 200, q 201, q 202, q 203, q 204, q 205, q 206, q 207, q 208, q 209, q 210, q 211, q 212, q 213, q 214, q 215, q 216, q 217, q 218, q 219, q 220, q 221, q 222, q 223, q 224, q 225, q 226, q 227, q 228, q 229, q 230, q 231, q 232, q 233, q 234, q 235, q 236, q 237, q 238, q 239, q 240, q 241, q 242, q 243, q 244, q 245, q 246, q 247, q 248, q 249, q 250, q 251, q 252, q 253, q 254, q 255]) 0), #[]⟩
noncomputable def o50 (P : Params) : Obj := ⟨(.type "bytes_iterator"), none, (.fields #[(.bytes #[32, 33, 34, 35, 36, 37, 38, 39, 40, 41, 42, 43, 44, 45, 46, 47, 48, 49, 50, 51, 52, 53, 54, 55, 56, 57, 58, 59, 60, 62, 63, 64, 65, 66, 67, 68, 69, 70, 71, 72, 73, 74, 75, 76, 77, 78, 79, 80, 81, 82, 83, 84, 85, 86, 87, 88, 89, 90, 91, 92, 93, 94, 95, 96, 97, 98, 99, 100, 101, 102, 103, 104, 105, 106, 107, 108, 109, 110, 111, 112, 113, 114, 115, 116, 117, 118, 119, 120, 121, 122, 123, 124, 125, 126, 9] 1575), (.int (1) 0)]), #[]⟩
noncomputable def Sj1 (w : World) (os : OsState) : SharedT := ⟨trj w.params (o3v12 w.params) (o46v1 w.params) (o50 w.params), 51, {}, ⟨[]⟩, {}, 1579, os⟩
noncomputable def o3v13 (P : Params) : Obj := ⟨(.type "dict"), none, (.dict (ns20 P ++ [de P "c" 1372 (.int (42) 1606)]).toArray 21), #[]⟩
noncomputable def o46v2 (P : Params) : Obj := ⟨(.type "list"), none, (.seq (List.toArray [q 0, q 1, q 2, q 3, q 4, q 5, q 6, q 7, q 8, q 9, q 10, q 11, q 12, q 13, q 14, q 15, q 16, q 17, q 18, q 19, q 20, q 21, q 22, q 23, q 24, q 25, q 26, q 27, q 28, q 29, q 30, q 31, h 32 1578, h 33 1581, h 34 1584, h 35 1587, h 36 1590, h 37 1593, h 38 1596, h 39 1599, h 40 1602, h 41 1605, h 42 1608, q 43, q 44, q 45, q 46, q 47, q 48, q 49, q 50, q 51, q 52, q 53, q 54, q 55, q 56, q 57, q 58, q 59, q 60, q 61, q 62, q 63, q 64, q 65, q 66, q 67, q 68, q 69, q 70, q 71, q 72, q 73, q 74, q 75, q 76, q 77, q 78, q 79, q 80, q 81, q 82, q 83, q 84, q 85, q 86, q 87, q 88, q 89, q 90, q 91, q 92, q 93, q 94, q 95, q 96, q 97, q 98, q 99, q 100, q 101, q 102, q 103, q 104, q 105, q 106, q 107, q 108, q 109, q 110, q 111, q 112, q 113, q 114, q 115, q 116, q 117, q 118, q 119, q 120, q 121, q 122, q 123, q 124, q 125, q 126, q 127, q 128, q 129, q 130, q 131, q 132, q 133, q 134, q 135, q 136, q 137, q 138, q 139, q 140, q 141, q 142, q 143, q 144, q 145, q 146, q 147, q 148, q 149, q 150, q 151, q 152, q 153, q 154, q 155, q 156, q 157, q 158, q 159, q 160, q 161, q 162, q 163, q 164, q 165, q 166, q 167, q 168, q 169, q 170, q 171, q 172, q 173, q 174, q 175, q 176, q 177, q 178, q 179, q 180, q 181, q 182, q 183, q 184, q 185, q 186, q 187, q 188, q 189, q 190, q 191, q 192, q 193, q 194, q 195, q 196, q 197, q 198, q 199, q 200, q 201, q 202, q 203, q 204, q 205, q 206, q 207, q 208, q 209, q 210, q 211, q 212, q 213, q 214, q 215, q 216, q 217, q 218, q 219, q 220, q 221, q 222, q 223, q 224, q 225, q 226, q 227, q 228, q 229, q 230, q 231, q 232, q 233, q 234, q 235, q 236, q 237, q 238, q 239, q 240, q 241, q 242, q 243, q 244, q 245, q 246, q 247, q 248, q 249, q 250, q 251, q 252, q 253, q 254, q 255]) 0), #[]⟩
noncomputable def o50v1 (P : Params) : Obj := ⟨(.type "bytes_iterator"), none, (.fields #[(.bytes #[32, 33, 34, 35, 36, 37, 38, 39, 40, 41, 42, 43, 44, 45, 46, 47, 48, 49, 50, 51, 52, 53, 54, 55, 56, 57, 58, 59, 60, 62, 63, 64, 65, 66, 67, 68, 69, 70, 71, 72, 73, 74, 75, 76, 77, 78, 79, 80, 81, 82, 83, 84, 85, 86, 87, 88, 89, 90, 91, 92, 93, 94, 95, 96, 97, 98, 99, 100, 101, 102, 103, 104, 105, 106, 107, 108, 109, 110, 111, 112, 113, 114, 115, 116, 117, 118, 119, 120, 121, 122, 123, 124, 125, 126, 9] 1575), (.int (11) 0)]), #[]⟩
noncomputable def Sj11 (w : World) (os : OsState) : SharedT := ⟨trj w.params (o3v13 w.params) (o46v2 w.params) (o50v1 w.params), 51, {}, ⟨[]⟩, {}, 1609, os⟩
noncomputable def o3v14 (P : Params) : Obj := ⟨(.type "dict"), none, (.dict (ns20 P ++ [de P "c" 1372 (.int (52) 1636)]).toArray 21), #[]⟩
noncomputable def o46v3 (P : Params) : Obj := ⟨(.type "list"), none, (.seq (List.toArray [q 0, q 1, q 2, q 3, q 4, q 5, q 6, q 7, q 8, q 9, q 10, q 11, q 12, q 13, q 14, q 15, q 16, q 17, q 18, q 19, q 20, q 21, q 22, q 23, q 24, q 25, q 26, q 27, q 28, q 29, q 30, q 31, h 32 1578, h 33 1581, h 34 1584, h 35 1587, h 36 1590, h 37 1593, h 38 1596, h 39 1599, h 40 1602, h 41 1605, h 42 1608, h 43 1611, h 44 1614, h 45 1617, h 46 1620, h 47 1623, h 48 1626, h 49 1629, h 50 1632, h 51 1635, h 52 1638, q 53, q 54, q 55, q 56, q 57, q 58, q 59, q 60, q 61, q 62, q 63, q 64, q 65, q 66, q 67, q 68, q 69, q 70, q 71, q 72, q 73, q 74, q 75, q 76, q 77, q 78, q 79, q 80, q 81, q 82, q 83, q 84, q 85, q 86, q 87, q 88, q 89, q 90, q 91, q 92, q 93, q 94, q 95, q 96, q 97, q 98, q 99, q 100, q 101, q 102, q 103, q 104, q 105, q 106, q 107, q 108, q 109, q 110, q 111, q 112, q 113, q 114, q 115, q 116, q 117, q 118, q 119, q 120, q 121, q 122, q 123, q 124, q 125, q 126, q 127, q 128, q 129, q 130, q 131, q 132, q 133, q 134, q 135, q 136, q 137, q 138, q 139, q 140, q 141, q 142, q 143, q 144, q 145, q 146, q 147, q 148, q 149, q 150, q 151, q 152, q 153, q 154, q 155, q 156, q 157, q 158, q 159, q 160, q 161, q 162, q 163, q 164, q 165, q 166, q 167, q 168, q 169, q 170, q 171, q 172, q 173, q 174, q 175, q 176, q 177, q 178, q 179, q 180, q 181, q 182, q 183, q 184, q 185, q 186, q 187, q 188, q 189, q 190, q 191, q 192, q 193, q 194, q 195, q 196, q 197, q 198, q 199, q 200, q 201, q 202, q 203, q 204, q 205, q 206, q 207, q 208, q 209, q 210, q 211, q 212, q 213, q 214, q 215, q 216, q 217, q 218, q 219, q 220, q 221, q 222, q 223, q 224, q 225, q 226, q 227, q 228, q 229, q 230, q 231, q 232, q 233, q 234, q 235, q 236, q 237, q 238, q 239, q 240, q 241, q 242, q 243, q 244, q 245, q 246, q 247, q 248, q 249, q 250, q 251, q 252, q 253, q 254, q 255]) 0), #[]⟩
noncomputable def o50v2 (P : Params) : Obj := ⟨(.type "bytes_iterator"), none, (.fields #[(.bytes #[32, 33, 34, 35, 36, 37, 38, 39, 40, 41, 42, 43, 44, 45, 46, 47, 48, 49, 50, 51, 52, 53, 54, 55, 56, 57, 58, 59, 60, 62, 63, 64, 65, 66, 67, 68, 69, 70, 71, 72, 73, 74, 75, 76, 77, 78, 79, 80, 81, 82, 83, 84, 85, 86, 87, 88, 89, 90, 91, 92, 93, 94, 95, 96, 97, 98, 99, 100, 101, 102, 103, 104, 105, 106, 107, 108, 109, 110, 111, 112, 113, 114, 115, 116, 117, 118, 119, 120, 121, 122, 123, 124, 125, 126, 9] 1575), (.int (21) 0)]), #[]⟩
noncomputable def Sj21 (w : World) (os : OsState) : SharedT := ⟨trj w.params (o3v14 w.params) (o46v3 w.params) (o50v2 w.params), 51, {}, ⟨[]⟩, {}, 1639, os⟩
noncomputable def o3v15 (P : Params) : Obj := ⟨(.type "dict"), none, (.dict (ns20 P ++ [de P "c" 1372 (.int (63) 1666)]).toArray 21), #[]⟩
noncomputable def o46v4 (P : Params) : Obj := ⟨(.type "list"), none, (.seq (List.toArray [q 0, q 1, q 2, q 3, q 4, q 5, q 6, q 7, q 8, q 9, q 10, q 11, q 12, q 13, q 14, q 15, q 16, q 17, q 18, q 19, q 20, q 21, q 22, q 23, q 24, q 25, q 26, q 27, q 28, q 29, q 30, q 31, h 32 1578, h 33 1581, h 34 1584, h 35 1587, h 36 1590, h 37 1593, h 38 1596, h 39 1599, h 40 1602, h 41 1605, h 42 1608, h 43 1611, h 44 1614, h 45 1617, h 46 1620, h 47 1623, h 48 1626, h 49 1629, h 50 1632, h 51 1635, h 52 1638, h 53 1641, h 54 1644, h 55 1647, h 56 1650, h 57 1653, h 58 1656, h 59 1659, h 60 1662, q 61, h 62 1665, h 63 1668, q 64, q 65, q 66, q 67, q 68, q 69, q 70, q 71, q 72, q 73, q 74, q 75, q 76, q 77, q 78, q 79, q 80, q 81, q 82, q 83, q 84, q 85, q 86, q 87, q 88, q 89, q 90, q 91, q 92, q 93, q 94, q 95, q 96, q 97, q 98, q 99, q 100, q 101, q 102, q 103, q 104, q 105, q 106, q 107, q 108, q 109, q 110, q 111, q 112, q 113, q 114, q 115, q 116, q 117, q 118, q 119, q 120, q 121, q 122, q 123, q 124, q 125, q 126, q 127, q 128, q 129, q 130, q 131, q 132, q 133, q 134, q 135, q 136, q 137, q 138, q 139, q 140, q 141, q 142, q 143, q 144, q 145, q 146, q 147, q 148, q 149, q 150, q 151, q 152, q 153, q 154, q 155, q 156, q 157, q 158, q 159, q 160, q 161, q 162, q 163, q 164, q 165, q 166, q 167, q 168, q 169, q 170, q 171, q 172, q 173, q 174, q 175, q 176, q 177, q 178, q 179, q 180, q 181, q 182, q 183, q 184, q 185, q 186, q 187, q 188, q 189, q 190, q 191, q 192, q 193, q 194, q 195, q 196, q 197, q 198, q 199, q 200, q 201, q 202, q 203, q 204, q 205, q 206, q 207, q 208, q 209, q 210, q 211, q 212, q 213, q 214, q 215, q 216, q 217, q 218, q 219, q 220, q 221, q 222, q 223, q 224, q 225, q 226, q 227, q 228, q 229, q 230, q 231, q 232, q 233, q 234, q 235, q 236, q 237, q 238, q 239, q 240, q 241, q 242, q 243, q 244, q 245, q 246, q 247, q 248, q 249, q 250, q 251, q 252, q 253, q 254, q 255]) 0), #[]⟩
noncomputable def o50v3 (P : Params) : Obj := ⟨(.type "bytes_iterator"), none, (.fields #[(.bytes #[32, 33, 34, 35, 36, 37, 38, 39, 40, 41, 42, 43, 44, 45, 46, 47, 48, 49, 50, 51, 52, 53, 54, 55, 56, 57, 58, 59, 60, 62, 63, 64, 65, 66, 67, 68, 69, 70, 71, 72, 73, 74, 75, 76, 77, 78, 79, 80, 81, 82, 83, 84, 85, 86, 87, 88, 89, 90, 91, 92, 93, 94, 95, 96, 97, 98, 99, 100, 101, 102, 103, 104, 105, 106, 107, 108, 109, 110, 111, 112, 113, 114, 115, 116, 117, 118, 119, 120, 121, 122, 123, 124, 125, 126, 9] 1575), (.int (31) 0)]), #[]⟩
noncomputable def Sj31 (w : World) (os : OsState) : SharedT := ⟨trj w.params (o3v15 w.params) (o46v4 w.params) (o50v3 w.params), 51, {}, ⟨[]⟩, {}, 1669, os⟩
noncomputable def o3v16 (P : Params) : Obj := ⟨(.type "dict"), none, (.dict (ns20 P ++ [de P "c" 1372 (.int (73) 1696)]).toArray 21), #[]⟩
noncomputable def o46v5 (P : Params) : Obj := ⟨(.type "list"), none, (.seq (List.toArray [q 0, q 1, q 2, q 3, q 4, q 5, q 6, q 7, q 8, q 9, q 10, q 11, q 12, q 13, q 14, q 15, q 16, q 17, q 18, q 19, q 20, q 21, q 22, q 23, q 24, q 25, q 26, q 27, q 28, q 29, q 30, q 31, h 32 1578, h 33 1581, h 34 1584, h 35 1587, h 36 1590, h 37 1593, h 38 1596, h 39 1599, h 40 1602, h 41 1605, h 42 1608, h 43 1611, h 44 1614, h 45 1617, h 46 1620, h 47 1623, h 48 1626, h 49 1629, h 50 1632, h 51 1635, h 52 1638, h 53 1641, h 54 1644, h 55 1647, h 56 1650, h 57 1653, h 58 1656, h 59 1659, h 60 1662, q 61, h 62 1665, h 63 1668, h 64 1671, h 65 1674, h 66 1677, h 67 1680, h 68 1683, h 69 1686, h 70 1689, h 71 1692, h 72 1695, h 73 1698, q 74, q 75, q 76, q 77, q 78, q 79, q 80, q 81, q 82, q 83, q 84, q 85, q 86, q 87, q 88, q 89, q 90, q 91, q 92, q 93, q 94, q 95, q 96, q 97, q 98, q 99, q 100, q 101, q 102, q 103, q 104, q 105, q 106, q 107, q 108, q 109, q 110, q 111, q 112, q 113, q 114, q 115, q 116, q 117, q 118, q 119, q 120, q 121, q 122, q 123, q 124, q 125, q 126, q 127, q 128, q 129, q 130, q 131, q 132, q 133, q 134, q 135, q 136, q 137, q 138, q 139, q 140, q 141, q 142, q 143, q 144, q 145, q 146, q 147, q 148, q 149, q 150, q 151, q 152, q 153, q 154, q 155, q 156, q 157, q 158, q 159, q 160, q 161, q 162, q 163, q 164, q 165, q 166, q 167, q 168, q 169, q 170, q 171, q 172, q 173, q 174, q 175, q 176, q 177, q 178, q 179, q 180, q 181, q 182, q 183, q 184, q 185, q 186, q 187, q 188, q 189, q 190, q 191, q 192, q 193, q 194, q 195, q 196, q 197, q 198, q 199, q 200, q 201, q 202, q 203, q 204, q 205, q 206, q 207, q 208, q 209, q 210, q 211, q 212, q 213, q 214, q 215, q 216, q 217, q 218, q 219, q 220, q 221, q 222, q 223, q 224, q 225, q 226, q 227, q 228, q 229, q 230, q 231, q 232, q 233, q 234, q 235, q 236, q 237, q 238, q 239, q 240, q 241, q 242, q 243, q 244, q 245, q 246, q 247, q 248, q 249, q 250, q 251, q 252, q 253, q 254, q 255]) 0), #[]⟩
noncomputable def o50v4 (P : Params) : Obj := ⟨(.type "bytes_iterator"), none, (.fields #[(.bytes #[32, 33, 34, 35, 36, 37, 38, 39, 40, 41, 42, 43, 44, 45, 46, 47, 48, 49, 50, 51, 52, 53, 54, 55, 56, 57, 58, 59, 60, 62, 63, 64, 65, 66, 67, 68, 69, 70, 71, 72, 73, 74, 75, 76, 77, 78, 79, 80, 81, 82, 83, 84, 85, 86, 87, 88, 89, 90, 91, 92, 93, 94, 95, 96, 97, 98, 99, 100, 101, 102, 103, 104, 105, 106, 107, 108, 109, 110, 111, 112, 113, 114, 115, 116, 117, 118, 119, 120, 121, 122, 123, 124, 125, 126, 9] 1575), (.int (41) 0)]), #[]⟩
noncomputable def Sj41 (w : World) (os : OsState) : SharedT := ⟨trj w.params (o3v16 w.params) (o46v5 w.params) (o50v4 w.params), 51, {}, ⟨[]⟩, {}, 1699, os⟩
noncomputable def o3v17 (P : Params) : Obj := ⟨(.type "dict"), none, (.dict (ns20 P ++ [de P "c" 1372 (.int (83) 1726)]).toArray 21), #[]⟩
noncomputable def o46v6 (P : Params) : Obj := ⟨(.type "list"), none, (.seq (List.toArray [q 0, q 1, q 2, q 3, q 4, q 5, q 6, q 7, q 8, q 9, q 10, q 11, q 12, q 13, q 14, q 15, q 16, q 17, q 18, q 19, q 20, q 21, q 22, q 23, q 24, q 25, q 26, q 27, q 28, q 29, q 30, q 31, h 32 1578, h 33 1581, h 34 1584, h 35 1587, h 36 1590, h 37 1593, h 38 1596, h 39 1599, h 40 1602, h 41 1605, h 42 1608, h 43 1611, h 44 1614, h 45 1617, h 46 1620, h 47 1623, h 48 1626, h 49 1629, h 50 1632, h 51 1635, h 52 1638, h 53 1641, h 54 1644, h 55 1647, h 56 1650, h 57 1653, h 58 1656, h 59 1659, h 60 1662, q 61, h 62 1665, h 63 1668, h 64 1671, h 65 1674, h 66 1677, h 67 1680, h 68 1683, h 69 1686, h 70 1689, h 71 1692, h 72 1695, h 73 1698, h 74 1701, h 75 1704, h 76 1707, h 77 1710, h 78 1713, h 79 1716, h 80 1719, h 81 1722, h 82 1725, h 83 1728, q 84, q 85, q 86, q 87, q 88, q 89, q 90, q 91, q 92, q 93, q 94, q 95, q 96, q 97, q 98, q 99, q 100, q 101, q 102, q 103, q 104, q 105, q 106, q 107, q 108, q 109, q 110, q 111, q 112, q 113, q 114, q 115, q 116, q 117, q 118, q 119, q 120, q 121, q 122, q 123, q 124, q 125, q 126, q 127, q 128, q 129, q 130, q 131, q 132, q 133, q 134, q 135, q 136, q 137, q 138, q 139, q 140, q 141, q 142, q 143, q 144, q 145, q 146, q 147, q 148, q 149, q 150, q 151, q 152, q 153, q 154, q 155, q 156, q 157, q 158, q 159, q 160, q 161, q 162, q 163, q 164, q 165, q 166, q 167, q 168, q 169, q 170, q 171, q 172, q 173, q 174, q 175, q 176, q 177, q 178, q 179, q 180, q 181, q 182, q 183, q 184, q 185, q 186, q 187, q 188, q 189, q 190, q 191, q 192, q 193, q 194, q 195, q 196, q 197, q 198, q 199, q 200, q 201, q 202, q 203, q 204, q 205, q 206, q 207, q 208, q 209, q 210, q 211, q 212, q 213, q 214, q 215, q 216, q 217, q 218, q 219, q 220, q 221, q 222, q 223, q 224, q 225, q 226, q 227, q 228, q 229, q 230, q 231, q 232, q 233, q 234, q 235, q 236, q 237, q 238, q 239, q 240, q 241, q 242, q 243, q 244, q 245, q 246, q 247, q 248, q 249, q 250, q 251, q 252, q 253, q 254, q 255]) 0), #[]⟩
noncomputable def o50v5 (P : Params) : Obj := ⟨(.type "bytes_iterator"), none, (.fields #[(.bytes #[32, 33, 34, 35, 36, 37, 38, 39, 40, 41, 42, 43, 44, 45, 46, 47, 48, 49, 50, 51, 52, 53, 54, 55, 56, 57, 58, 59, 60, 62, 63, 64, 65, 66, 67, 68, 69, 70, 71, 72, 73, 74, 75, 76, 77, 78, 79, 80, 81, 82, 83, 84, 85, 86, 87, 88, 89, 90, 91, 92, 93, 94, 95, 96, 97, 98, 99, 100, 101, 102, 103, 104, 105, 106, 107, 108, 109, 110, 111, 112, 113, 114, 115, 116, 117, 118, 119, 120, 121, 122, 123, 124, 125, 126, 9] 1575), (.int (51) 0)]), #[]⟩
noncomputable def Sj51 (w : World) (os : OsState) : SharedT := ⟨trj w.params (o3v17 w.params) (o46v6 w.params) (o50v5 w.params), 51, {}, ⟨[]⟩, {}, 1729, os⟩
noncomputable def o3v18 (P : Params) : Obj := ⟨(.type "dict"), none, (.dict (ns20 P ++ [de P "c" 1372 (.int (93) 1756)]).toArray 21), #[]⟩
noncomputable def o46v7 (P : Params) : Obj := ⟨(.type "list"), none, (.seq (List.toArray [q 0, q 1, q 2, q 3, q 4, q 5, q 6, q 7, q 8, q 9, q 10, q 11, q 12, q 13, q 14, q 15, q 16, q 17, q 18, q 19, q 20, q 21, q 22, q 23, q 24, q 25, q 26, q 27, q 28, q 29, q 30, q 31, h 32 1578, h 33 1581, h 34 1584, h 35 1587, h 36 1590, h 37 1593, h 38 1596, h 39 1599, h 40 1602, h 41 1605, h 42 1608, h 43 1611, h 44 1614, h 45 1617, h 46 1620, h 47 1623, h 48 1626, h 49 1629, h 50 1632, h 51 1635, h 52 1638, h 53 1641, h 54 1644, h 55 1647, h 56 1650, h 57 1653, h 58 1656, h 59 1659, h 60 1662, q 61, h 62 1665, h 63 1668, h 64 1671, h 65 1674, h 66 1677, h 67 1680, h 68 1683, h 69 1686, h 70 1689, h 71 1692, h 72 1695, h 73 1698, h 74 1701, h 75 1704, h 76 1707, h 77 1710, h 78 1713, h 79 1716, h 80 1719, h 81 1722, h 82 1725, h 83 1728, h 84 1731, h 85 1734, h 86 1737, h 87 1740, h 88 1743, h 89 1746, h 90 1749, h 91 1752, h 92 1755, h 93 1758, q 94, q 95, q 96, q 97, q 98, q 99, q 100, q 101, q 102, q 103, q 104, q 105, q 106, q 107, q 108, q 109, q 110, q 111, q 112, q 113, q 114, q 115, q 116, q 117, q 118, q 119, q 120, q 121, q 122, q 123, q 124, q 125, q 126, q 127, q 128, q 129, q 130, q 131, q 132, q 133, q 134, q 135, q 136, q 137, q 138, q 139, q 140, q 141, q 142, q 143, q 144, q 145, q 146, q 147, q 148, q 149, q 150, q 151, q 152, q 153, q 154, q 155, q 156, q 157, q 158, q 159, q 160, q 161, q 162, q 163, q 164, q 165, q 166, q 167, q 168, q 169, q 170, q 171, q 172, q 173, q 174, q 175, q 176, q 177, q 178, q 179, q 180, q 181, q 182, q 183, q 184, q 185, q 186, q 187, q 188, q 189, q 190, q 191, q 192, q 193, q 194, q 195, q 196, q 197, q 198, q 199, q 200, q 201, q 202, q 203, q 204, q 205, q 206, q 207, q 208, q 209, q 210, q 211, q 212, q 213, q 214, q 215, q 216, q 217, q 218, q 219, q 220, q 221, q 222, q 223, q 224, q 225, q 226, q 227, q 228, q 229, q 230, q 231, q 232, q 233, q 234, q 235, q 236, q 237, q 238, q 239, q 240, q 241, q 242, q 243, q 244, q 245, q 246, q 247, q 248, q 249, q 250, q 251, q 252, q 253, q 254, q 255]) 0), #[]⟩
noncomputable def o50v6 (P : Params) : Obj := ⟨(.type "bytes_iterator"), none, (.fields #[(.bytes #[32, 33, 34, 35, 36, 37, 38, 39, 40, 41, 42, 43, 44, 45, 46, 47, 48, 49, 50, 51, 52, 53, 54, 55, 56, 57, 58, 59, 60, 62, 63, 64, 65, 66, 67, 68, 69, 70, 71, 72, 73, 74, 75, 76, 77, 78, 79, 80, 81, 82, 83, 84, 85, 86, 87, 88, 89, 90, 91, 92, 93, 94, 95, 96, 97, 98, 99, 100, 101, 102, 103, 104, 105, 106, 107, 108, 109, 110, 111, 112, 113, 114, 115, 116, 117, 118, 119, 120, 121, 122, 123, 124, 125, 126, 9] 1575), (.int (61) 0)]), #[]⟩
noncomputable def Sj61 (w : World) (os : OsState) : SharedT := ⟨trj w.params (o3v18 w.params) (o46v7 w.params) (o50v6 w.params), 51, {}, ⟨[]⟩, {}, 1759, os⟩
noncomputable def o3v19 (P : Params) : Obj := ⟨(.type "dict"), none, (.dict (ns20 P ++ [de P "c" 1372 (.int (103) 1786)]).toArray 21), #[]⟩
noncomputable def o46v8 (P : Params) : Obj := ⟨(.type "list"), none, (.seq (List.toArray [q 0, q 1, q 2, q 3, q 4, q 5, q 6, q 7, q 8, q 9, q 10, q 11, q 12, q 13, q 14, q 15, q 16, q 17, q 18, q 19, q 20, q 21, q 22, q 23, q 24, q 25, q 26, q 27, q 28, q 29, q 30, q 31, h 32 1578, h 33 1581, h 34 1584, h 35 1587, h 36 1590, h 37 1593, h 38 1596, h 39 1599, h 40 1602, h 41 1605, h 42 1608, h 43 1611, h 44 1614, h 45 1617, h 46 1620, h 47 1623, h 48 1626, h 49 1629, h 50 1632, h 51 1635, h 52 1638, h 53 1641, h 54 1644, h 55 1647, h 56 1650, h 57 1653, h 58 1656, h 59 1659, h 60 1662, q 61, h 62 1665, h 63 1668, h 64 1671, h 65 1674, h 66 1677, h 67 1680, h 68 1683, h 69 1686, h 70 1689, h 71 1692, h 72 1695, h 73 1698, h 74 1701, h 75 1704, h 76 1707, h 77 1710, h 78 1713, h 79 1716, h 80 1719, h 81 1722, h 82 1725, h 83 1728, h 84 1731, h 85 1734, h 86 1737, h 87 1740, h 88 1743, h 89 1746, h 90 1749, h 91 1752, h 92 1755, h 93 1758, h 94 1761, h 95 1764, h 96 1767, h 97 1770, h 98 1773, h 99 1776, h 100 1779, h 101 1782, h 102 1785, h 103 1788, q 104, q 105, q 106, q 107, q 108, q 109, q 110, q 111, q 112, q 113, q 114, q 115, q 116, q 117, q 118, q 119, q 120, q 121, q 122, q 123, q 124, q 125, q 126, q 127, q 128, q 129, q 130, q 131, q 132, q 133, q 134, q 135, q 136, q 137, q 138, q 139, q 140, q 141, q 142, q 143, q 144, q 145, q 146, q 147, q 148, q 149, q 150, q 151, q 152, q 153, q 154, q 155, q 156, q 157, q 158, q 159, q 160, q 161, q 162, q 163, q 164, q 165, q 166, q 167, q 168, q 169, q 170, q 171, q 172, q 173, q 174, q 175, q 176, q 177, q 178, q 179, q 180, q 181, q 182, q 183, q 184, q 185, q 186, q 187, q 188, q 189, q 190, q 191, q 192, q 193, q 194, q 195, q 196, q 197, q 198, q 199, q 200, q 201, q 202, q 203, q 204, q 205, q 206, q 207, q 208, q 209, q 210, q 211, q 212, q 213, q 214, q 215, q 216, q 217, q 218, q 219, q 220, q 221, q 222, q 223, q 224, q 225, q 226, q 227, q 228, q 229, q 230, q 231, q 232, q 233, q 234, q 235, q 236, q 237, q 238, q 239, q 240, q 241, q 242, q 243, q 244, q 245, q 246, q 247, q 248, q 249, q 250, q 251, q 252, q 253, q 254, q 255]) 0), #[]⟩
noncomputable def o50v7 (P : Params) : Obj := ⟨(.type "bytes_iterator"), none, (.fields #[(.bytes #[32, 33, 34, 35, 36, 37, 38, 39, 40, 41, 42, 43, 44, 45, 46, 47, 48, 49, 50, 51, 52, 53, 54, 55, 56, 57, 58, 59, 60, 62, 63, 64, 65, 66, 67, 68, 69, 70, 71, 72, 73, 74, 75, 76, 77, 78, 79, 80, 81, 82, 83, 84, 85, 86, 87, 88, 89, 90, 91, 92, 93, 94, 95, 96, 97, 98, 99, 100, 101, 102, 103, 104, 105, 106, 107, 108, 109, 110, 111, 112, 113, 114, 115, 116, 117, 118, 119, 120, 121, 122, 123, 124, 125, 126, 9] 1575), (.int (71) 0)]), #[]⟩
noncomputable def Sj71 (w : World) (os : OsState) : SharedT := ⟨trj w.params (o3v19 w.params) (o46v8 w.params) (o50v7 w.params), 51, {}, ⟨[]⟩, {}, 1789, os⟩
noncomputable def o3v20 (P : Params) : Obj := ⟨(.type "dict"), none, (.dict (ns20 P ++ [de P "c" 1372 (.int (113) 1816)]).toArray 21), #[]⟩
noncomputable def o46v9 (P : Params) : Obj := ⟨(.type "list"), none, (.seq (List.toArray [q 0, q 1, q 2, q 3, q 4, q 5, q 6, q 7, q 8, q 9, q 10, q 11, q 12, q 13, q 14, q 15, q 16, q 17, q 18, q 19, q 20, q 21, q 22, q 23, q 24, q 25, q 26, q 27, q 28, q 29, q 30, q 31, h 32 1578, h 33 1581, h 34 1584, h 35 1587, h 36 1590, h 37 1593, h 38 1596, h 39 1599, h 40 1602, h 41 1605, h 42 1608, h 43 1611, h 44 1614, h 45 1617, h 46 1620, h 47 1623, h 48 1626, h 49 1629, h 50 1632, h 51 1635, h 52 1638, h 53 1641, h 54 1644, h 55 1647, h 56 1650, h 57 1653, h 58 1656, h 59 1659, h 60 1662, q 61, h 62 1665, h 63 1668, h 64 1671, h 65 1674, h 66 1677, h 67 1680, h 68 1683, h 69 1686, h 70 1689, h 71 1692, h 72 1695, h 73 1698, h 74 1701, h 75 1704, h 76 1707, h 77 1710, h 78 1713, h 79 1716, h 80 1719, h 81 1722, h 82 1725, h 83 1728, h 84 1731, h 85 1734, h 86 1737, h 87 1740, h 88 1743, h 89 1746, h 90 1749, h 91 1752, h 92 1755, h 93 1758, h 94 1761, h 95 1764, h 96 1767, h 97 1770, h 98 1773, h 99 1776, h 100 1779, h 101 1782, h 102 1785, h 103 1788, h 104 1791, h 105 1794, h 106 1797, h 107 1800, h 108 1803, h 109 1806, h 110 1809, h 111 1812, h 112 1815, h 113 1818, q 114, q 115, q 116, q 117, q 118, q 119, q 120, q 121, q 122, q 123, q 124, q 125, q 126, q 127, q 128, q 129, q 130, q 131, q 132, q 133, q 134, q 135, q 136, q 137, q 138, q 139, q 140, q 141, q 142, q 143, q 144, q 145, q 146, q 147, q 148, q 149, q 150, q 151, q 152, q 153, q 154, q 155, q 156, q 157, q 158, q 159, q 160, q 161, q 162, q 163, q 164, q 165, q 166, q 167, q 168, q 169, q 170, q 171, q 172, q 173, q 174, q 175, q 176, q 177, q 178, q 179, q 180, q 181, q 182, q 183, q 184, q 185, q 186, q 187, q 188, q 189, q 190, q 191, q 192, q 193, q 194, q 195, q 196, q 197, q 198, q 199, q 200, q 201, q 202, q 203, q 204, q 205, q 206, q 207, q 208, q 209, q 210, q 211, q 212, q 213, q 214, q 215, q 216, q 217, q 218, q 219, q 220, q 221, q 222, q 223, q 224, q 225, q 226, q 227, q 228, q 229, q 230, q 231, q 232, q 233, q 234, q 235, q 236, q 237, q 238, q 239, q 240, q 241, q 242, q 243, q 244, q 245, q 246, q 247, q 248, q 249, q 250, q 251, q 252, q 253, q 254, q 255]) 0), #[]⟩
noncomputable def o50v8 (P : Params) : Obj := ⟨(.type "bytes_iterator"), none, (.fields #[(.bytes #[32, 33, 34, 35, 36, 37, 38, 39, 40, 41, 42, 43, 44, 45, 46, 47, 48, 49, 50, 51, 52, 53, 54, 55, 56, 57, 58, 59, 60, 62, 63, 64, 65, 66, 67, 68, 69, 70, 71, 72, 73, 74, 75, 76, 77, 78, 79, 80, 81, 82, 83, 84, 85, 86, 87, 88, 89, 90, 91, 92, 93, 94, 95, 96, 97, 98, 99, 100, 101, 102, 103, 104, 105, 106, 107, 108, 109, 110, 111, 112, 113, 114, 115, 116, 117, 118, 119, 120, 121, 122, 123, 124, 125, 126, 9] 1575), (.int (81) 0)]), #[]⟩
noncomputable def Sj81 (w : World) (os : OsState) : SharedT := ⟨trj w.params (o3v20 w.params) (o46v9 w.params) (o50v8 w.params), 51, {}, ⟨[]⟩, {}, 1819, os⟩
noncomputable def o3v21 (P : Params) : Obj := ⟨(.type "dict"), none, (.dict (ns20 P ++ [de P "c" 1372 (.int (123) 1846)]).toArray 21), #[]⟩
noncomputable def o46v10 (P : Params) : Obj := ⟨(.type "list"), none, (.seq (List.toArray [q 0, q 1, q 2, q 3, q 4, q 5, q 6, q 7, q 8, q 9, q 10, q 11, q 12, q 13, q 14, q 15, q 16, q 17, q 18, q 19, q 20, q 21, q 22, q 23, q 24, q 25, q 26, q 27, q 28, q 29, q 30, q 31, h 32 1578, h 33 1581, h 34 1584, h 35 1587, h 36 1590, h 37 1593, h 38 1596, h 39 1599, h 40 1602, h 41 1605, h 42 1608, h 43 1611, h 44 1614, h 45 1617, h 46 1620, h 47 1623, h 48 1626, h 49 1629, h 50 1632, h 51 1635, h 52 1638, h 53 1641, h 54 1644, h 55 1647, h 56 1650, h 57 1653, h 58 1656, h 59 1659, h 60 1662, q 61, h 62 1665, h 63 1668, h 64 1671, h 65 1674, h 66 1677, h 67 1680, h 68 1683, h 69 1686, h 70 1689, h 71 1692, h 72 1695, h 73 1698, h 74 1701, h 75 1704, h 76 1707, h 77 1710, h 78 1713, h 79 1716, h 80 1719, h 81 1722, h 82 1725, h 83 1728, h 84 1731, h 85 1734, h 86 1737, h 87 1740, h 88 1743, h 89 1746, h 90 1749, h 91 1752, h 92 1755, h 93 1758, h 94 1761, h 95 1764, h 96 1767, h 97 1770, h 98 1773, h 99 1776, h 100 1779, h 101 1782, h 102 1785, h 103 1788, h 104 1791, h 105 1794, h 106 1797, h 107 1800, h 108 1803, h 109 1806, h 110 1809, h 111 1812, h 112 1815, h 113 1818, h 114 1821, h 115 1824, h 116 1827, h 117 1830, h 118 1833, h 119 1836, h 120 1839, h 121 1842, h 122 1845, h 123 1848, q 124, q 125, q 126, q 127, q 128, q 129, q 130, q 131, q 132, q 133, q 134, q 135, q 136, q 137, q 138, q 139, q 140, q 141, q 142, q 143, q 144, q 145, q 146, q 147, q 148, q 149, q 150, q 151, q 152, q 153, q 154, q 155, q 156, q 157, q 158, q 159, q 160, q 161, q 162, q 163, q 164, q 165, q 166, q 167, q 168, q 169, q 170, q 171, q 172, q 173, q 174, q 175, q 176, q 177, q 178, q 179, q 180, q 181, q 182, q 183, q 184, q 185, q 186, q 187, q 188, q 189, q 190, q 191, q 192, q 193, q 194, q 195, q 196, q 197, q 198, q 199, q 200, q 201, q 202, q 203, q 204, q 205, q 206, q 207, q 208, q 209, q 210, q 211, q 212, q 213, q 214, q 215, q 216, q 217, q 218, q 219, q 220, q 221, q 222, q 223, q 224, q 225, q 226, q 227, q 228, q 229, q 230, q 231, q 232, q 233, q 234, q 235, q 236, q 237, q 238, q 239, q 240, q 241, q 242, q 243, q 244, q 245, q 246, q 247, q 248, q 249, q 250, q 251, q 252, q 253, q 254, q 255]) 0), #[]⟩
noncomputable def o50v9 (P : Params) : Obj := ⟨(.type "bytes_iterator"), none, (.fields #[(.bytes #[32, 33, 34, 35, 36, 37, 38, 39, 40, 41, 42, 43, 44, 45, 46, 47, 48, 49, 50, 51, 52, 53, 54, 55, 56, 57, 58, 59, 60, 62, 63, 64, 65, 66, 67, 68, 69, 70, 71, 72, 73, 74, 75, 76, 77, 78, 79, 80, 81, 82, 83, 84, 85, 86, 87, 88, 89, 90, 91, 92, 93, 94, 95, 96, 97, 98, 99, 100, 101, 102, 103, 104, 105, 106, 107, 108, 109, 110, 111, 112, 113, 114, 115, 116, 117, 118, 119, 120, 121, 122, 123, 124, 125, 126, 9] 1575), (.int (91) 0)]), #[]⟩
noncomputable def Sj91 (w : World) (os : OsState) : SharedT := ⟨trj w.params (o3v21 w.params) (o46v10 w.params) (o50v9 w.params), 51, {}, ⟨[]⟩, {}, 1849, os⟩
noncomputable def o3v22 (P : Params) : Obj := ⟨(.type "dict"), none, (.dict (ns20 P ++ [de P "c" 1372 (.int (9) 1858)]).toArray 21), #[]⟩
noncomputable def o46v11 (P : Params) : Obj := ⟨(.type "list"), none, (.seq (List.toArray [q 0, q 1, q 2, q 3, q 4, q 5, q 6, q 7, q 8, h 9 1860, q 10, q 11, q 12, q 13, q 14, q 15, q 16, q 17, q 18, q 19, q 20, q 21, q 22, q 23, q 24, q 25, q 26, q 27, q 28, q 29, q 30, q 31, h 32 1578, h 33 1581, h 34 1584, h 35 1587, h 36 1590, h 37 1593, h 38 1596, h 39 1599, h 40 1602, h 41 1605, h 42 1608, h 43 1611, h 44 1614, h 45 1617, h 46 1620, h 47 1623, h 48 1626, h 49 1629, h 50 1632, h 51 1635, h 52 1638, h 53 1641, h 54 1644, h 55 1647, h 56 1650, h 57 1653, h 58 1656, h 59 1659, h 60 1662, q 61, h 62 1665, h 63 1668, h 64 1671, h 65 1674, h 66 1677, h 67 1680, h 68 1683, h 69 1686, h 70 1689, h 71 1692, h 72 1695, h 73 1698, h 74 1701, h 75 1704, h 76 1707, h 77 1710, h 78 1713, h 79 1716, h 80 1719, h 81 1722, h 82 1725, h 83 1728, h 84 1731, h 85 1734, h 86 1737, h 87 1740, h 88 1743, h 89 1746, h 90 1749, h 91 1752, h 92 1755, h 93 1758, h 94 1761, h 95 1764, h 96 1767, h 97 1770, h 98 1773, h 99 1776, h 100 1779, h 101 1782, h 102 1785, h 103 1788, h 104 1791, h 105 1794, h 106 1797, h 107 1800, h 108 1803, h 109 1806, h 110 1809, h 111 1812, h 112 1815, h 113 1818, h 114 1821, h 115 1824, h 116 1827, h 117 1830, h 118 1833, h 119 1836, h 120 1839, h 121 1842, h 122 1845, h 123 1848, h 124 1851, h 125 1854, h 126 1857, q 127, q 128, q 129, q 130, q 131, q 132, q 133, q 134, q 135, q 136, q 137, q 138, q 139, q 140, q 141, q 142, q 143, q 144, q 145, q 146, q 147, q 148, q 149, q 150, q 151, q 152, q 153, q 154, q 155, q 156, q 157, q 158, q 159, q 160, q 161, q 162, q 163, q 164, q 165, q 166, q 167, q 168, q 169, q 170, q 171, q 172, q 173, q 174, q 175, q 176, q 177, q 178, q 179, q 180, q 181, q 182, q 183, q 184, q 185, q 186, q 187, q 188, q 189, q 190, q 191, q 192, q 193, q 194, q 195, q 196, q 197, q 198, q 199, q 200, q 201, q 202, q 203, q 204, q 205, q 206, q 207, q 208, q 209, q 210, q 211, q 212, q 213, q 214, q 215, q 216, q 217, q 218, q 219, q 220, q 221, q 222, q 223, q 224, q 225, q 226, q 227, q 228, q 229, q 230, q 231, q 232, q 233, q 234, q 235, q 236, q 237, q 238, q 239, q 240, q 241, q 242, q 243, q 244, q 245, q 246, q 247, q 248, q 249, q 250, q 251, q 252, q 253, q 254, q 255]) 0), #[]⟩
noncomputable def o50v10 (P : Params) : Obj := ⟨(.type "bytes_iterator"), none, (.fields #[(.bytes #[32, 33, 34, 35, 36, 37, 38, 39, 40, 41, 42, 43, 44, 45, 46, 47, 48, 49, 50, 51, 52, 53, 54, 55, 56, 57, 58, 59, 60, 62, 63, 64, 65, 66, 67, 68, 69, 70, 71, 72, 73, 74, 75, 76, 77, 78, 79, 80, 81, 82, 83, 84, 85, 86, 87, 88, 89, 90, 91, 92, 93, 94, 95, 96, 97, 98, 99, 100, 101, 102, 103, 104, 105, 106, 107, 108, 109, 110, 111, 112, 113, 114, 115, 116, 117, 118, 119, 120, 121, 122, 123, 124, 125, 126, 9] 1575), (.int (95) 0)]), #[]⟩
noncomputable def Sj95 (w : World) (os : OsState) : SharedT := ⟨trj w.params (o3v22 w.params) (o46v11 w.params) (o50v10 w.params), 51, {}, ⟨[]⟩, {}, 1861, os⟩
noncomputable def o3v23 (P : Params) : Obj := ⟨(.type "dict"), none, (.dict #[de P "__name__" 165 (.str "cpy313.email.quoprimime" 1362), de P "__doc__" 166 .none, de P "__package__" 167 .none, de P "__loader__" 168 (.builtin "__main__.__loader__#opaque"), de P "__spec__" 169 .none, de P "__annotations__" 170 (.ref 6), de P "__builtins__" 171 (.ref 4), de P "__file__" 173 (.str "/claim/cut.py" 172), de P "__cached__" 174 .none, de P "_sre" 275 (.ref 12), de P "_twin_re_1" 316 (.ref 36), de P "NL" 318 (.str "\n" 317), de P "_QUOPRI_MAP" 1346 (.ref 39), de P "_QUOPRI_HEADER_MAP" 1347 (.ref 44), de P "_QUOPRI_BODY_MAP" 1348 (.ref 46), de P "ascii_lowercase" 1350 (.str "abcdefghijklmnopqrstuvwxyz" 1349), de P "ascii_uppercase" 1352 (.str "ABCDEFGHIJKLMNOPQRSTUVWXYZ" 1351), de P "ascii_letters" 1354 (.str "abcdefghijklmnopqrstuvwxyzABCDEFGHIJKLMNOPQRSTUVWXYZ" 1353), de P "digits" 1356 (.str "0123456789" 1355), de P "hexdigits" 1361 (.str "0123456789abcdefABCDEF" 1360), de P "c" 1372 (.int (9) 1858)] 21), #[]⟩
noncomputable def o50v11 (P : Params) : Obj := ⟨(.type "bytes_iterator"), none, (.fields #[.none, (.int (95) 0)]), #[]⟩
noncomputable def o51 (P : Params) : Obj := ⟨(.type "tuple"), none, (.seq #[] 0), #[]⟩
noncomputable def o52 (P : Params) : Obj := ⟨(.type "StopIteration"), none, (.fields #[(.ref 51), .none, .none, .none, (.bool false), .none]), #[]⟩
noncomputable def trk (P : Params) : BT := (.node (o0 P) (.node (o1 P) (.node (o3v23 P) (.node (o7 P) (.node (o15 P) (.node (o31 P) .nil .nil) (.node (o47v7 P) .nil .nil)) (.node (o23 P) (.node (o39v17 P) .nil .nil) .nil)) (.node (o11v1 P) (.node (o19 P) (.node (o35 P) .nil .nil) (.node (o51 P) .nil .nil)) (.node (o27 P) (.node (o43 P) .nil .nil) .nil))) (.node (o5 P) (.node (o9 P) (.node (o17 P) (.node (o33 P) .nil .nil) (.node (o49 P) .nil .nil)) (.node (o25 P) (.node (o41 P) .nil .nil) .nil)) (.node (o13 P) (.node (o21 P) (.node (o37 P) .nil .nil) .nil) (.node (o29 P) (.node (o45 P) .nil .nil) .nil)))) (.node (o2 P) (.node (o4 P) (.node (o8 P) (.node (o16 P) (.node (o32 P) .nil .nil) (.node (o48 P) .nil .nil)) (.node (o24 P) (.node (o40v18 P) .nil .nil) .nil)) (.node (o12 P) (.node (o20 P) (.node (o36 P) .nil .nil) (.node (o52 P) .nil .nil)) (.node (o28 P) (.node (o44v8 P) .nil .nil) .nil))) (.node (o6 P) (.node (o10 P) (.node (o18 P) (.node (o34 P) .nil .nil) (.node (o50v11 P) .nil .nil)) (.node (o26 P) (.node (o42 P) .nil .nil) .nil)) (.node (o14 P) (.node (o22 P) (.node (o38v17 P) .nil .nil) .nil) (.node (o30 P) (.node (o46v11 P) .nil .nil) .nil)))))
noncomputable def Sk (w : World) (os : OsState) : SharedT := ⟨trk w.params, 53, {}, ⟨[]⟩, {}, 1861, os⟩
noncomputable def o3v24 (P : Params) : Obj := ⟨(.type "dict"), none, (.dict #[de P "__name__" 165 (.str "cpy313.email.quoprimime" 1362), de P "__doc__" 166 .none, de P "__package__" 167 .none, de P "__loader__" 168 (.builtin "__main__.__loader__#opaque"), de P "__spec__" 169 .none, de P "__annotations__" 170 (.ref 6), de P "__builtins__" 171 (.ref 4), de P "__file__" 173 (.str "/claim/cut.py" 172), de P "__cached__" 174 .none, de P "_sre" 275 (.ref 12), de P "_twin_re_1" 316 (.ref 36), de P "NL" 318 (.str "\n" 317), de P "_QUOPRI_MAP" 1346 (.ref 39), de P "_QUOPRI_HEADER_MAP" 1347 (.ref 44), de P "_QUOPRI_BODY_MAP" 1348 (.ref 46), de P "ascii_lowercase" 1350 (.str "abcdefghijklmnopqrstuvwxyz" 1349), de P "ascii_uppercase" 1352 (.str "ABCDEFGHIJKLMNOPQRSTUVWXYZ" 1351), de P "ascii_letters" 1354 (.str "abcdefghijklmnopqrstuvwxyzABCDEFGHIJKLMNOPQRSTUVWXYZ" 1353), de P "digits" 1356 (.str "0123456789" 1355), de P "hexdigits" 1361 (.str "0123456789abcdefABCDEF" 1360), de P "header_check" 1867 (.ref 59), de P "body_check" 1874 (.ref 66), de P "unquote" 1881 (.ref 73), de P "quote" 1888 (.ref 80), de P "header_encode" 1898 (.ref 88), de P "_QUOPRI_BODY_ENCODE_MAP" 1899 (.ref 90), de P "decode" 1919 (.ref 101)] 29), #[]⟩
noncomputable def o29v1 (P : Params) : Obj := ⟨.none, none, (.fields #[(.int (18) 0), (.int (0) 0), (.ref 58), (.int (20) 0), (.int (0) 0), (.ref 65), (.int (22) 0), (.int (0) 0), (.ref 72), (.int (24) 0), (.int (0) 0), (.ref 79), (.int (26) 0), (.int (0) 0), (.ref 87), (.int (35) 0), (.int (0) 0), (.ref 100)]), #[]⟩
noncomputable def o53 (P : Params) : Obj := ⟨(.type "tuple"), none, (.seq #[] 0), #[]⟩
noncomputable def o54 (P : Params) : Obj := ⟨.none, none, (.fields #[]), #[]⟩
noncomputable def o55 (P : Params) : Obj := ⟨(.type "tuple"), none, (.seq #[(.str "octet" 1864)] 0), #[]⟩
noncomputable def o56 (P : Params) : Obj := ⟨(.type "tuple"), none, (.seq #[] 0), #[]⟩
noncomputable def o57 (P : Params) : Obj := ⟨.none, none, (.func ⟨"header_check", "header_check", fa15, .stmts fb15, fs15, 0, [], .none, .none, .none, .none, none, .none, .none, 0⟩), #[]⟩
noncomputable def o58 (P : Params) : Obj := ⟨(.type "code"), none, (.fields #[(.str "header_check" 1861), (.str "header_check" 1862), (.str "/claim/cut.py" 1863), (.int (18) 0), (.int (1) 0), (.int (0) 0), (.int (0) 0), (.int (3) 0), (.ref 53), (.bool true), (.int (276) 0), (.ref 54), .none, (.ref 55), (.ref 56), (.ref 57), (.int (1865) 0), (.int (18) 0), (.str "/claim/cut.py" 1866)]), #[]⟩
noncomputable def o59 (P : Params) : Obj := ⟨(.type "function"), none, (.func ⟨"header_check", "header_check", fa15, .stmts fb15, fs15, 3, [], .none, .none, .none, (.str "cpy313.email.quoprimime" 1362), none, (.ref 58), .none, 0⟩), #[]⟩
noncomputable def o60 (P : Params) : Obj := ⟨(.type "tuple"), none, (.seq #[] 0), #[]⟩
noncomputable def o61 (P : Params) : Obj := ⟨.none, none, (.fields #[]), #[]⟩
noncomputable def o62 (P : Params) : Obj := ⟨(.type "tuple"), none, (.seq #[(.str "octet" 1871)] 0), #[]⟩
noncomputable def o63 (P : Params) : Obj := ⟨(.type "tuple"), none, (.seq #[] 0), #[]⟩
noncomputable def o64 (P : Params) : Obj := ⟨.none, none, (.func ⟨"body_check", "body_check", fa16, .stmts fb16, fs16, 0, [], .none, .none, .none, .none, none, .none, .none, 0⟩), #[]⟩
noncomputable def o65 (P : Params) : Obj := ⟨(.type "code"), none, (.fields #[(.str "body_check" 1868), (.str "body_check" 1869), (.str "/claim/cut.py" 1870), (.int (20) 0), (.int (1) 0), (.int (0) 0), (.int (0) 0), (.int (3) 0), (.ref 60), (.bool true), (.int (276) 0), (.ref 61), .none, (.ref 62), (.ref 63), (.ref 64), (.int (1872) 0), (.int (20) 0), (.str "/claim/cut.py" 1873)]), #[]⟩
noncomputable def o66 (P : Params) : Obj := ⟨(.type "function"), none, (.func ⟨"body_check", "body_check", fa16, .stmts fb16, fs16, 3, [], .none, .none, .none, (.str "cpy313.email.quoprimime" 1362), none, (.ref 65), .none, 0⟩), #[]⟩
noncomputable def o67 (P : Params) : Obj := ⟨(.type "tuple"), none, (.seq #[] 0), #[]⟩
noncomputable def o68 (P : Params) : Obj := ⟨.none, none, (.fields #[]), #[]⟩
noncomputable def o69 (P : Params) : Obj := ⟨(.type "tuple"), none, (.seq #[(.str "s" 1878)] 0), #[]⟩
noncomputable def o70 (P : Params) : Obj := ⟨(.type "tuple"), none, (.seq #[] 0), #[]⟩
noncomputable def o71 (P : Params) : Obj := ⟨.none, none, (.func ⟨"unquote", "unquote", fa17, .stmts fb17, fs17, 0, [], .none, .none, .none, .none, none, .none, .none, 0⟩), #[]⟩
noncomputable def o72 (P : Params) : Obj := ⟨(.type "code"), none, (.fields #[(.str "unquote" 1875), (.str "unquote" 1876), (.str "/claim/cut.py" 1877), (.int (22) 0), (.int (1) 0), (.int (0) 0), (.int (0) 0), (.int (3) 0), (.ref 67), (.bool true), (.int (276) 0), (.ref 68), .none, (.ref 69), (.ref 70), (.ref 71), (.int (1879) 0), (.int (22) 0), (.str "/claim/cut.py" 1880)]), #[]⟩
noncomputable def o73 (P : Params) : Obj := ⟨(.type "function"), none, (.func ⟨"unquote", "unquote", fa17, .stmts fb17, fs17, 3, [], .none, .none, .none, (.str "cpy313.email.quoprimime" 1362), none, (.ref 72), .none, 0⟩), #[]⟩
noncomputable def o74 (P : Params) : Obj := ⟨(.type "tuple"), none, (.seq #[] 0), #[]⟩
noncomputable def o75 (P : Params) : Obj := ⟨.none, none, (.fields #[]), #[]⟩
noncomputable def o76 (P : Params) : Obj := ⟨(.type "tuple"), none, (.seq #[(.str "c" 1885)] 0), #[]⟩
noncomputable def o77 (P : Params) : Obj := ⟨(.type "tuple"), none, (.seq #[] 0), #[]⟩
noncomputable def o78 (P : Params) : Obj := ⟨.none, none, (.func ⟨"quote", "quote", fa18, .stmts fb18, fs18, 0, [], .none, .none, .none, .none, none, .none, .none, 0⟩), #[]⟩
noncomputable def o79 (P : Params) : Obj := ⟨(.type "code"), none, (.fields #[(.str "quote" 1882), (.str "quote" 1883), (.str "/claim/cut.py" 1884), (.int (24) 0), (.int (1) 0), (.int (0) 0), (.int (0) 0), (.int (3) 0), (.ref 74), (.bool true), (.int (276) 0), (.ref 75), .none, (.ref 76), (.ref 77), (.ref 78), (.int (1886) 0), (.int (24) 0), (.str "/claim/cut.py" 1887)]), #[]⟩
noncomputable def o80 (P : Params) : Obj := ⟨(.type "function"), none, (.func ⟨"quote", "quote", fa18, .stmts fb18, fs18, 3, [], .none, .none, .none, (.str "cpy313.email.quoprimime" 1362), none, (.ref 79), .none, 0⟩), #[]⟩
noncomputable def o81 (P : Params) : Obj := ⟨(.type "tuple"), none, (.seq #[(.str "iso-8859-1" 1889)] 0), #[]⟩
noncomputable def o82 (P : Params) : Obj := ⟨(.type "tuple"), none, (.seq #[] 0), #[]⟩
noncomputable def o83 (P : Params) : Obj := ⟨.none, none, (.fields #[]), #[]⟩
noncomputable def o84 (P : Params) : Obj := ⟨(.type "tuple"), none, (.seq #[(.str "header_bytes" 1893), (.str "charset" 1894), (.str "encoded" 1895)] 0), #[]⟩
noncomputable def o85 (P : Params) : Obj := ⟨(.type "tuple"), none, (.seq #[] 0), #[]⟩
noncomputable def o86 (P : Params) : Obj := ⟨.none, none, (.func ⟨"header_encode", "header_encode", fa19, .stmts fb19, fs19, 0, [], .none, .none, .none, .none, none, .none, .none, 0⟩), #[]⟩
noncomputable def o87 (P : Params) : Obj := ⟨(.type "code"), none, (.fields #[(.str "header_encode" 1890), (.str "header_encode" 1891), (.str "/claim/cut.py" 1892), (.int (26) 0), (.int (2) 0), (.int (0) 0), (.int (0) 0), (.int (3) 0), (.ref 82), (.bool true), (.int (276) 0), (.ref 83), .none, (.ref 84), (.ref 85), (.ref 86), (.int (1896) 0), (.int (26) 0), (.str "/claim/cut.py" 1897)]), #[]⟩
noncomputable def o88 (P : Params) : Obj := ⟨(.type "function"), none, (.func ⟨"header_encode", "header_encode", fa19, .stmts fb19, fs19, 3, [], (.ref 81), .none, .none, (.str "cpy313.email.quoprimime" 1362), none, (.ref 87), .none, 0⟩), #[]⟩
noncomputable def o89 (P : Params) : Obj := ⟨(.type "slice"), none, (.fields #[.none, .none, .none]), #[]⟩
noncomputable def o90 (P : Params) : Obj := ⟨(.type "list"), none, (.seq (List.toArray [q 0, q 1, q 2, q 3, q 4, q 5, q 6, q 7, q 8, h 9 1860, h 10 1906, q 11, q 12, h 13 1903, q 14, q 15, q 16, q 17, q 18, q 19, q 20, q 21, q 22, q 23, q 24, q 25, q 26, q 27, q 28, q 29, q 30, q 31, h 32 1578, h 33 1581, h 34 1584, h 35 1587, h 36 1590, h 37 1593, h 38 1596, h 39 1599, h 40 1602, h 41 1605, h 42 1608, h 43 1611, h 44 1614, h 45 1617, h 46 1620, h 47 1623, h 48 1626, h 49 1629, h 50 1632, h 51 1635, h 52 1638, h 53 1641, h 54 1644, h 55 1647, h 56 1650, h 57 1653, h 58 1656, h 59 1659, h 60 1662, q 61, h 62 1665, h 63 1668, h 64 1671, h 65 1674, h 66 1677, h 67 1680, h 68 1683, h 69 1686, h 70 1689, h 71 1692, h 72 1695, h 73 1698, h 74 1701, h 75 1704, h 76 1707, h 77 1710, h 78 1713, h 79 1716, h 80 1719, h 81 1722, h 82 1725, h 83 1728, h 84 1731, h 85 1734, h 86 1737, h 87 1740, h 88 1743, h 89 1746, h 90 1749, h 91 1752, h 92 1755, h 93 1758, h 94 1761, h 95 1764, h 96 1767, h 97 1770, h 98 1773, h 99 1776, h 100 1779, h 101 1782, h 102 1785, h 103 1788, h 104 1791, h 105 1794, h 106 1797, h 107 1800, h 108 1803, h 109 1806, h 110 1809, h 111 1812, h 112 1815, h 113 1818, h 114 1821, h 115 1824, h 116 1827, h 117 1830, h 118 1833, h 119 1836, h 120 1839, h 121 1842, h 122 1845, h 123 1848, h 124 1851, h 125 1854, h 126 1857, q 127, q 128, q 129, q 130, q 131, q 132, q 133, q 134, q 135, q 136, q 137, q 138, q 139, q 140, q 141, q 142, q 143, q 144, q 145, q 146, q 147, q 148, q 149, q 150, q 151, q 152, q 153, q 154, q 155, q 156, q 157, q 158, q 159, q 160, q 161, q 162, q 163, q 164, q 165, q 166, q 167, q 168, q 169, q 170, q 171, q 172, q 173, q 174, q 175, q 176, q 177, q 178, q 179, q 180, q 181, q 182, q 183, q 184, q 185, q 186, q 187, q 188, q 189, q 190, q 191, q 192, q 193, q 194, q 195, q 196, q 197, q 198, q 199, q 200, q 201, q 202, q 203, q 204, q 205, q 206, q 207, q 208, q 209, q 210, q 211, q 212, q 213, q 214, q 215, q 216, q 217, q 218, q 219, q 220, q 221, q 222, q 223, q 224, q 225, q 226, q 227, q 228, q 229, q 230, q 231, q 232, q 233, q 234, q 235, q 236, q 237, q 238, q 239, q 240, q 241, q 242, q 243, q 244, q 245, q 246, q 247, q 248, q 249, q 250, q 251, q 252, q 253, q 254, q 255]) 0), #[]⟩
noncomputable def o91 (P : Params) : Obj := ⟨(.type "bytes_iterator"), none, (.fields #[.none, (.int (2) 0)]), #[]⟩
noncomputable def o92 (P : Params) : Obj := ⟨(.type "tuple"), none, (.seq #[] 0), #[]⟩
noncomputable def o93 (P : Params) : Obj := ⟨(.type "StopIteration"), none, (.fields #[(.ref 92), .none, .none, .none, (.bool false), .none]), #[]⟩
noncomputable def o94 (P : Params) : Obj := ⟨(.type "tuple"), none, (.seq #[(.str "\n" 317)] 0), #[]⟩
noncomputable def o95 (P : Params) : Obj := ⟨(.type "tuple"), none, (.seq #[] 0), #[]⟩
noncomputable def o96 (P : Params) : Obj := ⟨.none, none, (.fields #[]), #[]⟩
noncomputable def o97 (P : Params) : Obj := ⟨(.type "tuple"), none, (.seq #[(.str "encoded" 1910), (.str "eol" 1911), (.str "decoded" 1912), (.str "line" 1913), (.str "i" 1914), (.str "n" 1915), (.str "c" 1916)] 0), #[]⟩
noncomputable def o98 (P : Params) : Obj := ⟨(.type "tuple"), none, (.seq #[] 0), #[]⟩
noncomputable def o99 (P : Params) : Obj := ⟨.none, none, (.func ⟨"decode", "decode", fa23, .stmts fb23, fs23, 0, [], .none, .none, .none, .none, none, .none, .none, 0⟩), #[]⟩
noncomputable def o100 (P : Params) : Obj := ⟨(.type "code"), none, (.fields #[(.str "decode" 1907), (.str "decode" 1908), (.str "/claim/cut.py" 1909), (.int (35) 0), (.int (2) 0), (.int (0) 0), (.int (0) 0), (.int (3) 0), (.ref 95), (.bool true), (.int (276) 0), (.ref 96), .none, (.ref 97), (.ref 98), (.ref 99), (.int (1917) 0), (.int (35) 0), (.str "/claim/cut.py" 1918)]), #[]⟩
noncomputable def o101 (P : Params) : Obj := ⟨(.type "function"), none, (.func ⟨"decode", "decode", fa23, .stmts fb23, fs23, 3, [], (.ref 94), .none, .none, (.str "cpy313.email.quoprimime" 1362), none, (.ref 100), .none, 0⟩), #[]⟩
noncomputable def trl (P : Params) : BT := (.node (o0 P) (.node (o1 P) (.node (o3v24 P) (.node (o7 P) (.node (o15 P) (.node (o31 P) (.node (o63 P) .nil .nil) (.node (o95 P) .nil .nil)) (.node (o47v7 P) (.node (o79 P) .nil .nil) .nil)) (.node (o23 P) (.node (o39v17 P) (.node (o71 P) .nil .nil) .nil) (.node (o55 P) (.node (o87 P) .nil .nil) .nil))) (.node (o11v1 P) (.node (o19 P) (.node (o35 P) (.node (o67 P) .nil .nil) (.node (o99 P) .nil .nil)) (.node (o51 P) (.node (o83 P) .nil .nil) .nil)) (.node (o27 P) (.node (o43 P) (.node (o75 P) .nil .nil) .nil) (.node (o59 P) (.node (o91 P) .nil .nil) .nil)))) (.node (o5 P) (.node (o9 P) (.node (o17 P) (.node (o33 P) (.node (o65 P) .nil .nil) (.node (o97 P) .nil .nil)) (.node (o49 P) (.node (o81 P) .nil .nil) .nil)) (.node (o25 P) (.node (o41 P) (.node (o73 P) .nil .nil) .nil) (.node (o57 P) (.node (o89 P) .nil .nil) .nil))) (.node (o13 P) (.node (o21 P) (.node (o37 P) (.node (o69 P) .nil .nil) (.node (o101 P) .nil .nil)) (.node (o53 P) (.node (o85 P) .nil .nil) .nil)) (.node (o29v1 P) (.node (o45 P) (.node (o77 P) .nil .nil) .nil) (.node (o61 P) (.node (o93 P) .nil .nil) .nil))))) (.node (o2 P) (.node (o4 P) (.node (o8 P) (.node (o16 P) (.node (o32 P) (.node (o64 P) .nil .nil) (.node (o96 P) .nil .nil)) (.node (o48 P) (.node (o80 P) .nil .nil) .nil)) (.node (o24 P) (.node (o40v18 P) (.node (o72 P) .nil .nil) .nil) (.node (o56 P) (.node (o88 P) .nil .nil) .nil))) (.node (o12 P) (.node (o20 P) (.node (o36 P) (.node (o68 P) .nil .nil) (.node (o100 P) .nil .nil)) (.node (o52 P) (.node (o84 P) .nil .nil) .nil)) (.node (o28 P) (.node (o44v8 P) (.node (o76 P) .nil .nil) .nil) (.node (o60 P) (.node (o92 P) .nil .nil) .nil)))) (.node (o6 P) (.node (o10 P) (.node (o18 P) (.node (o34 P) (.node (o66 P) .nil .nil) (.node (o98 P) .nil .nil)) (.node (o50v11 P) (.node (o82 P) .nil .nil) .nil)) (.node (o26 P) (.node (o42 P) (.node (o74 P) .nil .nil) .nil) (.node (o58 P) (.node (o90 P) .nil .nil) .nil))) (.node (o14 P) (.node (o22 P) (.node (o38v17 P) (.node (o70 P) .nil .nil) .nil) (.node (o54 P) (.node (o86 P) .nil .nil) .nil)) (.node (o30 P) (.node (o46v11 P) (.node (o78 P) .nil .nil) .nil) (.node (o62 P) (.node (o94 P) .nil .nil) .nil))))))
noncomputable def Sl (w : World) (os : OsState) : SharedT := ⟨trl w.params, 102, {}, ⟨[]⟩, {}, 1920, os⟩
noncomputable def o3v25 (P : Params) : Obj := ⟨(.type "dict"), none, (.dict #[de P "__name__" 165 (.str "law_pd0096_01" 1952), de P "__doc__" 166 .none, de P "__package__" 167 .none, de P "__loader__" 168 (.builtin "__main__.__loader__#opaque"), de P "__spec__" 169 .none, de P "__annotations__" 170 (.ref 6), de P "__builtins__" 171 (.ref 4), de P "__file__" 173 (.str "/claim/cut.py" 172), de P "__cached__" 174 .none, de P "_sre" 275 (.ref 12), de P "_twin_re_1" 316 (.ref 36), de P "NL" 318 (.str "\n" 317), de P "_QUOPRI_MAP" 1346 (.ref 39), de P "_QUOPRI_HEADER_MAP" 1347 (.ref 44), de P "_QUOPRI_BODY_MAP" 1348 (.ref 46), de P "ascii_lowercase" 1350 (.str "abcdefghijklmnopqrstuvwxyz" 1349), de P "ascii_uppercase" 1352 (.str "ABCDEFGHIJKLMNOPQRSTUVWXYZ" 1351), de P "ascii_letters" 1354 (.str "abcdefghijklmnopqrstuvwxyzABCDEFGHIJKLMNOPQRSTUVWXYZ" 1353), de P "digits" 1356 (.str "0123456789" 1355), de P "hexdigits" 1361 (.str "0123456789abcdefABCDEF" 1360), de P "header_check" 1867 (.ref 59), de P "body_check" 1874 (.ref 66), de P "unquote" 1881 (.ref 73), de P "quote" 1888 (.ref 80), de P "header_encode" 1898 (.ref 88), de P "_QUOPRI_BODY_ENCODE_MAP" 1899 (.ref 90), de P "decode" 1919 (.ref 101), de P "_unquote_match" 1927 (.ref 108), de P "header_decode" 1934 (.ref 115), de P "_strcoll" 1944 (.ref 122), de P "_strxfrm" 1951 (.ref 129), de P "_law_word" 1959 (.ref 134), de P "_law_order" 1968 (.ref 141), de P "_law_figures" 1974 (.ref 146), de P "_law_rising" 1980 (.ref 151), de P "_law_checked" 1990 (.ref 158), de P "law" 1996 (.ref 163)] 39), #[]⟩
noncomputable def o29v2 (P : Params) : Obj := ⟨.none, none, (.fields (List.toArray [(.int (18) 0), (.int (0) 0), (.ref 58), (.int (20) 0), (.int (0) 0), (.ref 65), (.int (22) 0), (.int (0) 0), (.ref 72), (.int (24) 0), (.int (0) 0), (.ref 79), (.int (26) 0), (.int (0) 0), (.ref 87), (.int (35) 0), (.int (0) 0), (.ref 100), (.int (65) 0), (.int (0) 0), (.ref 107), (.int (68) 0), (.int (0) 0), (.ref 114), (.int (72) 0), (.int (0) 0), (.ref 121), (.int (74) 0), (.int (0) 0), (.ref 128), (.int (77) 0), (.int (0) 0), (.ref 133), (.int (79) 0), (.int (0) 0), (.ref 140), (.int (84) 0), (.int (0) 0), (.ref 145), (.int (87) 0), (.int (0) 0), (.ref 150), (.int (93) 0), (.int (0) 0), (.ref 157), (.int (100) 0), (.int (0) 0), (.ref 162)])), #[]⟩
noncomputable def o102 (P : Params) : Obj := ⟨(.type "tuple"), none, (.seq #[] 0), #[]⟩
noncomputable def o103 (P : Params) : Obj := ⟨.none, none, (.fields #[]), #[]⟩
noncomputable def o104 (P : Params) : Obj := ⟨(.type "tuple"), none, (.seq #[(.str "match" 1923), (.str "s" 1924)] 0), #[]⟩
noncomputable def o105 (P : Params) : Obj := ⟨(.type "tuple"), none, (.seq #[] 0), #[]⟩
noncomputable def o106 (P : Params) : Obj := ⟨.none, none, (.func ⟨"_unquote_match", "_unquote_match", fa24, .stmts fb24, fs24, 0, [], .none, .none, .none, .none, none, .none, .none, 0⟩), #[]⟩
noncomputable def o107 (P : Params) : Obj := ⟨(.type "code"), none, (.fields #[(.str "_unquote_match" 1920), (.str "_unquote_match" 1921), (.str "/claim/cut.py" 1922), (.int (65) 0), (.int (1) 0), (.int (0) 0), (.int (0) 0), (.int (3) 0), (.ref 102), (.bool true), (.int (276) 0), (.ref 103), .none, (.ref 104), (.ref 105), (.ref 106), (.int (1925) 0), (.int (65) 0), (.str "/claim/cut.py" 1926)]), #[]⟩
noncomputable def o108 (P : Params) : Obj := ⟨(.type "function"), none, (.func ⟨"_unquote_match", "_unquote_match", fa24, .stmts fb24, fs24, 3, [], .none, .none, .none, (.str "cpy313.email.quoprimime" 1362), none, (.ref 107), .none, 0⟩), #[]⟩
noncomputable def o109 (P : Params) : Obj := ⟨(.type "tuple"), none, (.seq #[] 0), #[]⟩
noncomputable def o110 (P : Params) : Obj := ⟨.none, none, (.fields #[]), #[]⟩
noncomputable def o111 (P : Params) : Obj := ⟨(.type "tuple"), none, (.seq #[(.str "s" 1931)] 0), #[]⟩
noncomputable def o112 (P : Params) : Obj := ⟨(.type "tuple"), none, (.seq #[] 0), #[]⟩
noncomputable def o113 (P : Params) : Obj := ⟨.none, none, (.func ⟨"header_decode", "header_decode", fa25, .stmts fb25, fs25, 0, [], .none, .none, .none, .none, none, .none, .none, 0⟩), #[]⟩
noncomputable def o114 (P : Params) : Obj := ⟨(.type "code"), none, (.fields #[(.str "header_decode" 1928), (.str "header_decode" 1929), (.str "/claim/cut.py" 1930), (.int (68) 0), (.int (1) 0), (.int (0) 0), (.int (0) 0), (.int (3) 0), (.ref 109), (.bool true), (.int (276) 0), (.ref 110), .none, (.ref 111), (.ref 112), (.ref 113), (.int (1932) 0), (.int (68) 0), (.str "/claim/cut.py" 1933)]), #[]⟩
noncomputable def o115 (P : Params) : Obj := ⟨(.type "function"), none, (.func ⟨"header_decode", "header_decode", fa25, .stmts fb25, fs25, 3, [], .none, .none, .none, (.str "cpy313.email.quoprimime" 1362), none, (.ref 114), .none, 0⟩), #[]⟩
noncomputable def o116 (P : Params) : Obj := ⟨(.type "tuple"), none, (.seq #[] 0), #[]⟩
noncomputable def o117 (P : Params) : Obj := ⟨.none, none, (.fields #[]), #[]⟩
noncomputable def o118 (P : Params) : Obj := ⟨(.type "tuple"), none, (.seq #[(.str "a" 1940), (.str "b" 1941)] 0), #[]⟩
noncomputable def o119 (P : Params) : Obj := ⟨(.type "tuple"), none, (.seq #[] 0), #[]⟩
noncomputable def o120 (P : Params) : Obj := ⟨.none, none, (.func ⟨"_strcoll", "_strcoll", fa27, .stmts fb27, fs27, 0, [], .none, .none, .none, .none, none, .none, .none, 0⟩), #[]⟩
noncomputable def o121 (P : Params) : Obj := ⟨(.type "code"), none, (.fields #[(.str "_strcoll" 1937), (.str "_strcoll" 1938), (.str "/claim/cut.py" 1939), (.int (72) 0), (.int (2) 0), (.int (0) 0), (.int (0) 0), (.int (3) 0), (.ref 116), (.bool true), (.int (276) 0), (.ref 117), .none, (.ref 118), (.ref 119), (.ref 120), (.int (1942) 0), (.int (72) 0), (.str "/claim/cut.py" 1943)]), #[]⟩
noncomputable def o122 (P : Params) : Obj := ⟨(.type "function"), none, (.func ⟨"_strcoll", "_strcoll", fa27, .stmts fb27, fs27, 3, [], .none, .none, .none, (.str "cpy313.locale" 1935), none, (.ref 121), .none, 0⟩), #[]⟩
noncomputable def o123 (P : Params) : Obj := ⟨(.type "tuple"), none, (.seq #[] 0), #[]⟩
noncomputable def o124 (P : Params) : Obj := ⟨.none, none, (.fields #[]), #[]⟩
noncomputable def o125 (P : Params) : Obj := ⟨(.type "tuple"), none, (.seq #[(.str "s" 1948)] 0), #[]⟩
noncomputable def o126 (P : Params) : Obj := ⟨(.type "tuple"), none, (.seq #[] 0), #[]⟩
noncomputable def o127 (P : Params) : Obj := ⟨.none, none, (.func ⟨"_strxfrm", "_strxfrm", fa28, .stmts fb28, fs28, 0, [], .none, .none, .none, .none, none, .none, .none, 0⟩), #[]⟩
noncomputable def o128 (P : Params) : Obj := ⟨(.type "code"), none, (.fields #[(.str "_strxfrm" 1945), (.str "_strxfrm" 1946), (.str "/claim/cut.py" 1947), (.int (74) 0), (.int (1) 0), (.int (0) 0), (.int (0) 0), (.int (3) 0), (.ref 123), (.bool true), (.int (276) 0), (.ref 124), .none, (.ref 125), (.ref 126), (.ref 127), (.int (1949) 0), (.int (74) 0), (.str "/claim/cut.py" 1950)]), #[]⟩
noncomputable def o129 (P : Params) : Obj := ⟨(.type "function"), none, (.func ⟨"_strxfrm", "_strxfrm", fa28, .stmts fb28, fs28, 3, [], .none, .none, .none, (.str "cpy313.locale" 1935), none, (.ref 128), .none, 0⟩), #[]⟩
noncomputable def o130 (P : Params) : Obj := ⟨(.type "tuple"), none, (.seq #[] 0), #[]⟩
noncomputable def o131 (P : Params) : Obj := ⟨.none, none, (.fields #[]), #[]⟩
noncomputable def o132 (P : Params) : Obj := ⟨.none, none, (.func ⟨"_law_word", "_law_word", fa30, .stmts fb30, fs30, 0, [], .none, .none, .none, .none, none, .none, .none, 0⟩), #[]⟩
noncomputable def o133 (P : Params) : Obj := ⟨(.type "code"), none, (.fields #[(.str "_law_word" 1954), (.str "_law_word" 1955), (.str "/claim/cut.py" 1956), (.int (77) 0), (.int (1) 0), (.int (0) 0), (.int (0) 0), (.int (3) 0), (.ref 130), (.bool true), (.int (276) 0), (.ref 131), .none, .none, .none, (.ref 132), (.int (1957) 0), (.int (77) 0), (.str "/claim/cut.py" 1958)]), #[]⟩
noncomputable def o134 (P : Params) : Obj := ⟨(.type "function"), none, (.func ⟨"_law_word", "_law_word", fa30, .stmts fb30, fs30, 3, [], .none, .none, .none, (.str "law_pd0096_01" 1952), none, (.ref 133), .none, 0⟩), #[]⟩
noncomputable def o135 (P : Params) : Obj := ⟨(.type "tuple"), none, (.seq #[] 0), #[]⟩
noncomputable def o136 (P : Params) : Obj := ⟨.none, none, (.fields #[]), #[]⟩
noncomputable def o137 (P : Params) : Obj := ⟨(.type "tuple"), none, (.seq #[(.str "one" 1963), (.str "two" 1964), (.str "k" 1965)] 0), #[]⟩
noncomputable def o138 (P : Params) : Obj := ⟨(.type "tuple"), none, (.seq #[] 0), #[]⟩
noncomputable def o139 (P : Params) : Obj := ⟨.none, none, (.func ⟨"_law_order", "_law_order", fa31, .stmts fb31, fs31, 0, [], .none, .none, .none, .none, none, .none, .none, 0⟩), #[]⟩
noncomputable def o140 (P : Params) : Obj := ⟨(.type "code"), none, (.fields #[(.str "_law_order" 1960), (.str "_law_order" 1961), (.str "/claim/cut.py" 1962), (.int (79) 0), (.int (2) 0), (.int (0) 0), (.int (0) 0), (.int (3) 0), (.ref 135), (.bool true), (.int (276) 0), (.ref 136), .none, (.ref 137), (.ref 138), (.ref 139), (.int (1966) 0), (.int (79) 0), (.str "/claim/cut.py" 1967)]), #[]⟩
noncomputable def o141 (P : Params) : Obj := ⟨(.type "function"), none, (.func ⟨"_law_order", "_law_order", fa31, .stmts fb31, fs31, 3, [], .none, .none, .none, (.str "law_pd0096_01" 1952), none, (.ref 140), .none, 0⟩), #[]⟩
noncomputable def o142 (P : Params) : Obj := ⟨(.type "tuple"), none, (.seq #[] 0), #[]⟩
noncomputable def o143 (P : Params) : Obj := ⟨.none, none, (.fields #[]), #[]⟩
noncomputable def o144 (P : Params) : Obj := ⟨.none, none, (.func ⟨"_law_figures", "_law_figures", fa32, .stmts fb32, fs32, 0, [], .none, .none, .none, .none, none, .none, .none, 0⟩), #[]⟩
noncomputable def o145 (P : Params) : Obj := ⟨(.type "code"), none, (.fields #[(.str "_law_figures" 1969), (.str "_law_figures" 1970), (.str "/claim/cut.py" 1971), (.int (84) 0), (.int (1) 0), (.int (0) 0), (.int (0) 0), (.int (3) 0), (.ref 142), (.bool true), (.int (276) 0), (.ref 143), .none, .none, .none, (.ref 144), (.int (1972) 0), (.int (84) 0), (.str "/claim/cut.py" 1973)]), #[]⟩
noncomputable def o146 (P : Params) : Obj := ⟨(.type "function"), none, (.func ⟨"_law_figures", "_law_figures", fa32, .stmts fb32, fs32, 3, [], .none, .none, .none, (.str "law_pd0096_01" 1952), none, (.ref 145), .none, 0⟩), #[]⟩
noncomputable def o147 (P : Params) : Obj := ⟨(.type "tuple"), none, (.seq #[] 0), #[]⟩
noncomputable def o148 (P : Params) : Obj := ⟨.none, none, (.fields #[]), #[]⟩
noncomputable def o149 (P : Params) : Obj := ⟨.none, none, (.func ⟨"_law_rising", "_law_rising", fa33, .stmts fb33, fs33, 0, [], .none, .none, .none, .none, none, .none, .none, 0⟩), #[]⟩
noncomputable def o150 (P : Params) : Obj := ⟨(.type "code"), none, (.fields #[(.str "_law_rising" 1975), (.str "_law_rising" 1976), (.str "/claim/cut.py" 1977), (.int (87) 0), (.int (1) 0), (.int (0) 0), (.int (0) 0), (.int (3) 0), (.ref 147), (.bool true), (.int (276) 0), (.ref 148), .none, .none, .none, (.ref 149), (.int (1978) 0), (.int (87) 0), (.str "/claim/cut.py" 1979)]), #[]⟩
noncomputable def o151 (P : Params) : Obj := ⟨(.type "function"), none, (.func ⟨"_law_rising", "_law_rising", fa33, .stmts fb33, fs33, 3, [], .none, .none, .none, (.str "law_pd0096_01" 1952), none, (.ref 150), .none, 0⟩), #[]⟩
noncomputable def o152 (P : Params) : Obj := ⟨(.type "tuple"), none, (.seq #[] 0), #[]⟩
noncomputable def o153 (P : Params) : Obj := ⟨.none, none, (.fields #[]), #[]⟩
noncomputable def o154 (P : Params) : Obj := ⟨(.type "tuple"), none, (.seq #[(.str "sign" 1984), (.str "octet" 1985), (.str "plain" 1986), (.str "inner" 1987)] 0), #[]⟩
noncomputable def o155 (P : Params) : Obj := ⟨(.type "tuple"), none, (.seq #[] 0), #[]⟩
noncomputable def o156 (P : Params) : Obj := ⟨.none, none, (.func ⟨"_law_checked", "_law_checked", fa34, .stmts fb34, fs34, 0, [], .none, .none, .none, .none, none, .none, .none, 0⟩), #[]⟩
noncomputable def o157 (P : Params) : Obj := ⟨(.type "code"), none, (.fields #[(.str "_law_checked" 1981), (.str "_law_checked" 1982), (.str "/claim/cut.py" 1983), (.int (93) 0), (.int (1) 0), (.int (0) 0), (.int (0) 0), (.int (3) 0), (.ref 152), (.bool true), (.int (276) 0), (.ref 153), .none, (.ref 154), (.ref 155), (.ref 156), (.int (1988) 0), (.int (93) 0), (.str "/claim/cut.py" 1989)]), #[]⟩
noncomputable def o158 (P : Params) : Obj := ⟨(.type "function"), none, (.func ⟨"_law_checked", "_law_checked", fa34, .stmts fb34, fs34, 3, [], .none, .none, .none, (.str "law_pd0096_01" 1952), none, (.ref 157), .none, 0⟩), #[]⟩
noncomputable def o159 (P : Params) : Obj := ⟨(.type "tuple"), none, (.seq #[] 0), #[]⟩
noncomputable def o160 (P : Params) : Obj := ⟨.none, none, (.fields #[]), #[]⟩
noncomputable def o161 (P : Params) : Obj := ⟨.none, none, (.func ⟨"law", "law", fa35, .stmts fb35, fs35, 0, [], .none, .none, .none, .none, none, .none, .none, 0⟩), #[]⟩
noncomputable def o162 (P : Params) : Obj := ⟨(.type "code"), none, (.fields #[(.str "law" 1991), (.str "law" 1992), (.str "/claim/cut.py" 1993), (.int (100) 0), (.int (1) 0), (.int (0) 0), (.int (0) 0), (.int (3) 0), (.ref 159), (.bool true), (.int (276) 0), (.ref 160), .none, .none, .none, (.ref 161), (.int (1994) 0), (.int (100) 0), (.str "/claim/cut.py" 1995)]), #[]⟩
noncomputable def o163 (P : Params) : Obj := ⟨(.type "function"), none, (.func ⟨"law", "law", fa35, .stmts fb35, fs35, 3, [], .none, .none, .none, (.str "law_pd0096_01" 1952), none, (.ref 162), .none, 0⟩), #[]⟩
noncomputable def trm (P : Params) : BT := (.node (o0 P) (.node (o1 P) (.node (o3v25 P) (.node (o7 P) (.node (o15 P) (.node (o31 P) (.node (o63 P) (.node (o127 P) .nil .nil) .nil) (.node (o95 P) (.node (o159 P) .nil .nil) .nil)) (.node (o47v7 P) (.node (o79 P) (.node (o143 P) .nil .nil) .nil) (.node (o111 P) .nil .nil))) (.node (o23 P) (.node (o39v17 P) (.node (o71 P) (.node (o135 P) .nil .nil) .nil) (.node (o103 P) .nil .nil)) (.node (o55 P) (.node (o87 P) (.node (o151 P) .nil .nil) .nil) (.node (o119 P) .nil .nil)))) (.node (o11v1 P) (.node (o19 P) (.node (o35 P) (.node (o67 P) (.node (o131 P) .nil .nil) .nil) (.node (o99 P) (.node (o163 P) .nil .nil) .nil)) (.node (o51 P) (.node (o83 P) (.node (o147 P) .nil .nil) .nil) (.node (o115 P) .nil .nil))) (.node (o27 P) (.node (o43 P) (.node (o75 P) (.node (o139 P) .nil .nil) .nil) (.node (o107 P) .nil .nil)) (.node (o59 P) (.node (o91 P) (.node (o155 P) .nil .nil) .nil) (.node (o123 P) .nil .nil))))) (.node (o5 P) (.node (o9 P) (.node (o17 P) (.node (o33 P) (.node (o65 P) (.node (o129 P) .nil .nil) .nil) (.node (o97 P) (.node (o161 P) .nil .nil) .nil)) (.node (o49 P) (.node (o81 P) (.node (o145 P) .nil .nil) .nil) (.node (o113 P) .nil .nil))) (.node (o25 P) (.node (o41 P) (.node (o73 P) (.node (o137 P) .nil .nil) .nil) (.node (o105 P) .nil .nil)) (.node (o57 P) (.node (o89 P) (.node (o153 P) .nil .nil) .nil) (.node (o121 P) .nil .nil)))) (.node (o13 P) (.node (o21 P) (.node (o37 P) (.node (o69 P) (.node (o133 P) .nil .nil) .nil) (.node (o101 P) .nil .nil)) (.node (o53 P) (.node (o85 P) (.node (o149 P) .nil .nil) .nil) (.node (o117 P) .nil .nil))) (.node (o29v2 P) (.node (o45 P) (.node (o77 P) (.node (o141 P) .nil .nil) .nil) (.node (o109 P) .nil .nil)) (.node (o61 P) (.node (o93 P) (.node (o157 P) .nil .nil) .nil) (.node (o125 P) .nil .nil)))))) (.node (o2 P) (.node (o4 P) (.node (o8 P) (.node (o16 P) (.node (o32 P) (.node (o64 P) (.node (o128 P) .nil .nil) .nil) (.node (o96 P) (.node (o160 P) .nil .nil) .nil)) (.node (o48 P) (.node (o80 P) (.node (o144 P) .nil .nil) .nil) (.node (o112 P) .nil .nil))) (.node (o24 P) (.node (o40v18 P) (.node (o72 P) (.node (o136 P) .nil .nil) .nil) (.node (o104 P) .nil .nil)) (.node (o56 P) (.node (o88 P) (.node (o152 P) .nil .nil) .nil) (.node (o120 P) .nil .nil)))) (.node (o12 P) (.node (o20 P) (.node (o36 P) (.node (o68 P) (.node (o132 P) .nil .nil) .nil) (.node (o100 P) .nil .nil)) (.node (o52 P) (.node (o84 P) (.node (o148 P) .nil .nil) .nil) (.node (o116 P) .nil .nil))) (.node (o28 P) (.node (o44v8 P) (.node (o76 P) (.node (o140 P) .nil .nil) .nil) (.node (o108 P) .nil .nil)) (.node (o60 P) (.node (o92 P) (.node (o156 P) .nil .nil) .nil) (.node (o124 P) .nil .nil))))) (.node (o6 P) (.node (o10 P) (.node (o18 P) (.node (o34 P) (.node (o66 P) (.node (o130 P) .nil .nil) .nil) (.node (o98 P) (.node (o162 P) .nil .nil) .nil)) (.node (o50v11 P) (.node (o82 P) (.node (o146 P) .nil .nil) .nil) (.node (o114 P) .nil .nil))) (.node (o26 P) (.node (o42 P) (.node (o74 P) (.node (o138 P) .nil .nil) .nil) (.node (o106 P) .nil .nil)) (.node (o58 P) (.node (o90 P) (.node (o154 P) .nil .nil) .nil) (.node (o122 P) .nil .nil)))) (.node (o14 P) (.node (o22 P) (.node (o38v17 P) (.node (o70 P) (.node (o134 P) .nil .nil) .nil) (.node (o102 P) .nil .nil)) (.node (o54 P) (.node (o86 P) (.node (o150 P) .nil .nil) .nil) (.node (o118 P) .nil .nil))) (.node (o30 P) (.node (o46v11 P) (.node (o78 P) (.node (o142 P) .nil .nil) .nil) (.node (o110 P) .nil .nil)) (.node (o62 P) (.node (o94 P) (.node (o158 P) .nil .nil) .nil) (.node (o126 P) .nil .nil)))))))
noncomputable def Sm (w : World) (os : OsState) : SharedT := ⟨trm w.params, 164, {}, ⟨[]⟩, {}, 1997, os⟩
noncomputable def ann : Option Value := some (.ref 6)
noncomputable def bdy : List Stmt := behindTheImports PySem.Challenge.pw_pd0096_01
noncomputable def env : Env := { scope := PySem.Challenge.pw_pd0096_01.main.scope, locals := mainNs, globals := mainNs, cells := [], code := .ref 30, frame := some 31 }
noncomputable def cd : Code := .body bdy env
noncomputable def B : List Frame := [topFrame ⟨0, 0, 0, 0⟩]
noncomputable def sts (i n : Nat) : List Stmt := (bdy.drop i).take n
noncomputable def pc (i n : Nat) (pos : Pos) : Thread := piecesOf (sts i n) env cd pos B
noncomputable def GO (w : World) (n : Nat) (s : SharedT) (t : Thread) : Option (SharedT × Thread) := segGoT treeTable PySem.Challenge.pw_pd0096_01 w 28 ann 1 n s t
noncomputable def RUN (w : World) (n : Nat) (s : SharedT) (t : Thread) : Option (Flow × SharedT × Code × Pos) := segRunT treeTable PySem.Challenge.pw_pd0096_01 w 28 ann 1 n s t
noncomputable def thr (x : Option (SharedT × Thread)) : Thread := match x with
  | some (_, t) => t
  | none => ⟨.unsupported "", .call .none ⟨[], []⟩, ⟨0, 0, 0, 0⟩, []⟩
noncomputable def Lg1 : World → OsState → Option (Flow × SharedT × Code × Pos) := fun w os => RUN w 88 (Sa w os) (pc 0 2 ⟨0, 0, 0, 0⟩)
noncomputable def Rg1 : World → OsState → Option (Flow × SharedT × Code × Pos) := fun w os => some (.next, Sb w os, cd, ⟨3, 0, 3, 2⟩)
noncomputable def tc (w : World) (os : OsState) : Thread := thr (GO ((w.withFollow "special-get-raises" true).withFollow "comprehension-iter-twice" true) 79 (Sb ((w.withFollow "special-get-raises" true).withFollow "comprehension-iter-twice" true) os) (pc 2 1 ⟨3, 0, 3, 2⟩))
noncomputable def Lc0xx : World → OsState → Option (SharedT × Thread) := fun w os => GO ((w.withFollow "special-get-raises" true).withFollow "comprehension-iter-twice" true) 79 (Sb ((w.withFollow "special-get-raises" true).withFollow "comprehension-iter-twice" true) os) (pc 2 1 ⟨3, 0, 3, 2⟩)
noncomputable def Rc0xx : World → OsState → Option (SharedT × Thread) := fun w os => some (Sc1 ((w.withFollow "special-get-raises" true).withFollow "comprehension-iter-twice" true) os, tc ((w.withFollow "special-get-raises" true).withFollow "comprehension-iter-twice" true) os)
noncomputable def Lc0xy : World → OsState → Option (SharedT × Thread) := fun w os => GO ((w.withFollow "special-get-raises" false).withFollow "comprehension-iter-twice" true) 79 (Sb ((w.withFollow "special-get-raises" false).withFollow "comprehension-iter-twice" true) os) (pc 2 1 ⟨3, 0, 3, 2⟩)
noncomputable def Rc0xy : World → OsState → Option (SharedT × Thread) := fun w os => some (Sc1 ((w.withFollow "special-get-raises" false).withFollow "comprehension-iter-twice" true) os, tc ((w.withFollow "special-get-raises" false).withFollow "comprehension-iter-twice" true) os)
noncomputable def Lc0yx : World → OsState → Option (SharedT × Thread) := fun w os => GO ((w.withFollow "special-get-raises" true).withFollow "comprehension-iter-twice" false) 89 (Sb ((w.withFollow "special-get-raises" true).withFollow "comprehension-iter-twice" false) os) (pc 2 1 ⟨3, 0, 3, 2⟩)
noncomputable def Rc0yx : World → OsState → Option (SharedT × Thread) := fun w os => some (Sc1 ((w.withFollow "special-get-raises" true).withFollow "comprehension-iter-twice" false) os, tc ((w.withFollow "special-get-raises" true).withFollow "comprehension-iter-twice" false) os)
noncomputable def Lc0yy : World → OsState → Option (SharedT × Thread) := fun w os => GO ((w.withFollow "special-get-raises" false).withFollow "comprehension-iter-twice" false) 89 (Sb ((w.withFollow "special-get-raises" false).withFollow "comprehension-iter-twice" false) os) (pc 2 1 ⟨3, 0, 3, 2⟩)
noncomputable def Rc0yy : World → OsState → Option (SharedT × Thread) := fun w os => some (Sc1 ((w.withFollow "special-get-raises" false).withFollow "comprehension-iter-twice" false) os, tc ((w.withFollow "special-get-raises" false).withFollow "comprehension-iter-twice" false) os)
noncomputable def Lc1 : World → OsState → Option (SharedT × Thread) := fun w os => GO w 555 (Sc1 w os) (tc w os)
noncomputable def Rc1 : World → OsState → Option (SharedT × Thread) := fun w os => some (Sc16 w os, tc w os)
noncomputable def Lc16 : World → OsState → Option (SharedT × Thread) := fun w os => GO w 555 (Sc16 w os) (tc w os)
noncomputable def Rc16 : World → OsState → Option (SharedT × Thread) := fun w os => some (Sc31 w os, tc w os)
noncomputable def Lc31 : World → OsState → Option (SharedT × Thread) := fun w os => GO w 555 (Sc31 w os) (tc w os)
noncomputable def Rc31 : World → OsState → Option (SharedT × Thread) := fun w os => some (Sc46 w os, tc w os)
noncomputable def Lc46 : World → OsState → Option (SharedT × Thread) := fun w os => GO w 555 (Sc46 w os) (tc w os)
noncomputable def Rc46 : World → OsState → Option (SharedT × Thread) := fun w os => some (Sc61 w os, tc w os)
noncomputable def Lc61 : World → OsState → Option (SharedT × Thread) := fun w os => GO w 555 (Sc61 w os) (tc w os)
noncomputable def Rc61 : World → OsState → Option (SharedT × Thread) := fun w os => some (Sc76 w os, tc w os)
noncomputable def Lc76 : World → OsState → Option (SharedT × Thread) := fun w os => GO w 555 (Sc76 w os) (tc w os)
noncomputable def Rc76 : World → OsState → Option (SharedT × Thread) := fun w os => some (Sc91 w os, tc w os)
noncomputable def Lc91 : World → OsState → Option (SharedT × Thread) := fun w os => GO w 555 (Sc91 w os) (tc w os)
noncomputable def Rc91 : World → OsState → Option (SharedT × Thread) := fun w os => some (Sc106 w os, tc w os)
noncomputable def Lc106 : World → OsState → Option (SharedT × Thread) := fun w os => GO w 555 (Sc106 w os) (tc w os)
noncomputable def Rc106 : World → OsState → Option (SharedT × Thread) := fun w os => some (Sc121 w os, tc w os)
noncomputable def Lc121 : World → OsState → Option (SharedT × Thread) := fun w os => GO w 555 (Sc121 w os) (tc w os)
noncomputable def Rc121 : World → OsState → Option (SharedT × Thread) := fun w os => some (Sc136 w os, tc w os)
noncomputable def Lc136 : World → OsState → Option (SharedT × Thread) := fun w os => GO w 555 (Sc136 w os) (tc w os)
noncomputable def Rc136 : World → OsState → Option (SharedT × Thread) := fun w os => some (Sc151 w os, tc w os)
noncomputable def Lc151 : World → OsState → Option (SharedT × Thread) := fun w os => GO w 555 (Sc151 w os) (tc w os)
noncomputable def Rc151 : World → OsState → Option (SharedT × Thread) := fun w os => some (Sc166 w os, tc w os)
noncomputable def Lc166 : World → OsState → Option (SharedT × Thread) := fun w os => GO w 555 (Sc166 w os) (tc w os)
noncomputable def Rc166 : World → OsState → Option (SharedT × Thread) := fun w os => some (Sc181 w os, tc w os)
noncomputable def Lc181 : World → OsState → Option (SharedT × Thread) := fun w os => GO w 555 (Sc181 w os) (tc w os)
noncomputable def Rc181 : World → OsState → Option (SharedT × Thread) := fun w os => some (Sc196 w os, tc w os)
noncomputable def Lc196 : World → OsState → Option (SharedT × Thread) := fun w os => GO w 555 (Sc196 w os) (tc w os)
noncomputable def Rc196 : World → OsState → Option (SharedT × Thread) := fun w os => some (Sc211 w os, tc w os)
noncomputable def Lc211 : World → OsState → Option (SharedT × Thread) := fun w os => GO w 555 (Sc211 w os) (tc w os)
noncomputable def Rc211 : World → OsState → Option (SharedT × Thread) := fun w os => some (Sc226 w os, tc w os)
noncomputable def Lc226 : World → OsState → Option (SharedT × Thread) := fun w os => GO w 555 (Sc226 w os) (tc w os)
noncomputable def Rc226 : World → OsState → Option (SharedT × Thread) := fun w os => some (Sc241 w os, tc w os)
noncomputable def Lc241 : World → OsState → Option (SharedT × Thread) := fun w os => GO w 555 (Sc241 w os) (tc w os)
noncomputable def Rc241 : World → OsState → Option (SharedT × Thread) := fun w os => some (Sc256 w os, tc w os)
noncomputable def Lczx : World → OsState → Option (Flow × SharedT × Code × Pos) := fun w os => RUN w 70 (Sc256 w os) (tc w os)
noncomputable def Rczx : World → OsState → Option (Flow × SharedT × Code × Pos) := fun w os => some (.next, Sd w os, cd, ⟨4, 0, 4, 11⟩)
noncomputable def Lczy : World → OsState → Option (Flow × SharedT × Code × Pos) := fun w os => RUN w 60 (Sc256 w os) (tc w os)
noncomputable def Rczy : World → OsState → Option (Flow × SharedT × Code × Pos) := fun w os => some (.next, Sd w os, cd, ⟨4, 0, 4, 11⟩)
noncomputable def Lg2 : World → OsState → Option (Flow × SharedT × Code × Pos) := fun w os => RUN w 133 (Sd w os) (pc 3 8 ⟨4, 0, 4, 11⟩)
noncomputable def Rg2 : World → OsState → Option (Flow × SharedT × Code × Pos) := fun w os => some (.next, Se w os, cd, ⟨12, 0, 12, 8⟩)
noncomputable def tfl (w : World) (os : OsState) : Thread := thr (GO (w.withFollow "special-get-raises" true) 89 (Se (w.withFollow "special-get-raises" true) os) (pc 11 1 ⟨12, 0, 12, 8⟩))
noncomputable def Lf0x : World → OsState → Option (SharedT × Thread) := fun w os => GO (w.withFollow "special-get-raises" true) 89 (Se (w.withFollow "special-get-raises" true) os) (pc 11 1 ⟨12, 0, 12, 8⟩)
noncomputable def Rf0x : World → OsState → Option (SharedT × Thread) := fun w os => some (Sf1 (w.withFollow "special-get-raises" true) os, tfl (w.withFollow "special-get-raises" true) os)
noncomputable def Lf0y : World → OsState → Option (SharedT × Thread) := fun w os => GO (w.withFollow "special-get-raises" false) 89 (Se (w.withFollow "special-get-raises" false) os) (pc 11 1 ⟨12, 0, 12, 8⟩)
noncomputable def Rf0y : World → OsState → Option (SharedT × Thread) := fun w os => some (Sf1 (w.withFollow "special-get-raises" false) os, tfl (w.withFollow "special-get-raises" false) os)
noncomputable def Lf1 : World → OsState → Option (SharedT × Thread) := fun w os => GO w 495 (Sf1 w os) (tfl w os)
noncomputable def Rf1 : World → OsState → Option (SharedT × Thread) := fun w os => some (Sf12 w os, tfl w os)
noncomputable def Lf12 : World → OsState → Option (SharedT × Thread) := fun w os => GO w 495 (Sf12 w os) (tfl w os)
noncomputable def Rf12 : World → OsState → Option (SharedT × Thread) := fun w os => some (Sf23 w os, tfl w os)
noncomputable def Lf23 : World → OsState → Option (SharedT × Thread) := fun w os => GO w 495 (Sf23 w os) (tfl w os)
noncomputable def Rf23 : World → OsState → Option (SharedT × Thread) := fun w os => some (Sf34 w os, tfl w os)
noncomputable def Lf34 : World → OsState → Option (SharedT × Thread) := fun w os => GO w 495 (Sf34 w os) (tfl w os)
noncomputable def Rf34 : World → OsState → Option (SharedT × Thread) := fun w os => some (Sf45 w os, tfl w os)
noncomputable def Lf45 : World → OsState → Option (SharedT × Thread) := fun w os => GO w 495 (Sf45 w os) (tfl w os)
noncomputable def Rf45 : World → OsState → Option (SharedT × Thread) := fun w os => some (Sf56 w os, tfl w os)
noncomputable def Lf56 : World → OsState → Option (SharedT × Thread) := fun w os => GO w 495 (Sf56 w os) (tfl w os)
noncomputable def Rf56 : World → OsState → Option (SharedT × Thread) := fun w os => some (Sf67 w os, tfl w os)
noncomputable def Lfz : World → OsState → Option (Flow × SharedT × Code × Pos) := fun w os => RUN w 40 (Sf67 w os) (tfl w os)
noncomputable def Rfz : World → OsState → Option (Flow × SharedT × Code × Pos) := fun w os => some (.next, Sg w os, cd, ⟨13, 9, 13, 74⟩)
noncomputable def Lg3 : World → OsState → Option (Flow × SharedT × Code × Pos) := fun w os => RUN w 25 (Sg w os) (pc 12 1 ⟨13, 9, 13, 74⟩)
noncomputable def Rg3 : World → OsState → Option (Flow × SharedT × Code × Pos) := fun w os => some (.next, Si w os, cd, ⟨15, 0, 15, 28⟩)
noncomputable def tjl (w : World) (os : OsState) : Thread := thr (GO (w.withFollow "special-get-raises" true) 55 (Si (w.withFollow "special-get-raises" true) os) (pc 13 1 ⟨15, 0, 15, 28⟩))
noncomputable def Lj0x : World → OsState → Option (SharedT × Thread) := fun w os => GO (w.withFollow "special-get-raises" true) 55 (Si (w.withFollow "special-get-raises" true) os) (pc 13 1 ⟨15, 0, 15, 28⟩)
noncomputable def Rj0x : World → OsState → Option (SharedT × Thread) := fun w os => some (Sj1 (w.withFollow "special-get-raises" true) os, tjl (w.withFollow "special-get-raises" true) os)
noncomputable def Lj0y : World → OsState → Option (SharedT × Thread) := fun w os => GO (w.withFollow "special-get-raises" false) 55 (Si (w.withFollow "special-get-raises" false) os) (pc 13 1 ⟨15, 0, 15, 28⟩)
noncomputable def Rj0y : World → OsState → Option (SharedT × Thread) := fun w os => some (Sj1 (w.withFollow "special-get-raises" false) os, tjl (w.withFollow "special-get-raises" false) os)
noncomputable def Lj1 : World → OsState → Option (SharedT × Thread) := fun w os => GO w 450 (Sj1 w os) (tjl w os)
noncomputable def Rj1 : World → OsState → Option (SharedT × Thread) := fun w os => some (Sj11 w os, tjl w os)
noncomputable def Lj11 : World → OsState → Option (SharedT × Thread) := fun w os => GO w 450 (Sj11 w os) (tjl w os)
noncomputable def Rj11 : World → OsState → Option (SharedT × Thread) := fun w os => some (Sj21 w os, tjl w os)
noncomputable def Lj21 : World → OsState → Option (SharedT × Thread) := fun w os => GO w 450 (Sj21 w os) (tjl w os)
noncomputable def Rj21 : World → OsState → Option (SharedT × Thread) := fun w os => some (Sj31 w os, tjl w os)
noncomputable def Lj31 : World → OsState → Option (SharedT × Thread) := fun w os => GO w 450 (Sj31 w os) (tjl w os)
noncomputable def Rj31 : World → OsState → Option (SharedT × Thread) := fun w os => some (Sj41 w os, tjl w os)
noncomputable def Lj41 : World → OsState → Option (SharedT × Thread) := fun w os => GO w 450 (Sj41 w os) (tjl w os)
noncomputable def Rj41 : World → OsState → Option (SharedT × Thread) := fun w os => some (Sj51 w os, tjl w os)
noncomputable def Lj51 : World → OsState → Option (SharedT × Thread) := fun w os => GO w 450 (Sj51 w os) (tjl w os)
noncomputable def Rj51 : World → OsState → Option (SharedT × Thread) := fun w os => some (Sj61 w os, tjl w os)
noncomputable def Lj61 : World → OsState → Option (SharedT × Thread) := fun w os => GO w 450 (Sj61 w os) (tjl w os)
noncomputable def Rj61 : World → OsState → Option (SharedT × Thread) := fun w os => some (Sj71 w os, tjl w os)
noncomputable def Lj71 : World → OsState → Option (SharedT × Thread) := fun w os => GO w 450 (Sj71 w os) (tjl w os)
noncomputable def Rj71 : World → OsState → Option (SharedT × Thread) := fun w os => some (Sj81 w os, tjl w os)
noncomputable def Lj81 : World → OsState → Option (SharedT × Thread) := fun w os => GO w 450 (Sj81 w os) (tjl w os)
noncomputable def Rj81 : World → OsState → Option (SharedT × Thread) := fun w os => some (Sj91 w os, tjl w os)
noncomputable def Lj91 : World → OsState → Option (SharedT × Thread) := fun w os => GO w 180 (Sj91 w os) (tjl w os)
noncomputable def Rj91 : World → OsState → Option (SharedT × Thread) := fun w os => some (Sj95 w os, tjl w os)
noncomputable def Ljz : World → OsState → Option (Flow × SharedT × Code × Pos) := fun w os => RUN w 40 (Sj95 w os) (tjl w os)
noncomputable def Rjz : World → OsState → Option (Flow × SharedT × Code × Pos) := fun w os => some (.next, Sk w os, cd, ⟨16, 9, 16, 110⟩)
noncomputable def Lg4x : World → OsState → Option (Flow × SharedT × Code × Pos) := fun w os => RUN (w.withFollow "special-get-raises" true) 358 (Sk (w.withFollow "special-get-raises" true) os) (pc 14 9 ⟨16, 9, 16, 110⟩)
noncomputable def Rg4x : World → OsState → Option (Flow × SharedT × Code × Pos) := fun w os => some (.next, Sl (w.withFollow "special-get-raises" true) os, cd, ⟨35, 0, 64, 18⟩)
noncomputable def Lg4y : World → OsState → Option (Flow × SharedT × Code × Pos) := fun w os => RUN (w.withFollow "special-get-raises" false) 358 (Sk (w.withFollow "special-get-raises" false) os) (pc 14 9 ⟨16, 9, 16, 110⟩)
noncomputable def Rg4y : World → OsState → Option (Flow × SharedT × Code × Pos) := fun w os => some (.next, Sl (w.withFollow "special-get-raises" false) os, cd, ⟨35, 0, 64, 18⟩)
noncomputable def Lg5 : World → OsState → Option (Flow × SharedT × Code × Pos) := fun w os => RUN w 304 (Sl w os) (pc 23 12 ⟨35, 0, 64, 18⟩)
noncomputable def Rg5 : World → OsState → Option (Flow × SharedT × Code × Pos) := fun w os => some (.next, Sm w os, cd, ⟨100, 0, 117, 76⟩)
noncomputable def Lpre : World → OsState → Option (Shared × Thread) := fun w os => topGo treeTable PySem.Challenge.pw_pd0096_01 w 28 ann 12 (So w os).abs (topStub PySem.Challenge.pw_pd0096_01)
noncomputable def Rpre : World → OsState → Option (Shared × Thread) := fun w os => some ((Sa w os).abs, ⟨denote treeTable cd, cd, ⟨0, 0, 0, 0⟩, B⟩)
noncomputable def Lblk : World → OsState → Option (Flow × Shared × Code × Pos) := fun w os => segRun treeTable PySem.Challenge.pw_pd0096_01 w 28 ann 1 1 (Sa w os).abs (blockOf bdy env cd ⟨0, 0, 0, 0⟩ B)
noncomputable def Rblk : World → OsState → Option (Flow × Shared × Code × Pos) := fun w os => some (.next, (Sa w os).abs, cd, ⟨0, 0, 0, 0⟩)
noncomputable def Lfin : World → OsState → Option Shared := fun w os => topRun treeTable PySem.Challenge.pw_pd0096_01 w 28 ann 2 (Sm w os).abs ⟨doneF .next, cd, ⟨100, 0, 117, 76⟩, B⟩
noncomputable def Rfin : World → OsState → Option Shared := fun w os => some (Sm w os).abs
noncomputable def Hn (P : Params) : Heap := absHeap (trn P) 28 {}
noncomputable def Ho (P : Params) : Heap := absHeap (tro P) 28 {}
noncomputable def Hm (P : Params) : Heap := absHeap (trm P) 164 {}
noncomputable def opn : Program := opening PySem.Challenge.pw_pd0096_01
noncomputable def Limp : World → Option Shared := fun w => importEnds treeTable opn w 799 (start opn).1 (start opn).2
noncomputable def Rimp : World → Option Shared := fun w => some ⟨Hn w.params, ⟨[]⟩, {}, 276, (start opn).1.os⟩
noncomputable def Lfen : World → OsState → Option (Heap × Array GenState × Drawn × Nat) := fun w os => (fenceModules? PySem.Challenge.pw_pd0096_01 ⟨Hn w.params, ⟨[]⟩, {}, 276, os⟩).map (fun s => (s.heap, s.gens, s.drawn, s.toks))
noncomputable def Rfen : World → OsState → Option (Heap × Array GenState × Drawn × Nat) := fun w _ => some (Ho w.params, ⟨[]⟩, {}, 276)
noncomputable def Lsiz : World → Bool × Nat × Option Value := fun w => ((Ho w.params).isNs mainGlobals && (⟨[]⟩ : Array GenState).size == 0, (Ho w.params).objs.size, (Ho w.params).nsMap mainGlobals "__annotations__")
noncomputable def Rsiz : World → Bool × Nat × Option Value := fun _ => (true, 28, ann)
noncomputable def qv : Program := PySem.W.view PySem.Challenge.pw_pd0096_01 [0, 1, 2, 3, 4, 5, 6, 7, 8, 9, 10, 15, 16, 17, 18, 20, 24, 25, 27, 28, 30, 31, 32, 33, 34, 35]
noncomputable def lo : List Str := ["_twin_re_1", "_QUOPRI_MAP", "_QUOPRI_HEADER_MAP", "_QUOPRI_BODY_MAP", "ascii_letters", "hexdigits", "header_encode", "_QUOPRI_BODY_ENCODE_MAP", "decode"]
noncomputable def lv : List (Str × WData) := [("ascii_letters", .str ⟨#[97, 98, 99, 100, 101, 102, 103, 104, 105, 106, 107, 108, 109, 110, 111, 112, 113, 114, 115, 116, 117, 118, 119, 120, 121, 122, 65, 66, 67, 68, 69, 70, 71, 72, 73, 74, 75, 76, 77, 78, 79, 80, 81, 82, 83, 84, 85, 86, 87, 88, 89, 90]⟩), ("hexdigits", .str ⟨#[48, 49, 50, 51, 52, 53, 54, 55, 56, 57, 97, 98, 99, 100, 101, 102, 65, 66, 67, 68, 69, 70]⟩)]
noncomputable def ads : List Addr := [2, 3, 6, 11, 12, 35, 36, 39, 44, 46, 53, 55, 56, 58, 59, 60, 62, 63, 65, 66, 67, 69, 70, 72, 73, 74, 76, 77, 79, 80, 81, 82, 84, 85, 87, 88, 90, 94, 95, 97, 98, 100, 101, 102, 104, 105, 107, 108, 109, 111, 112, 114, 115, 116, 118, 119, 121, 122, 123, 125, 126, 128, 129, 130, 133, 134, 135, 137, 138, 140, 141, 142, 145, 146, 147, 150, 151, 152, 154, 155, 157, 158, 159, 162, 163]
noncomputable def Kn (P : Params) : Frag := [(2, o2 P), (3, o3v25 P), (6, o6 P), (11, o11v1 P), (12, o12 P), (35, o35 P), (36, o36 P), (39, o39v17 P), (44, o44v8 P), (46, o46v11 P), (53, o53 P), (55, o55 P), (56, o56 P), (58, o58 P), (59, o59 P), (60, o60 P), (62, o62 P), (63, o63 P), (65, o65 P), (66, o66 P), (67, o67 P), (69, o69 P), (70, o70 P), (72, o72 P), (73, o73 P), (74, o74 P), (76, o76 P), (77, o77 P), (79, o79 P), (80, o80 P), (81, o81 P), (82, o82 P), (84, o84 P), (85, o85 P), (87, o87 P), (88, o88 P), (90, o90 P), (94, o94 P), (95, o95 P), (97, o97 P), (98, o98 P), (100, o100 P), (101, o101 P), (102, o102 P), (104, o104 P), (105, o105 P), (107, o107 P), (108, o108 P), (109, o109 P), (111, o111 P), (112, o112 P), (114, o114 P), (115, o115 P), (116, o116 P), (118, o118 P), (119, o119 P), (121, o121 P), (122, o122 P), (123, o123 P), (125, o125 P), (126, o126 P), (128, o128 P), (129, o129 P), (130, o130 P), (133, o133 P), (134, o134 P), (135, o135 P), (137, o137 P), (138, o138 P), (140, o140 P), (141, o141 P), (142, o142 P), (145, o145 P), (146, o146 P), (147, o147 P), (150, o150 P), (151, o151 P), (152, o152 P), (154, o154 P), (155, o155 P), (157, o157 P), (158, o158 P), (159, o159 P), (162, o162 P), (163, o163 P)]
noncomputable def Xt (s : Shared) : Bool := xlAt qv lv s && recOk [] s
noncomputable def mods : List Str := importedModules PySem.Challenge.pw_pd0096_01.main.body
noncomputable def Fm (w : World) (os : OsState) : Shared := ⟨Hm w.params, ⟨[]⟩, {}, 1997, os⟩
noncomputable def Llk0 : World → OsState → Bool := fun w os => staticsOk mods (Ho w.params) (Hm w.params) && namesBound PySem.Challenge.pw_pd0096_01 (Hm w.params) && gensDone (Fm w os) && laidKept (Ho w.params) (Hm w.params)
noncomputable def Rlk0 : World → OsState → Bool := fun _ _ => true
noncomputable def Llk1   := fun (w : World) (os : OsState) => openSeen qv lo mods Xt true (Fm w os)
noncomputable def Rlk1   := fun (_ : World) (_ : OsState) => openGood qv lo
noncomputable def Llk2 : World → OsState → List (Option Obj) := fun w os => ads.map (Fm w os).heap.get?
noncomputable def Rlk2 : World → OsState → List (Option Obj) := fun w _ => (Kn w.params).map fun p => some p.2
theorem vg1 : (fun _ _ => true) Lg1 Rg1 = true := by k_qdec
theorem vc0xx : (fun _ _ => true) Lc0xx Rc0xx = true := by k_qdec
theorem vc0xy : (fun _ _ => true) Lc0xy Rc0xy = true := by k_qdec
theorem vc0yx : (fun _ _ => true) Lc0yx Rc0yx = true := by k_qdec
theorem vc0yy : (fun _ _ => true) Lc0yy Rc0yy = true := by k_qdec
theorem vc1 : (fun _ _ => true) Lc1 Rc1 = true := by k_qdec
theorem vc16 : (fun _ _ => true) Lc16 Rc16 = true := by k_qdec
theorem vc31 : (fun _ _ => true) Lc31 Rc31 = true := by k_qdec
theorem vc46 : (fun _ _ => true) Lc46 Rc46 = true := by k_qdec
theorem vc61 : (fun _ _ => true) Lc61 Rc61 = true := by k_qdec
theorem vc76 : (fun _ _ => true) Lc76 Rc76 = true := by k_qdec
theorem vc91 : (fun _ _ => true) Lc91 Rc91 = true := by k_qdec
theorem vc106 : (fun _ _ => true) Lc106 Rc106 = true := by k_qdec
theorem vc121 : (fun _ _ => true) Lc121 Rc121 = true := by k_qdec
theorem vc136 : (fun _ _ => true) Lc136 Rc136 = true := by k_qdec
theorem vc151 : (fun _ _ => true) Lc151 Rc151 = true := by k_qdec
theorem vc166 : (fun _ _ => true) Lc166 Rc166 = true := by k_qdec
theorem vc181 : (fun _ _ => true) Lc181 Rc181 = true := by k_qdec
theorem vc196 : (fun _ _ => true) Lc196 Rc196 = true := by k_qdec
theorem vc211 : (fun _ _ => true) Lc211 Rc211 = true := by k_qdec
theorem vc226 : (fun _ _ => true) Lc226 Rc226 = true := by k_qdec
theorem vc241 : (fun _ _ => true) Lc241 Rc241 = true := by k_qdec
theorem vczx : (fun _ _ => true) Lczx Rczx = true := by k_qdec
theorem vczy : (fun _ _ => true) Lczy Rczy = true := by k_qdec
theorem vg2 : (fun _ _ => true) Lg2 Rg2 = true := by k_qdec
theorem vf0x : (fun _ _ => true) Lf0x Rf0x = true := by k_qdec
theorem vf0y : (fun _ _ => true) Lf0y Rf0y = true := by k_qdec
theorem vf1 : (fun _ _ => true) Lf1 Rf1 = true := by k_qdec
theorem vf12 : (fun _ _ => true) Lf12 Rf12 = true := by k_qdec
theorem vf23 : (fun _ _ => true) Lf23 Rf23 = true := by k_qdec
theorem vf34 : (fun _ _ => true) Lf34 Rf34 = true := by k_qdec
theorem vf45 : (fun _ _ => true) Lf45 Rf45 = true := by k_qdec
theorem vf56 : (fun _ _ => true) Lf56 Rf56 = true := by k_qdec
theorem vfz : (fun _ _ => true) Lfz Rfz = true := by k_qdec
theorem vg3 : (fun _ _ => true) Lg3 Rg3 = true := by k_qdec
theorem vj0x : (fun _ _ => true) Lj0x Rj0x = true := by k_qdec
theorem vj0y : (fun _ _ => true) Lj0y Rj0y = true := by k_qdec
theorem vj1 : (fun _ _ => true) Lj1 Rj1 = true := by k_qdec
theorem vj11 : (fun _ _ => true) Lj11 Rj11 = true := by k_qdec
theorem vj21 : (fun _ _ => true) Lj21 Rj21 = true := by k_qdec
theorem vj31 : (fun _ _ => true) Lj31 Rj31 = true := by k_qdec
theorem vj41 : (fun _ _ => true) Lj41 Rj41 = true := by k_qdec
theorem vj51 : (fun _ _ => true) Lj51 Rj51 = true := by k_qdec
theorem vj61 : (fun _ _ => true) Lj61 Rj61 = true := by k_qdec
theorem vj71 : (fun _ _ => true) Lj71 Rj71 = true := by k_qdec
theorem vj81 : (fun _ _ => true) Lj81 Rj81 = true := by k_qdec
theorem vj91 : (fun _ _ => true) Lj91 Rj91 = true := by k_qdec
theorem vjz : (fun _ _ => true) Ljz Rjz = true := by k_qdec
theorem vg4x : (fun _ _ => true) Lg4x Rg4x = true := by k_qdec
theorem vg4y : (fun _ _ => true) Lg4y Rg4y = true := by k_qdec
theorem vg5 : (fun _ _ => true) Lg5 Rg5 = true := by k_qdec
theorem vpre : (fun _ _ => true) Lpre Rpre = true := by k_qdec
theorem vblk : (fun _ _ => true) Lblk Rblk = true := by k_qdec
theorem vfin : (fun _ _ => true) Lfin Rfin = true := by k_qdec
theorem vimp : (fun _ _ => true) Limp Rimp = true := by k_qdec
theorem vfen : (fun _ _ => true) Lfen Rfen = true := by k_qdec
theorem vsiz : (fun _ _ => true) Lsiz Rsiz = true := by k_qdec
theorem vlk0 : (fun _ _ => true) Llk0 Rlk0 = true := by k_qdec
theorem vlk1 : (fun _ _ => true) Llk1 Rlk1 = true := by k_qdec
theorem vlk2 : (fun _ _ => true) Llk2 Rlk2 = true := by k_qdec
end
end Mine
namespace Mine
theorem kg1 : PySem.W.Fast.tw8968916421887211139 = PySem.W.Fast.tw6471716434958331220 := by kernel_rfl
theorem eg1 : Lg1 = Rg1 := PySem.W.Fast.te8968916421887211139.trans (kg1.trans PySem.W.Fast.te6471716434958331220.symm)
theorem kc0xx : PySem.W.Fast.tw956634578743523581 = PySem.W.Fast.tw10589212730074933106 := by kernel_rfl
theorem ec0xx : Lc0xx = Rc0xx := PySem.W.Fast.te956634578743523581.trans (kc0xx.trans PySem.W.Fast.te10589212730074933106.symm)
theorem kc0xy : PySem.W.Fast.tw10524149726750953117 = PySem.W.Fast.tw9215794860300662215 := by kernel_rfl
theorem ec0xy : Lc0xy = Rc0xy := PySem.W.Fast.te10524149726750953117.trans (kc0xy.trans PySem.W.Fast.te9215794860300662215.symm)
theorem kc0yx : PySem.W.Fast.tw378232514845162572 = PySem.W.Fast.tw10402847269695796270 := by kernel_rfl
theorem ec0yx : Lc0yx = Rc0yx := PySem.W.Fast.te378232514845162572.trans (kc0yx.trans PySem.W.Fast.te10402847269695796270.symm)
theorem kc0yy : PySem.W.Fast.tw5383988951687858656 = PySem.W.Fast.tw16217215795534826529 := by kernel_rfl
theorem ec0yy : Lc0yy = Rc0yy := PySem.W.Fast.te5383988951687858656.trans (kc0yy.trans PySem.W.Fast.te16217215795534826529.symm)
theorem kc1 : PySem.W.Fast.tw17229298843374652281 = PySem.W.Fast.tw11605551301247818900 := by kernel_rfl
theorem ec1 : Lc1 = Rc1 := PySem.W.Fast.te17229298843374652281.trans (kc1.trans PySem.W.Fast.te11605551301247818900.symm)
theorem kc16 : PySem.W.Fast.tw5619830718580668920 = PySem.W.Fast.tw10545607037162496098 := by kernel_rfl
theorem ec16 : Lc16 = Rc16 := PySem.W.Fast.te5619830718580668920.trans (kc16.trans PySem.W.Fast.te10545607037162496098.symm)
theorem kc31 : PySem.W.Fast.tw2125875558100006212 = PySem.W.Fast.tw11396395715053415371 := by kernel_rfl
theorem ec31 : Lc31 = Rc31 := PySem.W.Fast.te2125875558100006212.trans (kc31.trans PySem.W.Fast.te11396395715053415371.symm)
theorem kc46 : PySem.W.Fast.tw8036392692845067156 = PySem.W.Fast.tw8526985565434886499 := by kernel_rfl
theorem ec46 : Lc46 = Rc46 := PySem.W.Fast.te8036392692845067156.trans (kc46.trans PySem.W.Fast.te8526985565434886499.symm)
theorem kc61 : PySem.W.Fast.tw3830929539240113310 = PySem.W.Fast.tw4598406702279442815 := by kernel_rfl
theorem ec61 : Lc61 = Rc61 := PySem.W.Fast.te3830929539240113310.trans (kc61.trans PySem.W.Fast.te4598406702279442815.symm)
theorem kc76 : PySem.W.Fast.tw531836878273860405 = PySem.W.Fast.tw9037850994963943941 := by kernel_rfl
theorem ec76 : Lc76 = Rc76 := PySem.W.Fast.te531836878273860405.trans (kc76.trans PySem.W.Fast.te9037850994963943941.symm)
theorem kc91 : PySem.W.Fast.tw16342649769731116386 = PySem.W.Fast.tw10769909061476544575 := by kernel_rfl
theorem ec91 : Lc91 = Rc91 := PySem.W.Fast.te16342649769731116386.trans (kc91.trans PySem.W.Fast.te10769909061476544575.symm)
theorem kc106 : PySem.W.Fast.tw17457567077240633927 = PySem.W.Fast.tw3530070296889827078 := by kernel_rfl
theorem ec106 : Lc106 = Rc106 := PySem.W.Fast.te17457567077240633927.trans (kc106.trans PySem.W.Fast.te3530070296889827078.symm)
theorem kc121 : PySem.W.Fast.tw15186886042493529500 = PySem.W.Fast.tw11402523728357551681 := by kernel_rfl
theorem ec121 : Lc121 = Rc121 := PySem.W.Fast.te15186886042493529500.trans (kc121.trans PySem.W.Fast.te11402523728357551681.symm)
theorem kc136 : PySem.W.Fast.tw11020882504681290316 = PySem.W.Fast.tw14566713232217219906 := by kernel_rfl
theorem ec136 : Lc136 = Rc136 := PySem.W.Fast.te11020882504681290316.trans (kc136.trans PySem.W.Fast.te14566713232217219906.symm)
theorem kc151 : PySem.W.Fast.tw12212634611497797000 = PySem.W.Fast.tw7138855145278209680 := by kernel_rfl
theorem ec151 : Lc151 = Rc151 := PySem.W.Fast.te12212634611497797000.trans (kc151.trans PySem.W.Fast.te7138855145278209680.symm)
theorem kc166 : PySem.W.Fast.tw14662087060238891331 = PySem.W.Fast.tw13688077601995319008 := by kernel_rfl
theorem ec166 : Lc166 = Rc166 := PySem.W.Fast.te14662087060238891331.trans (kc166.trans PySem.W.Fast.te13688077601995319008.symm)
theorem kc181 : PySem.W.Fast.tw10956874381828422479 = PySem.W.Fast.tw5204538160483281975 := by kernel_rfl
theorem ec181 : Lc181 = Rc181 := PySem.W.Fast.te10956874381828422479.trans (kc181.trans PySem.W.Fast.te5204538160483281975.symm)
theorem kc196 : PySem.W.Fast.tw6828784946876893308 = PySem.W.Fast.tw7551627927547144212 := by kernel_rfl
theorem ec196 : Lc196 = Rc196 := PySem.W.Fast.te6828784946876893308.trans (kc196.trans PySem.W.Fast.te7551627927547144212.symm)
theorem kc211 : PySem.W.Fast.tw5087203608608175494 = PySem.W.Fast.tw8133688110961774365 := by kernel_rfl
theorem ec211 : Lc211 = Rc211 := PySem.W.Fast.te5087203608608175494.trans (kc211.trans PySem.W.Fast.te8133688110961774365.symm)
theorem kc226 : PySem.W.Fast.tw16217850136885089022 = PySem.W.Fast.tw6266567542264148194 := by kernel_rfl
theorem ec226 : Lc226 = Rc226 := PySem.W.Fast.te16217850136885089022.trans (kc226.trans PySem.W.Fast.te6266567542264148194.symm)
theorem kc241 : PySem.W.Fast.tw1595838394293376510 = PySem.W.Fast.tw1445795317214021723 := by kernel_rfl
theorem ec241 : Lc241 = Rc241 := PySem.W.Fast.te1595838394293376510.trans (kc241.trans PySem.W.Fast.te1445795317214021723.symm)
theorem kczx : PySem.W.Fast.tw6367934456462010928 = PySem.W.Fast.tw13056390053126749443 := by kernel_rfl
theorem eczx : Lczx = Rczx := PySem.W.Fast.te6367934456462010928.trans (kczx.trans PySem.W.Fast.te13056390053126749443.symm)
theorem kczy : PySem.W.Fast.tw4498248344202798119 = PySem.W.Fast.tw9551184499250074753 := by kernel_rfl
theorem eczy : Lczy = Rczy := PySem.W.Fast.te4498248344202798119.trans (kczy.trans PySem.W.Fast.te9551184499250074753.symm)
theorem kg2 : PySem.W.Fast.tw12135567866701523693 = PySem.W.Fast.tw12716360667669638045 := by kernel_rfl
theorem eg2 : Lg2 = Rg2 := PySem.W.Fast.te12135567866701523693.trans (kg2.trans PySem.W.Fast.te12716360667669638045.symm)
theorem kf0x : PySem.W.Fast.tw7993896056549126193 = PySem.W.Fast.tw16090268154941048504 := by kernel_rfl
theorem ef0x : Lf0x = Rf0x := PySem.W.Fast.te7993896056549126193.trans (kf0x.trans PySem.W.Fast.te16090268154941048504.symm)
theorem kf0y : PySem.W.Fast.tw4447043517157649378 = PySem.W.Fast.tw13050197548401293635 := by kernel_rfl
theorem ef0y : Lf0y = Rf0y := PySem.W.Fast.te4447043517157649378.trans (kf0y.trans PySem.W.Fast.te13050197548401293635.symm)
theorem kf1 : PySem.W.Fast.tw670749102597962762 = PySem.W.Fast.tw16769816098581991886 := by kernel_rfl
theorem ef1 : Lf1 = Rf1 := PySem.W.Fast.te670749102597962762.trans (kf1.trans PySem.W.Fast.te16769816098581991886.symm)
theorem kf12 : PySem.W.Fast.tw4307732005983663633 = PySem.W.Fast.tw15376136456331496068 := by kernel_rfl
theorem ef12 : Lf12 = Rf12 := PySem.W.Fast.te4307732005983663633.trans (kf12.trans PySem.W.Fast.te15376136456331496068.symm)
theorem kf23 : PySem.W.Fast.tw10880757482094301845 = PySem.W.Fast.tw9856032357690964290 := by kernel_rfl
theorem ef23 : Lf23 = Rf23 := PySem.W.Fast.te10880757482094301845.trans (kf23.trans PySem.W.Fast.te9856032357690964290.symm)
theorem kf34 : PySem.W.Fast.tw2883303153359960591 = PySem.W.Fast.tw3188516637557857621 := by kernel_rfl
theorem ef34 : Lf34 = Rf34 := PySem.W.Fast.te2883303153359960591.trans (kf34.trans PySem.W.Fast.te3188516637557857621.symm)
theorem kf45 : PySem.W.Fast.tw11016921545861996610 = PySem.W.Fast.tw7331301634087317490 := by kernel_rfl
theorem ef45 : Lf45 = Rf45 := PySem.W.Fast.te11016921545861996610.trans (kf45.trans PySem.W.Fast.te7331301634087317490.symm)
theorem kf56 : PySem.W.Fast.tw13627934687068890278 = PySem.W.Fast.tw15249960438093372475 := by kernel_rfl
theorem ef56 : Lf56 = Rf56 := PySem.W.Fast.te13627934687068890278.trans (kf56.trans PySem.W.Fast.te15249960438093372475.symm)
theorem kfz : PySem.W.Fast.tw3760014615280321275 = PySem.W.Fast.tw17177810966338392743 := by kernel_rfl
theorem efz : Lfz = Rfz := PySem.W.Fast.te3760014615280321275.trans (kfz.trans PySem.W.Fast.te17177810966338392743.symm)
theorem kg3 : PySem.W.Fast.tw3375106129446729608 = PySem.W.Fast.tw13739250995147939685 := by kernel_rfl
theorem eg3 : Lg3 = Rg3 := PySem.W.Fast.te3375106129446729608.trans (kg3.trans PySem.W.Fast.te13739250995147939685.symm)
theorem kj0x : PySem.W.Fast.tw12232059233100635596 = PySem.W.Fast.tw5139884793010358840 := by kernel_rfl
theorem ej0x : Lj0x = Rj0x := PySem.W.Fast.te12232059233100635596.trans (kj0x.trans PySem.W.Fast.te5139884793010358840.symm)
theorem kj0y : PySem.W.Fast.tw2740800345901535890 = PySem.W.Fast.tw9473912109785278039 := by kernel_rfl
theorem ej0y : Lj0y = Rj0y := PySem.W.Fast.te2740800345901535890.trans (kj0y.trans PySem.W.Fast.te9473912109785278039.symm)
theorem kj1 : PySem.W.Fast.tw5329664245017930751 = PySem.W.Fast.tw15046115769979792025 := by kernel_rfl
theorem ej1 : Lj1 = Rj1 := PySem.W.Fast.te5329664245017930751.trans (kj1.trans PySem.W.Fast.te15046115769979792025.symm)
theorem kj11 : PySem.W.Fast.tw11318442283596717189 = PySem.W.Fast.tw9159071302931389602 := by kernel_rfl
theorem ej11 : Lj11 = Rj11 := PySem.W.Fast.te11318442283596717189.trans (kj11.trans PySem.W.Fast.te9159071302931389602.symm)
theorem kj21 : PySem.W.Fast.tw4862394155639823185 = PySem.W.Fast.tw15222035751066491606 := by kernel_rfl
theorem ej21 : Lj21 = Rj21 := PySem.W.Fast.te4862394155639823185.trans (kj21.trans PySem.W.Fast.te15222035751066491606.symm)
theorem kj31 : PySem.W.Fast.tw10611269136562938256 = PySem.W.Fast.tw15184168103875034281 := by kernel_rfl
theorem ej31 : Lj31 = Rj31 := PySem.W.Fast.te10611269136562938256.trans (kj31.trans PySem.W.Fast.te15184168103875034281.symm)
theorem kj41 : PySem.W.Fast.tw16437618775931573570 = PySem.W.Fast.tw14681044914972505316 := by kernel_rfl
theorem ej41 : Lj41 = Rj41 := PySem.W.Fast.te16437618775931573570.trans (kj41.trans PySem.W.Fast.te14681044914972505316.symm)
theorem kj51 : PySem.W.Fast.tw7870587943528799316 = PySem.W.Fast.tw8053452522405243167 := by kernel_rfl
theorem ej51 : Lj51 = Rj51 := PySem.W.Fast.te7870587943528799316.trans (kj51.trans PySem.W.Fast.te8053452522405243167.symm)
theorem kj61 : PySem.W.Fast.tw398332665434961358 = PySem.W.Fast.tw1709693495843467414 := by kernel_rfl
theorem ej61 : Lj61 = Rj61 := PySem.W.Fast.te398332665434961358.trans (kj61.trans PySem.W.Fast.te1709693495843467414.symm)
theorem kj71 : PySem.W.Fast.tw2956135325929535776 = PySem.W.Fast.tw8643526582823080215 := by kernel_rfl
theorem ej71 : Lj71 = Rj71 := PySem.W.Fast.te2956135325929535776.trans (kj71.trans PySem.W.Fast.te8643526582823080215.symm)
theorem kj81 : PySem.W.Fast.tw16951702333331361818 = PySem.W.Fast.tw1177838580674184699 := by kernel_rfl
theorem ej81 : Lj81 = Rj81 := PySem.W.Fast.te16951702333331361818.trans (kj81.trans PySem.W.Fast.te1177838580674184699.symm)
theorem kj91 : PySem.W.Fast.tw7386220864816662285 = PySem.W.Fast.tw3097383253893058648 := by kernel_rfl
theorem ej91 : Lj91 = Rj91 := PySem.W.Fast.te7386220864816662285.trans (kj91.trans PySem.W.Fast.te3097383253893058648.symm)
theorem kjz : PySem.W.Fast.tw7961559653724569817 = PySem.W.Fast.tw4949876948263929505 := by kernel_rfl
theorem ejz : Ljz = Rjz := PySem.W.Fast.te7961559653724569817.trans (kjz.trans PySem.W.Fast.te4949876948263929505.symm)
theorem kg4x : PySem.W.Fast.tw16680692627334413329 = PySem.W.Fast.tw10643613821818087687 := by kernel_rfl
theorem eg4x : Lg4x = Rg4x := PySem.W.Fast.te16680692627334413329.trans (kg4x.trans PySem.W.Fast.te10643613821818087687.symm)
theorem kg4y : PySem.W.Fast.tw606646262689266927 = PySem.W.Fast.tw2037037306041135553 := by kernel_rfl
theorem eg4y : Lg4y = Rg4y := PySem.W.Fast.te606646262689266927.trans (kg4y.trans PySem.W.Fast.te2037037306041135553.symm)
theorem kg5 : PySem.W.Fast.tw12306883572378713488 = PySem.W.Fast.tw5571659168675166615 := by kernel_rfl
theorem eg5 : Lg5 = Rg5 := PySem.W.Fast.te12306883572378713488.trans (kg5.trans PySem.W.Fast.te5571659168675166615.symm)
theorem kpre : PySem.W.Fast.tw1853243158513963215 = PySem.W.Fast.tw17924770078311033985 := by kernel_rfl
theorem epre : Lpre = Rpre := PySem.W.Fast.te1853243158513963215.trans (kpre.trans PySem.W.Fast.te17924770078311033985.symm)
theorem kblk : PySem.W.Fast.tw826831670020288015 = PySem.W.Fast.tw5068557472191515667 := by kernel_rfl
theorem eblk : Lblk = Rblk := PySem.W.Fast.te826831670020288015.trans (kblk.trans PySem.W.Fast.te5068557472191515667.symm)
theorem kfin : PySem.W.Fast.tw14641194912256578682 = PySem.W.Fast.tw997586460512933155 := by kernel_rfl
theorem efin : Lfin = Rfin := PySem.W.Fast.te14641194912256578682.trans (kfin.trans PySem.W.Fast.te997586460512933155.symm)
theorem kimp : PySem.W.Fast.tw4166716990271259385 = PySem.W.Fast.tw4455322610838873282 := by kernel_rfl
theorem eimp : Limp = Rimp := PySem.W.Fast.te4166716990271259385.trans (kimp.trans PySem.W.Fast.te4455322610838873282.symm)
theorem kfen : PySem.W.Fast.tw3322460014829515182 = PySem.W.Fast.tw170769680992616980 := by kernel_rfl
theorem efen : Lfen = Rfen := PySem.W.Fast.te3322460014829515182.trans (kfen.trans PySem.W.Fast.te170769680992616980.symm)
theorem ksiz : PySem.W.Fast.tw8131940969022141460 = Rsiz := by kernel_rfl
theorem esiz : Lsiz = Rsiz := PySem.W.Fast.te8131940969022141460.trans ksiz
theorem klk0 : PySem.W.Fast.tw16445430744068893804 = Rlk0 := by kernel_rfl
theorem elk0 : Llk0 = Rlk0 := PySem.W.Fast.te16445430744068893804.trans klk0
theorem klk1 : PySem.W.Fast.tw4590318997902961423 = PySem.W.Fast.tw9558684336989245947 := by kernel_rfl
theorem elk1 : Llk1 = Rlk1 := PySem.W.Fast.te4590318997902961423.trans (klk1.trans PySem.W.Fast.te9558684336989245947.symm)
theorem klk2 : PySem.W.Fast.tw1538882581128537065 = PySem.W.Fast.tw4501028674923426475 := by kernel_rfl
theorem elk2 : Llk2 = Rlk2 := PySem.W.Fast.te1538882581128537065.trans (klk2.trans PySem.W.Fast.te4501028674923426475.symm)
end Mine
namespace Mine
theorem rg1 (w : World) (os : OsState) : segRun treeTable PySem.Challenge.pw_pd0096_01 w 28 ann 1 88 (Sa w os).abs (pc 0 2 ⟨0, 0, 0, 0⟩) = some (.next, (Sb w os).abs, cd, ⟨3, 0, 3, 2⟩) := segRun_of (congrFun (congrFun eg1 w) os)
theorem tuc (w : World) (os : OsState) {N : Nat} {r : Flow × Shared × Code × Pos} (h : segRun treeTable PySem.Challenge.pw_pd0096_01 w 28 ann 1 N (Sc256 w os).abs (tc w os) = some r) : segRun treeTable PySem.Challenge.pw_pd0096_01 w 28 ann 1 (555 + (555 + (555 + (555 + (555 + (555 + (555 + (555 + (555 + (555 + (555 + (555 + (555 + (555 + (555 + (555 + (555 + (N)))))))))))))))))) (Sc1 w os).abs (tc w os) = some r := (seg_go (segGo_of (congrFun (congrFun ec1 w) os)) (seg_go (segGo_of (congrFun (congrFun ec16 w) os)) (seg_go (segGo_of (congrFun (congrFun ec31 w) os)) (seg_go (segGo_of (congrFun (congrFun ec46 w) os)) (seg_go (segGo_of (congrFun (congrFun ec61 w) os)) (seg_go (segGo_of (congrFun (congrFun ec76 w) os)) (seg_go (segGo_of (congrFun (congrFun ec91 w) os)) (seg_go (segGo_of (congrFun (congrFun ec106 w) os)) (seg_go (segGo_of (congrFun (congrFun ec121 w) os)) (seg_go (segGo_of (congrFun (congrFun ec136 w) os)) (seg_go (segGo_of (congrFun (congrFun ec151 w) os)) (seg_go (segGo_of (congrFun (congrFun ec166 w) os)) (seg_go (segGo_of (congrFun (congrFun ec181 w) os)) (seg_go (segGo_of (congrFun (congrFun ec196 w) os)) (seg_go (segGo_of (congrFun (congrFun ec211 w) os)) (seg_go (segGo_of (congrFun (congrFun ec226 w) os)) (seg_go (segGo_of (congrFun (congrFun ec241 w) os)) h)))))))))))))))))
theorem rc0xx (w : World) (os : OsState) : segRun treeTable PySem.Challenge.pw_pd0096_01 ((w.withFollow "special-get-raises" true).withFollow "comprehension-iter-twice" true) 28 ann 1 9584 (Sb ((w.withFollow "special-get-raises" true).withFollow "comprehension-iter-twice" true) os).abs (pc 2 1 ⟨3, 0, 3, 2⟩) = some (.next, (Sd ((w.withFollow "special-get-raises" true).withFollow "comprehension-iter-twice" true) os).abs, cd, ⟨4, 0, 4, 11⟩) := by
  have e : 9584 = 79 + (555 + (555 + (555 + (555 + (555 + (555 + (555 + (555 + (555 + (555 + (555 + (555 + (555 + (555 + (555 + (555 + (555 + (70)))))))))))))))))) := rfl
  rw [e]
  have h1 : GO ((w.withFollow "special-get-raises" true).withFollow "comprehension-iter-twice" true) 79 (Sb ((w.withFollow "special-get-raises" true).withFollow "comprehension-iter-twice" true) os) (pc 2 1 ⟨3, 0, 3, 2⟩) = some (Sc1 ((w.withFollow "special-get-raises" true).withFollow "comprehension-iter-twice" true) os, tc ((w.withFollow "special-get-raises" true).withFollow "comprehension-iter-twice" true) os) := (congrFun (congrFun ec0xx w) os)
  have h2 : RUN ((w.withFollow "special-get-raises" true).withFollow "comprehension-iter-twice" true) 70 (Sc256 ((w.withFollow "special-get-raises" true).withFollow "comprehension-iter-twice" true) os) (tc ((w.withFollow "special-get-raises" true).withFollow "comprehension-iter-twice" true) os) = some (.next, Sd ((w.withFollow "special-get-raises" true).withFollow "comprehension-iter-twice" true) os, cd, ⟨4, 0, 4, 11⟩) := congrFun (congrFun eczx ((w.withFollow "special-get-raises" true).withFollow "comprehension-iter-twice" true)) os
  exact seg_go (segGo_of h1) (tuc ((w.withFollow "special-get-raises" true).withFollow "comprehension-iter-twice" true) os (segRun_of h2))
theorem rc0xy (w : World) (os : OsState) : segRun treeTable PySem.Challenge.pw_pd0096_01 ((w.withFollow "special-get-raises" false).withFollow "comprehension-iter-twice" true) 28 ann 1 9584 (Sb ((w.withFollow "special-get-raises" false).withFollow "comprehension-iter-twice" true) os).abs (pc 2 1 ⟨3, 0, 3, 2⟩) = some (.next, (Sd ((w.withFollow "special-get-raises" false).withFollow "comprehension-iter-twice" true) os).abs, cd, ⟨4, 0, 4, 11⟩) := by
  have e : 9584 = 79 + (555 + (555 + (555 + (555 + (555 + (555 + (555 + (555 + (555 + (555 + (555 + (555 + (555 + (555 + (555 + (555 + (555 + (70)))))))))))))))))) := rfl
  rw [e]
  have h1 : GO ((w.withFollow "special-get-raises" false).withFollow "comprehension-iter-twice" true) 79 (Sb ((w.withFollow "special-get-raises" false).withFollow "comprehension-iter-twice" true) os) (pc 2 1 ⟨3, 0, 3, 2⟩) = some (Sc1 ((w.withFollow "special-get-raises" false).withFollow "comprehension-iter-twice" true) os, tc ((w.withFollow "special-get-raises" false).withFollow "comprehension-iter-twice" true) os) := (congrFun (congrFun ec0xy w) os)
  have h2 : RUN ((w.withFollow "special-get-raises" false).withFollow "comprehension-iter-twice" true) 70 (Sc256 ((w.withFollow "special-get-raises" false).withFollow "comprehension-iter-twice" true) os) (tc ((w.withFollow "special-get-raises" false).withFollow "comprehension-iter-twice" true) os) = some (.next, Sd ((w.withFollow "special-get-raises" false).withFollow "comprehension-iter-twice" true) os, cd, ⟨4, 0, 4, 11⟩) := congrFun (congrFun eczx ((w.withFollow "special-get-raises" false).withFollow "comprehension-iter-twice" true)) os
  exact seg_go (segGo_of h1) (tuc ((w.withFollow "special-get-raises" false).withFollow "comprehension-iter-twice" true) os (segRun_of h2))
theorem rc0yx (w : World) (os : OsState) : segRun treeTable PySem.Challenge.pw_pd0096_01 ((w.withFollow "special-get-raises" true).withFollow "comprehension-iter-twice" false) 28 ann 1 9584 (Sb ((w.withFollow "special-get-raises" true).withFollow "comprehension-iter-twice" false) os).abs (pc 2 1 ⟨3, 0, 3, 2⟩) = some (.next, (Sd ((w.withFollow "special-get-raises" true).withFollow "comprehension-iter-twice" false) os).abs, cd, ⟨4, 0, 4, 11⟩) := by
  have e : 9584 = 89 + (555 + (555 + (555 + (555 + (555 + (555 + (555 + (555 + (555 + (555 + (555 + (555 + (555 + (555 + (555 + (555 + (555 + (60)))))))))))))))))) := rfl
  rw [e]
  have h1 : GO ((w.withFollow "special-get-raises" true).withFollow "comprehension-iter-twice" false) 89 (Sb ((w.withFollow "special-get-raises" true).withFollow "comprehension-iter-twice" false) os) (pc 2 1 ⟨3, 0, 3, 2⟩) = some (Sc1 ((w.withFollow "special-get-raises" true).withFollow "comprehension-iter-twice" false) os, tc ((w.withFollow "special-get-raises" true).withFollow "comprehension-iter-twice" false) os) := (congrFun (congrFun ec0yx w) os)
  have h2 : RUN ((w.withFollow "special-get-raises" true).withFollow "comprehension-iter-twice" false) 60 (Sc256 ((w.withFollow "special-get-raises" true).withFollow "comprehension-iter-twice" false) os) (tc ((w.withFollow "special-get-raises" true).withFollow "comprehension-iter-twice" false) os) = some (.next, Sd ((w.withFollow "special-get-raises" true).withFollow "comprehension-iter-twice" false) os, cd, ⟨4, 0, 4, 11⟩) := congrFun (congrFun eczy ((w.withFollow "special-get-raises" true).withFollow "comprehension-iter-twice" false)) os
  exact seg_go (segGo_of h1) (tuc ((w.withFollow "special-get-raises" true).withFollow "comprehension-iter-twice" false) os (segRun_of h2))
theorem rc0yy (w : World) (os : OsState) : segRun treeTable PySem.Challenge.pw_pd0096_01 ((w.withFollow "special-get-raises" false).withFollow "comprehension-iter-twice" false) 28 ann 1 9584 (Sb ((w.withFollow "special-get-raises" false).withFollow "comprehension-iter-twice" false) os).abs (pc 2 1 ⟨3, 0, 3, 2⟩) = some (.next, (Sd ((w.withFollow "special-get-raises" false).withFollow "comprehension-iter-twice" false) os).abs, cd, ⟨4, 0, 4, 11⟩) := by
  have e : 9584 = 89 + (555 + (555 + (555 + (555 + (555 + (555 + (555 + (555 + (555 + (555 + (555 + (555 + (555 + (555 + (555 + (555 + (555 + (60)))))))))))))))))) := rfl
  rw [e]
  have h1 : GO ((w.withFollow "special-get-raises" false).withFollow "comprehension-iter-twice" false) 89 (Sb ((w.withFollow "special-get-raises" false).withFollow "comprehension-iter-twice" false) os) (pc 2 1 ⟨3, 0, 3, 2⟩) = some (Sc1 ((w.withFollow "special-get-raises" false).withFollow "comprehension-iter-twice" false) os, tc ((w.withFollow "special-get-raises" false).withFollow "comprehension-iter-twice" false) os) := (congrFun (congrFun ec0yy w) os)
  have h2 : RUN ((w.withFollow "special-get-raises" false).withFollow "comprehension-iter-twice" false) 60 (Sc256 ((w.withFollow "special-get-raises" false).withFollow "comprehension-iter-twice" false) os) (tc ((w.withFollow "special-get-raises" false).withFollow "comprehension-iter-twice" false) os) = some (.next, Sd ((w.withFollow "special-get-raises" false).withFollow "comprehension-iter-twice" false) os, cd, ⟨4, 0, 4, 11⟩) := congrFun (congrFun eczy ((w.withFollow "special-get-raises" false).withFollow "comprehension-iter-twice" false)) os
  exact seg_go (segGo_of h1) (tuc ((w.withFollow "special-get-raises" false).withFollow "comprehension-iter-twice" false) os (segRun_of h2))
theorem rc (w : World) (os : OsState) : segRun treeTable PySem.Challenge.pw_pd0096_01 w 28 ann 1 9584 (Sb w os).abs (pc 2 1 ⟨3, 0, 3, 2⟩) = some (.next, (Sd w os).abs, cd, ⟨4, 0, 4, 11⟩) :=
  byRow2 "comprehension-iter-twice" (P := fun w => segRun treeTable PySem.Challenge.pw_pd0096_01 w 28 ann 1 9584 (Sb w os).abs (pc 2 1 ⟨3, 0, 3, 2⟩) = some (.next, (Sd w os).abs, cd, ⟨4, 0, 4, 11⟩))
    (byRow2 "special-get-raises" (P := fun w => segRun treeTable PySem.Challenge.pw_pd0096_01 (w.withFollow "comprehension-iter-twice" false) 28 ann 1 9584 (Sb (w.withFollow "comprehension-iter-twice" false) os).abs (pc 2 1 ⟨3, 0, 3, 2⟩) = some (.next, (Sd (w.withFollow "comprehension-iter-twice" false) os).abs, cd, ⟨4, 0, 4, 11⟩)) (fun w => rc0yy w os) (fun w => rc0yx w os))
    (byRow2 "special-get-raises" (P := fun w => segRun treeTable PySem.Challenge.pw_pd0096_01 (w.withFollow "comprehension-iter-twice" true) 28 ann 1 9584 (Sb (w.withFollow "comprehension-iter-twice" true) os).abs (pc 2 1 ⟨3, 0, 3, 2⟩) = some (.next, (Sd (w.withFollow "comprehension-iter-twice" true) os).abs, cd, ⟨4, 0, 4, 11⟩)) (fun w => rc0xy w os) (fun w => rc0xx w os)) w
theorem rg2 (w : World) (os : OsState) : segRun treeTable PySem.Challenge.pw_pd0096_01 w 28 ann 1 133 (Sd w os).abs (pc 3 8 ⟨4, 0, 4, 11⟩) = some (.next, (Se w os).abs, cd, ⟨12, 0, 12, 8⟩) := segRun_of (congrFun (congrFun eg2 w) os)
theorem tuf (w : World) (os : OsState) {N : Nat} {r : Flow × Shared × Code × Pos} (h : segRun treeTable PySem.Challenge.pw_pd0096_01 w 28 ann 1 N (Sf67 w os).abs (tfl w os) = some r) : segRun treeTable PySem.Challenge.pw_pd0096_01 w 28 ann 1 (495 + (495 + (495 + (495 + (495 + (495 + (N))))))) (Sf1 w os).abs (tfl w os) = some r := (seg_go (segGo_of (congrFun (congrFun ef1 w) os)) (seg_go (segGo_of (congrFun (congrFun ef12 w) os)) (seg_go (segGo_of (congrFun (congrFun ef23 w) os)) (seg_go (segGo_of (congrFun (congrFun ef34 w) os)) (seg_go (segGo_of (congrFun (congrFun ef45 w) os)) (seg_go (segGo_of (congrFun (congrFun ef56 w) os)) h))))))
theorem rf0x (w : World) (os : OsState) : segRun treeTable PySem.Challenge.pw_pd0096_01 (w.withFollow "special-get-raises" true) 28 ann 1 3099 (Se (w.withFollow "special-get-raises" true) os).abs (pc 11 1 ⟨12, 0, 12, 8⟩) = some (.next, (Sg (w.withFollow "special-get-raises" true) os).abs, cd, ⟨13, 9, 13, 74⟩) := by
  have e : 3099 = 89 + (495 + (495 + (495 + (495 + (495 + (495 + (40))))))) := rfl
  rw [e]
  have h1 : GO (w.withFollow "special-get-raises" true) 89 (Se (w.withFollow "special-get-raises" true) os) (pc 11 1 ⟨12, 0, 12, 8⟩) = some (Sf1 (w.withFollow "special-get-raises" true) os, tfl (w.withFollow "special-get-raises" true) os) := (congrFun (congrFun ef0x w) os)
  have h2 : RUN (w.withFollow "special-get-raises" true) 40 (Sf67 (w.withFollow "special-get-raises" true) os) (tfl (w.withFollow "special-get-raises" true) os) = some (.next, Sg (w.withFollow "special-get-raises" true) os, cd, ⟨13, 9, 13, 74⟩) := congrFun (congrFun efz (w.withFollow "special-get-raises" true)) os
  exact seg_go (segGo_of h1) (tuf (w.withFollow "special-get-raises" true) os (segRun_of h2))
theorem rf0y (w : World) (os : OsState) : segRun treeTable PySem.Challenge.pw_pd0096_01 (w.withFollow "special-get-raises" false) 28 ann 1 3099 (Se (w.withFollow "special-get-raises" false) os).abs (pc 11 1 ⟨12, 0, 12, 8⟩) = some (.next, (Sg (w.withFollow "special-get-raises" false) os).abs, cd, ⟨13, 9, 13, 74⟩) := by
  have e : 3099 = 89 + (495 + (495 + (495 + (495 + (495 + (495 + (40))))))) := rfl
  rw [e]
  have h1 : GO (w.withFollow "special-get-raises" false) 89 (Se (w.withFollow "special-get-raises" false) os) (pc 11 1 ⟨12, 0, 12, 8⟩) = some (Sf1 (w.withFollow "special-get-raises" false) os, tfl (w.withFollow "special-get-raises" false) os) := (congrFun (congrFun ef0y w) os)
  have h2 : RUN (w.withFollow "special-get-raises" false) 40 (Sf67 (w.withFollow "special-get-raises" false) os) (tfl (w.withFollow "special-get-raises" false) os) = some (.next, Sg (w.withFollow "special-get-raises" false) os, cd, ⟨13, 9, 13, 74⟩) := congrFun (congrFun efz (w.withFollow "special-get-raises" false)) os
  exact seg_go (segGo_of h1) (tuf (w.withFollow "special-get-raises" false) os (segRun_of h2))
theorem rf (w : World) (os : OsState) : segRun treeTable PySem.Challenge.pw_pd0096_01 w 28 ann 1 3099 (Se w os).abs (pc 11 1 ⟨12, 0, 12, 8⟩) = some (.next, (Sg w os).abs, cd, ⟨13, 9, 13, 74⟩) := byRow2 "special-get-raises" (P := fun w => segRun treeTable PySem.Challenge.pw_pd0096_01 w 28 ann 1 3099 (Se w os).abs (pc 11 1 ⟨12, 0, 12, 8⟩) = some (.next, (Sg w os).abs, cd, ⟨13, 9, 13, 74⟩)) (fun w => rf0y w os) (fun w => rf0x w os) w
theorem rg3 (w : World) (os : OsState) : segRun treeTable PySem.Challenge.pw_pd0096_01 w 28 ann 1 25 (Sg w os).abs (pc 12 1 ⟨13, 9, 13, 74⟩) = some (.next, (Si w os).abs, cd, ⟨15, 0, 15, 28⟩) := segRun_of (congrFun (congrFun eg3 w) os)
theorem tuj (w : World) (os : OsState) {N : Nat} {r : Flow × Shared × Code × Pos} (h : segRun treeTable PySem.Challenge.pw_pd0096_01 w 28 ann 1 N (Sj95 w os).abs (tjl w os) = some r) : segRun treeTable PySem.Challenge.pw_pd0096_01 w 28 ann 1 (450 + (450 + (450 + (450 + (450 + (450 + (450 + (450 + (450 + (180 + (N))))))))))) (Sj1 w os).abs (tjl w os) = some r := (seg_go (segGo_of (congrFun (congrFun ej1 w) os)) (seg_go (segGo_of (congrFun (congrFun ej11 w) os)) (seg_go (segGo_of (congrFun (congrFun ej21 w) os)) (seg_go (segGo_of (congrFun (congrFun ej31 w) os)) (seg_go (segGo_of (congrFun (congrFun ej41 w) os)) (seg_go (segGo_of (congrFun (congrFun ej51 w) os)) (seg_go (segGo_of (congrFun (congrFun ej61 w) os)) (seg_go (segGo_of (congrFun (congrFun ej71 w) os)) (seg_go (segGo_of (congrFun (congrFun ej81 w) os)) (seg_go (segGo_of (congrFun (congrFun ej91 w) os)) h))))))))))
theorem rj0x (w : World) (os : OsState) : segRun treeTable PySem.Challenge.pw_pd0096_01 (w.withFollow "special-get-raises" true) 28 ann 1 4325 (Si (w.withFollow "special-get-raises" true) os).abs (pc 13 1 ⟨15, 0, 15, 28⟩) = some (.next, (Sk (w.withFollow "special-get-raises" true) os).abs, cd, ⟨16, 9, 16, 110⟩) := by
  have e : 4325 = 55 + (450 + (450 + (450 + (450 + (450 + (450 + (450 + (450 + (450 + (180 + (40))))))))))) := rfl
  rw [e]
  have h1 : GO (w.withFollow "special-get-raises" true) 55 (Si (w.withFollow "special-get-raises" true) os) (pc 13 1 ⟨15, 0, 15, 28⟩) = some (Sj1 (w.withFollow "special-get-raises" true) os, tjl (w.withFollow "special-get-raises" true) os) := (congrFun (congrFun ej0x w) os)
  have h2 : RUN (w.withFollow "special-get-raises" true) 40 (Sj95 (w.withFollow "special-get-raises" true) os) (tjl (w.withFollow "special-get-raises" true) os) = some (.next, Sk (w.withFollow "special-get-raises" true) os, cd, ⟨16, 9, 16, 110⟩) := congrFun (congrFun ejz (w.withFollow "special-get-raises" true)) os
  exact seg_go (segGo_of h1) (tuj (w.withFollow "special-get-raises" true) os (segRun_of h2))
theorem rj0y (w : World) (os : OsState) : segRun treeTable PySem.Challenge.pw_pd0096_01 (w.withFollow "special-get-raises" false) 28 ann 1 4325 (Si (w.withFollow "special-get-raises" false) os).abs (pc 13 1 ⟨15, 0, 15, 28⟩) = some (.next, (Sk (w.withFollow "special-get-raises" false) os).abs, cd, ⟨16, 9, 16, 110⟩) := by
  have e : 4325 = 55 + (450 + (450 + (450 + (450 + (450 + (450 + (450 + (450 + (450 + (180 + (40))))))))))) := rfl
  rw [e]
  have h1 : GO (w.withFollow "special-get-raises" false) 55 (Si (w.withFollow "special-get-raises" false) os) (pc 13 1 ⟨15, 0, 15, 28⟩) = some (Sj1 (w.withFollow "special-get-raises" false) os, tjl (w.withFollow "special-get-raises" false) os) := (congrFun (congrFun ej0y w) os)
  have h2 : RUN (w.withFollow "special-get-raises" false) 40 (Sj95 (w.withFollow "special-get-raises" false) os) (tjl (w.withFollow "special-get-raises" false) os) = some (.next, Sk (w.withFollow "special-get-raises" false) os, cd, ⟨16, 9, 16, 110⟩) := congrFun (congrFun ejz (w.withFollow "special-get-raises" false)) os
  exact seg_go (segGo_of h1) (tuj (w.withFollow "special-get-raises" false) os (segRun_of h2))
theorem rj (w : World) (os : OsState) : segRun treeTable PySem.Challenge.pw_pd0096_01 w 28 ann 1 4325 (Si w os).abs (pc 13 1 ⟨15, 0, 15, 28⟩) = some (.next, (Sk w os).abs, cd, ⟨16, 9, 16, 110⟩) := byRow2 "special-get-raises" (P := fun w => segRun treeTable PySem.Challenge.pw_pd0096_01 w 28 ann 1 4325 (Si w os).abs (pc 13 1 ⟨15, 0, 15, 28⟩) = some (.next, (Sk w os).abs, cd, ⟨16, 9, 16, 110⟩)) (fun w => rj0y w os) (fun w => rj0x w os) w
theorem rg4x (w : World) (os : OsState) : segRun treeTable PySem.Challenge.pw_pd0096_01 (w.withFollow "special-get-raises" true) 28 ann 1 358 (Sk (w.withFollow "special-get-raises" true) os).abs (pc 14 9 ⟨16, 9, 16, 110⟩) = some (.next, (Sl (w.withFollow "special-get-raises" true) os).abs, cd, ⟨35, 0, 64, 18⟩) := segRun_of (congrFun (congrFun eg4x w) os)
theorem rg4y (w : World) (os : OsState) : segRun treeTable PySem.Challenge.pw_pd0096_01 (w.withFollow "special-get-raises" false) 28 ann 1 358 (Sk (w.withFollow "special-get-raises" false) os).abs (pc 14 9 ⟨16, 9, 16, 110⟩) = some (.next, (Sl (w.withFollow "special-get-raises" false) os).abs, cd, ⟨35, 0, 64, 18⟩) := segRun_of (congrFun (congrFun eg4y w) os)
theorem rg4 (w : World) (os : OsState) : segRun treeTable PySem.Challenge.pw_pd0096_01 w 28 ann 1 358 (Sk w os).abs (pc 14 9 ⟨16, 9, 16, 110⟩) = some (.next, (Sl w os).abs, cd, ⟨35, 0, 64, 18⟩) := byRow2 "special-get-raises" (P := fun w => segRun treeTable PySem.Challenge.pw_pd0096_01 w 28 ann 1 358 (Sk w os).abs (pc 14 9 ⟨16, 9, 16, 110⟩) = some (.next, (Sl w os).abs, cd, ⟨35, 0, 64, 18⟩)) (fun w => rg4y w os) (fun w => rg4x w os) w
theorem rg5 (w : World) (os : OsState) : segRun treeTable PySem.Challenge.pw_pd0096_01 w 28 ann 1 304 (Sl w os).abs (pc 23 12 ⟨35, 0, 64, 18⟩) = some (.next, (Sm w os).abs, cd, ⟨100, 0, 117, 76⟩) := segRun_of (congrFun (congrFun eg5 w) os)
theorem body_is : bdy = sts 0 2 ++ (sts 2 1 ++ (sts 3 8 ++ (sts 11 1 ++ (sts 12 1 ++ (sts 13 1 ++ (sts 14 9 ++ (sts 23 12 ++ []))))))) := by kernel_rfl
theorem run (w : World) (os : OsState) : topRun treeTable PySem.Challenge.pw_pd0096_01 w 28 ann 17931 ⟨Ho w.params, ⟨[]⟩, {}, 276, os⟩ (topStub PySem.Challenge.pw_pd0096_01) = some ⟨Hm w.params, ⟨[]⟩, {}, 1997, os⟩ := by
  have e : 17931 = 12 + (1 + (88 + (9584 + (133 + (3099 + (25 + (4325 + (358 + (304 + (2)))))))))) := rfl
  rw [e]
  refine go_top (congrFun (congrFun epre w) os) (piece_block (c := cd) (env := env) (congrFun (congrFun eblk w) os) ?_)
  rw [show restOf bdy env cd ⟨0, 0, 0, 0⟩ [topFrame ⟨0, 0, 0, 0⟩] = restOf (sts 0 2 ++ (sts 2 1 ++ (sts 3 8 ++ (sts 11 1 ++ (sts 12 1 ++ (sts 13 1 ++ (sts 14 9 ++ (sts 23 12 ++ [])))))))) env cd ⟨0, 0, 0, 0⟩ [topFrame ⟨0, 0, 0, 0⟩] from congrArg (fun b => restOf b env cd ⟨0, 0, 0, 0⟩ [topFrame ⟨0, 0, 0, 0⟩]) body_is]
  exact piece_app (rg1 w os) (piece_app (rc w os) (piece_app (rg2 w os) (piece_app (rf w os) (piece_app (rg3 w os) (piece_app (rj w os) (piece_app (rg4 w os) (piece_app (rg5 w os) (piece_nil (congrFun (congrFun efin w) os)))))))))
theorem opens : ∀ w : World, (fencedOpening treeTable PySem.Challenge.pw_pd0096_01 w 18931).map (fun s => (s.heap, s.gens, s.drawn, s.toks)) = some (Ho w.params, ⟨[]⟩, {}, 276) :=
  open_cut (M := 799) (He := Hn) (ge := ⟨[]⟩) (de := {}) (ke := 276) (fun w => congrFun eimp w) (by rfl) (fun w => congrFun efen w)
@[reducible] noncomputable def fnS15 : {x : Arguments × List Stmt × Scope // x = fnOf PySem.Challenge.pw_pd0096_01 15} := ⟨_, by conv => rhs; whnf⟩
@[reducible] noncomputable def fa15l : Arguments := fnS15.1.1
@[reducible] noncomputable def fb15l : List Stmt := fnS15.1.2.1
@[reducible] noncomputable def fs15l : Scope := fnS15.1.2.2
@[reducible] noncomputable def fnS16 : {x : Arguments × List Stmt × Scope // x = fnOf PySem.Challenge.pw_pd0096_01 16} := ⟨_, by conv => rhs; whnf⟩
@[reducible] noncomputable def fa16l : Arguments := fnS16.1.1
@[reducible] noncomputable def fb16l : List Stmt := fnS16.1.2.1
@[reducible] noncomputable def fs16l : Scope := fnS16.1.2.2
@[reducible] noncomputable def fnS17 : {x : Arguments × List Stmt × Scope // x = fnOf PySem.Challenge.pw_pd0096_01 17} := ⟨_, by conv => rhs; whnf⟩
@[reducible] noncomputable def fa17l : Arguments := fnS17.1.1
@[reducible] noncomputable def fb17l : List Stmt := fnS17.1.2.1
@[reducible] noncomputable def fs17l : Scope := fnS17.1.2.2
@[reducible] noncomputable def fnS18 : {x : Arguments × List Stmt × Scope // x = fnOf PySem.Challenge.pw_pd0096_01 18} := ⟨_, by conv => rhs; whnf⟩
@[reducible] noncomputable def fa18l : Arguments := fnS18.1.1
@[reducible] noncomputable def fb18l : List Stmt := fnS18.1.2.1
@[reducible] noncomputable def fs18l : Scope := fnS18.1.2.2
@[reducible] noncomputable def fnS19 : {x : Arguments × List Stmt × Scope // x = fnOf PySem.Challenge.pw_pd0096_01 19} := ⟨_, by conv => rhs; whnf⟩
@[reducible] noncomputable def fa19l : Arguments := fnS19.1.1
@[reducible] noncomputable def fb19l : List Stmt := fnS19.1.2.1
@[reducible] noncomputable def fs19l : Scope := fnS19.1.2.2
@[reducible] noncomputable def fnS23 : {x : Arguments × List Stmt × Scope // x = fnOf PySem.Challenge.pw_pd0096_01 23} := ⟨_, by conv => rhs; whnf⟩
@[reducible] noncomputable def fa23l : Arguments := fnS23.1.1
@[reducible] noncomputable def fb23l : List Stmt := fnS23.1.2.1
@[reducible] noncomputable def fs23l : Scope := fnS23.1.2.2
@[reducible] noncomputable def fnS24 : {x : Arguments × List Stmt × Scope // x = fnOf PySem.Challenge.pw_pd0096_01 24} := ⟨_, by conv => rhs; whnf⟩
@[reducible] noncomputable def fa24l : Arguments := fnS24.1.1
@[reducible] noncomputable def fb24l : List Stmt := fnS24.1.2.1
@[reducible] noncomputable def fs24l : Scope := fnS24.1.2.2
@[reducible] noncomputable def fnS25 : {x : Arguments × List Stmt × Scope // x = fnOf PySem.Challenge.pw_pd0096_01 25} := ⟨_, by conv => rhs; whnf⟩
@[reducible] noncomputable def fa25l : Arguments := fnS25.1.1
@[reducible] noncomputable def fb25l : List Stmt := fnS25.1.2.1
@[reducible] noncomputable def fs25l : Scope := fnS25.1.2.2
@[reducible] noncomputable def fnS27 : {x : Arguments × List Stmt × Scope // x = fnOf PySem.Challenge.pw_pd0096_01 27} := ⟨_, by conv => rhs; whnf⟩
@[reducible] noncomputable def fa27l : Arguments := fnS27.1.1
@[reducible] noncomputable def fb27l : List Stmt := fnS27.1.2.1
@[reducible] noncomputable def fs27l : Scope := fnS27.1.2.2
@[reducible] noncomputable def fnS28 : {x : Arguments × List Stmt × Scope // x = fnOf PySem.Challenge.pw_pd0096_01 28} := ⟨_, by conv => rhs; whnf⟩
@[reducible] noncomputable def fa28l : Arguments := fnS28.1.1
@[reducible] noncomputable def fb28l : List Stmt := fnS28.1.2.1
@[reducible] noncomputable def fs28l : Scope := fnS28.1.2.2
@[reducible] noncomputable def fnS30 : {x : Arguments × List Stmt × Scope // x = fnOf PySem.Challenge.pw_pd0096_01 30} := ⟨_, by conv => rhs; whnf⟩
@[reducible] noncomputable def fa30l : Arguments := fnS30.1.1
@[reducible] noncomputable def fb30l : List Stmt := fnS30.1.2.1
@[reducible] noncomputable def fs30l : Scope := fnS30.1.2.2
@[reducible] noncomputable def fnS31 : {x : Arguments × List Stmt × Scope // x = fnOf PySem.Challenge.pw_pd0096_01 31} := ⟨_, by conv => rhs; whnf⟩
@[reducible] noncomputable def fa31l : Arguments := fnS31.1.1
@[reducible] noncomputable def fb31l : List Stmt := fnS31.1.2.1
@[reducible] noncomputable def fs31l : Scope := fnS31.1.2.2
@[reducible] noncomputable def fnS32 : {x : Arguments × List Stmt × Scope // x = fnOf PySem.Challenge.pw_pd0096_01 32} := ⟨_, by conv => rhs; whnf⟩
@[reducible] noncomputable def fa32l : Arguments := fnS32.1.1
@[reducible] noncomputable def fb32l : List Stmt := fnS32.1.2.1
@[reducible] noncomputable def fs32l : Scope := fnS32.1.2.2
@[reducible] noncomputable def fnS33 : {x : Arguments × List Stmt × Scope // x = fnOf PySem.Challenge.pw_pd0096_01 33} := ⟨_, by conv => rhs; whnf⟩
@[reducible] noncomputable def fa33l : Arguments := fnS33.1.1
@[reducible] noncomputable def fb33l : List Stmt := fnS33.1.2.1
@[reducible] noncomputable def fs33l : Scope := fnS33.1.2.2
@[reducible] noncomputable def fnS34 : {x : Arguments × List Stmt × Scope // x = fnOf PySem.Challenge.pw_pd0096_01 34} := ⟨_, by conv => rhs; whnf⟩
@[reducible] noncomputable def fa34l : Arguments := fnS34.1.1
@[reducible] noncomputable def fb34l : List Stmt := fnS34.1.2.1
@[reducible] noncomputable def fs34l : Scope := fnS34.1.2.2
@[reducible] noncomputable def fnS35 : {x : Arguments × List Stmt × Scope // x = fnOf PySem.Challenge.pw_pd0096_01 35} := ⟨_, by conv => rhs; whnf⟩
@[reducible] noncomputable def fa35l : Arguments := fnS35.1.1
@[reducible] noncomputable def fb35l : List Stmt := fnS35.1.2.1
@[reducible] noncomputable def fs35l : Scope := fnS35.1.2.2
end Mine
namespace Mine
@[reducible] noncomputable def stS0 : {s : Stmt // some s = PySem.Challenge.pw_pd0096_01.main.body[0]?} := ⟨_, by conv => rhs; whnf⟩
@[reducible] noncomputable def stS1 : {s : Stmt // some s = PySem.Challenge.pw_pd0096_01.main.body[1]?} := ⟨_, by conv => rhs; whnf⟩
@[reducible] noncomputable def stS2 : {s : Stmt // some s = PySem.Challenge.pw_pd0096_01.main.body[2]?} := ⟨_, by conv => rhs; whnf⟩
@[reducible] noncomputable def stS3 : {s : Stmt // some s = PySem.Challenge.pw_pd0096_01.main.body[3]?} := ⟨_, by conv => rhs; whnf⟩
@[reducible] noncomputable def stS4 : {s : Stmt // some s = PySem.Challenge.pw_pd0096_01.main.body[4]?} := ⟨_, by conv => rhs; whnf⟩
@[reducible] noncomputable def stS5 : {s : Stmt // some s = PySem.Challenge.pw_pd0096_01.main.body[5]?} := ⟨_, by conv => rhs; whnf⟩
@[reducible] noncomputable def stS6 : {s : Stmt // some s = PySem.Challenge.pw_pd0096_01.main.body[6]?} := ⟨_, by conv => rhs; whnf⟩
@[reducible] noncomputable def stS7 : {s : Stmt // some s = PySem.Challenge.pw_pd0096_01.main.body[7]?} := ⟨_, by conv => rhs; whnf⟩
@[reducible] noncomputable def stS8 : {s : Stmt // some s = PySem.Challenge.pw_pd0096_01.main.body[8]?} := ⟨_, by conv => rhs; whnf⟩
@[reducible] noncomputable def stS9 : {s : Stmt // some s = PySem.Challenge.pw_pd0096_01.main.body[9]?} := ⟨_, by conv => rhs; whnf⟩
@[reducible] noncomputable def stS10 : {s : Stmt // some s = PySem.Challenge.pw_pd0096_01.main.body[10]?} := ⟨_, by conv => rhs; whnf⟩
@[reducible] noncomputable def stS15 : {s : Stmt // some s = PySem.Challenge.pw_pd0096_01.main.body[15]?} := ⟨_, by conv => rhs; whnf⟩
@[reducible] noncomputable def stS16 : {s : Stmt // some s = PySem.Challenge.pw_pd0096_01.main.body[16]?} := ⟨_, by conv => rhs; whnf⟩
@[reducible] noncomputable def stS17 : {s : Stmt // some s = PySem.Challenge.pw_pd0096_01.main.body[17]?} := ⟨_, by conv => rhs; whnf⟩
@[reducible] noncomputable def stS18 : {s : Stmt // some s = PySem.Challenge.pw_pd0096_01.main.body[18]?} := ⟨_, by conv => rhs; whnf⟩
@[reducible] noncomputable def stS20 : {s : Stmt // some s = PySem.Challenge.pw_pd0096_01.main.body[20]?} := ⟨_, by conv => rhs; whnf⟩
@[reducible] noncomputable def stS24 : {s : Stmt // some s = PySem.Challenge.pw_pd0096_01.main.body[24]?} := ⟨_, by conv => rhs; whnf⟩
@[reducible] noncomputable def stS25 : {s : Stmt // some s = PySem.Challenge.pw_pd0096_01.main.body[25]?} := ⟨_, by conv => rhs; whnf⟩
@[reducible] noncomputable def stS27 : {s : Stmt // some s = PySem.Challenge.pw_pd0096_01.main.body[27]?} := ⟨_, by conv => rhs; whnf⟩
@[reducible] noncomputable def stS28 : {s : Stmt // some s = PySem.Challenge.pw_pd0096_01.main.body[28]?} := ⟨_, by conv => rhs; whnf⟩
@[reducible] noncomputable def stS30 : {s : Stmt // some s = PySem.Challenge.pw_pd0096_01.main.body[30]?} := ⟨_, by conv => rhs; whnf⟩
@[reducible] noncomputable def stS31 : {s : Stmt // some s = PySem.Challenge.pw_pd0096_01.main.body[31]?} := ⟨_, by conv => rhs; whnf⟩
@[reducible] noncomputable def stS32 : {s : Stmt // some s = PySem.Challenge.pw_pd0096_01.main.body[32]?} := ⟨_, by conv => rhs; whnf⟩
@[reducible] noncomputable def stS33 : {s : Stmt // some s = PySem.Challenge.pw_pd0096_01.main.body[33]?} := ⟨_, by conv => rhs; whnf⟩
@[reducible] noncomputable def stS34 : {s : Stmt // some s = PySem.Challenge.pw_pd0096_01.main.body[34]?} := ⟨_, by conv => rhs; whnf⟩
@[reducible] noncomputable def stS35 : {s : Stmt // some s = PySem.Challenge.pw_pd0096_01.main.body[35]?} := ⟨_, by conv => rhs; whnf⟩
@[reducible] noncomputable def Q : Program := { PySem.Challenge.pw_pd0096_01 with main := { PySem.Challenge.pw_pd0096_01.main with body := [stS0.1, stS1.1, stS2.1, stS3.1, stS4.1, stS5.1, stS6.1, stS7.1, stS8.1, stS9.1, stS10.1, stS15.1, stS16.1, stS17.1, stS18.1, stS20.1, stS24.1, stS25.1, stS27.1, stS28.1, stS30.1, stS31.1, stS32.1, stS33.1, stS34.1, stS35.1] } }
theorem Q_eq : qv = Q := by kernel_rfl
noncomputable def l44 : List Value := [q 0, q 1, q 2, q 3, q 4, q 5, q 6, q 7, q 8, q 9, q 10, q 11, q 12, q 13, q 14, q 15, q 16, q 17, q 18, q 19, q 20, q 21, q 22, q 23, q 24, q 25, q 26, q 27, q 28, q 29, q 30, q 31, h 95 1572, h 33 1376, q 34, q 35, q 36, q 37, q 38, q 39, q 40, q 41, h 42 1379, h 43 1382, q 44, h 45 1373, q 46, h 47 1385, h 48 1544, h 49 1547, h 50 1550, h 51 1553, h 52 1556, h 53 1559, h 54 1562, h 55 1565, h 56 1568, h 57 1571, q 58, q 59, q 60, q 61, q 62, q 63, q 64, h 65 1466, h 66 1469, h 67 1472, h 68 1475, h 69 1478, h 70 1481, h 71 1484, h 72 1487, h 73 1490, h 74 1493, h 75 1496, h 76 1499, h 77 1502, h 78 1505, h 79 1508, h 80 1511, h 81 1514, h 82 1517, h 83 1520, h 84 1523, h 85 1526, h 86 1529, h 87 1532, h 88 1535, h 89 1538, h 90 1541, q 91, q 92, q 93, q 94, q 95, q 96, h 97 1388, h 98 1391, h 99 1394, h 100 1397, h 101 1400, h 102 1403, h 103 1406, h 104 1409, h 105 1412, h 106 1415, h 107 1418, h 108 1421, h 109 1424, h 110 1427, h 111 1430, h 112 1433, h 113 1436, h 114 1439, h 115 1442, h 116 1445, h 117 1448, h 118 1451, h 119 1454, h 120 1457, h 121 1460, h 122 1463, q 123, q 124, q 125, q 126, q 127, q 128, q 129, q 130, q 131, q 132, q 133, q 134, q 135, q 136, q 137, q 138, q 139, q 140, q 141, q 142, q 143, q 144, q 145, q 146, q 147, q 148, q 149, q 150, q 151, q 152, q 153, q 154, q 155, q 156, q 157, q 158, q 159, q 160, q 161, q 162, q 163, q 164, q 165, q 166, q 167, q 168, q 169, q 170, q 171, q 172, q 173, q 174, q 175, q 176, q 177, q 178, q 179, q 180, q 181, q 182, q 183, q 184, q 185, q 186, q 187, q 188, q 189, q 190, q 191, q 192, q 193, q 194, q 195, q 196, q 197, q 198, q 199, q 200, q 201, q 202, q 203, q 204, q 205, q 206, q 207, q 208, q 209, q 210, q 211, q 212, q 213, q 214, q 215, q 216, q 217, q 218, q 219, q 220, q 221, q 222, q 223, q 224, q 225, q 226, q 227, q 228, q 229, q 230, q 231, q 232, q 233, q 234, q 235, q 236, q 237, q 238, q 239, q 240, q 241, q 242, q 243, q 244, q 245, q 246, q 247, q 248, q 249, q 250, q 251, q 252, q 253, q 254, q 255]
noncomputable def l46 : List Value := [q 0, q 1, q 2, q 3, q 4, q 5, q 6, q 7, q 8, h 9 1860, q 10, q 11, q 12, q 13, q 14, q 15, q 16, q 17, q 18, q 19, q 20, q 21, q 22, q 23, q 24, q 25, q 26, q 27, q 28, q 29, q 30, q 31, h 32 1578, h 33 1581, h 34 1584, h 35 1587, h 36 1590, h 37 1593, h 38 1596, h 39 1599, h 40 1602, h 41 1605, h 42 1608, h 43 1611, h 44 1614, h 45 1617, h 46 1620, h 47 1623, h 48 1626, h 49 1629, h 50 1632, h 51 1635, h 52 1638, h 53 1641, h 54 1644, h 55 1647, h 56 1650, h 57 1653, h 58 1656, h 59 1659, h 60 1662, q 61, h 62 1665, h 63 1668, h 64 1671, h 65 1674, h 66 1677, h 67 1680, h 68 1683, h 69 1686, h 70 1689, h 71 1692, h 72 1695, h 73 1698, h 74 1701, h 75 1704, h 76 1707, h 77 1710, h 78 1713, h 79 1716, h 80 1719, h 81 1722, h 82 1725, h 83 1728, h 84 1731, h 85 1734, h 86 1737, h 87 1740, h 88 1743, h 89 1746, h 90 1749, h 91 1752, h 92 1755, h 93 1758, h 94 1761, h 95 1764, h 96 1767, h 97 1770, h 98 1773, h 99 1776, h 100 1779, h 101 1782, h 102 1785, h 103 1788, h 104 1791, h 105 1794, h 106 1797, h 107 1800, h 108 1803, h 109 1806, h 110 1809, h 111 1812, h 112 1815, h 113 1818, h 114 1821, h 115 1824, h 116 1827, h 117 1830, h 118 1833, h 119 1836, h 120 1839, h 121 1842, h 122 1845, h 123 1848, h 124 1851, h 125 1854, h 126 1857, q 127, q 128, q 129, q 130, q 131, q 132, q 133, q 134, q 135, q 136, q 137, q 138, q 139, q 140, q 141, q 142, q 143, q 144, q 145, q 146, q 147, q 148, q 149, q 150, q 151, q 152, q 153, q 154, q 155, q 156, q 157, q 158, q 159, q 160, q 161, q 162, q 163, q 164, q 165, q 166, q 167, q 168, q 169, q 170, q 171, q 172, q 173, q 174, q 175, q 176, q 177, q 178, q 179, q 180, q 181, q 182, q 183, q 184, q 185, q 186, q 187, q 188, q 189, q 190, q 191, q 192, q 193, q 194, q 195, q 196, q 197, q 198, q 199, q 200, q 201, q 202, q 203, q 204, q 205, q 206, q 207, q 208, q 209, q 210, q 211, q 212, q 213, q 214, q 215, q 216, q 217, q 218, q 219, q 220, q 221, q 222, q 223, q 224, q 225, q 226, q 227, q 228, q 229, q 230, q 231, q 232, q 233, q 234, q 235, q 236, q 237, q 238, q 239, q 240, q 241, q 242, q 243, q 244, q 245, q 246, q 247, q 248, q 249, q 250, q 251, q 252, q 253, q 254, q 255]
noncomputable def l90 : List Value := [q 0, q 1, q 2, q 3, q 4, q 5, q 6, q 7, q 8, h 9 1860, h 10 1906, q 11, q 12, h 13 1903, q 14, q 15, q 16, q 17, q 18, q 19, q 20, q 21, q 22, q 23, q 24, q 25, q 26, q 27, q 28, q 29, q 30, q 31, h 32 1578, h 33 1581, h 34 1584, h 35 1587, h 36 1590, h 37 1593, h 38 1596, h 39 1599, h 40 1602, h 41 1605, h 42 1608, h 43 1611, h 44 1614, h 45 1617, h 46 1620, h 47 1623, h 48 1626, h 49 1629, h 50 1632, h 51 1635, h 52 1638, h 53 1641, h 54 1644, h 55 1647, h 56 1650, h 57 1653, h 58 1656, h 59 1659, h 60 1662, q 61, h 62 1665, h 63 1668, h 64 1671, h 65 1674, h 66 1677, h 67 1680, h 68 1683, h 69 1686, h 70 1689, h 71 1692, h 72 1695, h 73 1698, h 74 1701, h 75 1704, h 76 1707, h 77 1710, h 78 1713, h 79 1716, h 80 1719, h 81 1722, h 82 1725, h 83 1728, h 84 1731, h 85 1734, h 86 1737, h 87 1740, h 88 1743, h 89 1746, h 90 1749, h 91 1752, h 92 1755, h 93 1758, h 94 1761, h 95 1764, h 96 1767, h 97 1770, h 98 1773, h 99 1776, h 100 1779, h 101 1782, h 102 1785, h 103 1788, h 104 1791, h 105 1794, h 106 1797, h 107 1800, h 108 1803, h 109 1806, h 110 1809, h 111 1812, h 112 1815, h 113 1818, h 114 1821, h 115 1824, h 116 1827, h 117 1830, h 118 1833, h 119 1836, h 120 1839, h 121 1842, h 122 1845, h 123 1848, h 124 1851, h 125 1854, h 126 1857, q 127, q 128, q 129, q 130, q 131, q 132, q 133, q 134, q 135, q 136, q 137, q 138, q 139, q 140, q 141, q 142, q 143, q 144, q 145, q 146, q 147, q 148, q 149, q 150, q 151, q 152, q 153, q 154, q 155, q 156, q 157, q 158, q 159, q 160, q 161, q 162, q 163, q 164, q 165, q 166, q 167, q 168, q 169, q 170, q 171, q 172, q 173, q 174, q 175, q 176, q 177, q 178, q 179, q 180, q 181, q 182, q 183, q 184, q 185, q 186, q 187, q 188, q 189, q 190, q 191, q 192, q 193, q 194, q 195, q 196, q 197, q 198, q 199, q 200, q 201, q 202, q 203, q 204, q 205, q 206, q 207, q 208, q 209, q 210, q 211, q 212, q 213, q 214, q 215, q 216, q 217, q 218, q 219, q 220, q 221, q 222, q 223, q 224, q 225, q 226, q 227, q 228, q 229, q 230, q 231, q 232, q 233, q 234, q 235, q 236, q 237, q 238, q 239, q 240, q 241, q 242, q 243, q 244, q 245, q 246, q 247, q 248, q 249, q 250, q 251, q 252, q 253, q 254, q 255]
noncomputable def K (P : Params) : Frag := (nat_lit 2, ⟨.none, none, (.dict #[de P "\x69mport.loaded._sre" 183 (.bool true), de P "class._frozen_importlib.BuiltinImporter" 185 (.ref 14), de P "watched.\x69mport" 206 (.ref 18), de P "class._frozen_importlib.ModuleSpec" 216 (.ref 22), de P "sys.modules.booked-epoch" 245 (.int (3) 0), de P "\x69mport.later-laid._sre" 270 (.bool true), de P "watched.library" 272 (.ref 27), de P "watched.library-objects" 0 (.str "\x0c" 0), de P "watched.library-deep._sre" 273 (.str "\x04\x00\x00\x0b\x04\x00\x00\x0b\x04\x00\x00\x03\x04\x00\x00\x0b\x08\x04dict\x02" 0)] 9), #[]⟩) :: (nat_lit 3, ⟨(.type "dict"), none, (.dict #[de P "__name__" 165 (.str "law_pd0096_01" 1952), de P "__doc__" 166 .none, de P "__package__" 167 .none, de P "__loader__" 168 (.builtin "__main__.__loader__#opaque"), de P "__spec__" 169 .none, de P "__annotations__" 170 (.ref 6), de P "__builtins__" 171 (.ref 4), de P "__file__" 173 (.str "/claim/cut.py" 172), de P "__cached__" 174 .none, de P "_sre" 275 (.ref 12), de P "_twin_re_1" 316 (.ref 36), de P "NL" 318 (.str "\n" 317), de P "_QUOPRI_MAP" 1346 (.ref 39), de P "_QUOPRI_HEADER_MAP" 1347 (.ref 44), de P "_QUOPRI_BODY_MAP" 1348 (.ref 46), de P "ascii_lowercase" 1350 (.str "abcdefghijklmnopqrstuvwxyz" 1349), de P "ascii_uppercase" 1352 (.str "ABCDEFGHIJKLMNOPQRSTUVWXYZ" 1351), de P "ascii_letters" 1354 (.str "abcdefghijklmnopqrstuvwxyzABCDEFGHIJKLMNOPQRSTUVWXYZ" 1353), de P "digits" 1356 (.str "0123456789" 1355), de P "hexdigits" 1361 (.str "0123456789abcdefABCDEF" 1360), de P "header_check" 1867 (.ref 59), de P "body_check" 1874 (.ref 66), de P "unquote" 1881 (.ref 73), de P "quote" 1888 (.ref 80), de P "header_encode" 1898 (.ref 88), de P "_QUOPRI_BODY_ENCODE_MAP" 1899 (.ref 90), de P "decode" 1919 (.ref 101), de P "_unquote_match" 1927 (.ref 108), de P "header_decode" 1934 (.ref 115), de P "_strcoll" 1944 (.ref 122), de P "_strxfrm" 1951 (.ref 129), de P "_law_word" 1959 (.ref 134), de P "_law_order" 1968 (.ref 141), de P "_law_figures" 1974 (.ref 146), de P "_law_rising" 1980 (.ref 151), de P "_law_checked" 1990 (.ref 158), de P "law" 1996 (.ref 163)] 39), #[]⟩) :: (nat_lit 6, ⟨(.type "dict"), none, (.dict #[] 0), #[]⟩) :: (nat_lit 11, ⟨(.type "dict"), none, (.dict #[de P "__name__" 247 (.str "_sre" 246), de P "__doc__" 248 .none, de P "__package__" 250 (.str "" 249), de P "__loader__" 251 (.builtin "off-the-table:_sre.__loader__:shared#opaque"), de P "__spec__" 252 (.builtin "off-the-table:_sre.__spec__:shared#opaque"), de P "compile" 253 (.builtin "_sre.compile"), de P "template" 254 (.builtin "off-the-table:_sre.template:shared#opaque"), de P "getcodesize" 255 (.builtin "off-the-table:_sre.getcodesize:shared#opaque"), de P "ascii_iscased" 256 (.builtin "off-the-table:_sre.ascii_iscased:shared#opaque"), de P "unicode_iscased" 257 (.builtin "off-the-table:_sre.unicode_iscased:shared#opaque"), de P "ascii_tolower" 258 (.builtin "off-the-table:_sre.ascii_tolower:shared#opaque"), de P "unicode_tolower" 259 (.builtin "off-the-table:_sre.unicode_tolower:shared#opaque"), de P "MAGIC" 261 (.int (20230612) 260), de P "CODESIZE" 263 (.int (4) 262), de P "MAXREPEAT" 265 (.int (4294967295) 264), de P "MAXGROUPS" 267 (.int (1073741823) 266), de P "copyright" 269 (.str " SRE 2.2.2 Copyright (c) 1997-2002 by Secret Labs AB " 268)] 17), #[]⟩) :: (nat_lit 12, ⟨(.type "module"), (some 11), .plain, #[]⟩) :: (nat_lit 35, ⟨(.type "tuple"), none, (.seq #[(.int (14) 0), (.int (8) 0), (.int (1) 0), (.int (3) 0), (.int (3) 0), (.int (1) 0), (.int (1) 0), (.int (61) 0), (.int (0) 0), (.int (16) 0), (.int (61) 0), (.int (24) 0), (.int (16) 0), (.int (2) 0), (.int (2) 0), (.int (13) 0), (.int (11) 0), (.int (9) 0), (.int (0) 0), (.int (67043328) 0), (.int (126) 0), (.int (126) 0), (.int (0) 0), (.int (0) 0), (.int (0) 0), (.int (0) 0), (.int (0) 0), (.int (1) 0), (.int (1) 0)] 0), #[]⟩) :: (nat_lit 36, ⟨(.type "re.Pattern"), none, (.fields #[(.str "=[a-fA-F0-9]{2}" 283), (.int (256) 315), (.int (0) 0), .none, .none, (.ref 35), (.int (0) 0)]), #[]⟩) :: (nat_lit 39, ⟨(.type "list"), none, (.seq ql.toArray 256), #[]⟩) :: (nat_lit 44, ⟨(.type "list"), none, (.seq l44.toArray 0), #[]⟩) :: (nat_lit 46, ⟨(.type "list"), none, (.seq l46.toArray 0), #[]⟩) :: (nat_lit 53, ⟨(.type "tuple"), none, (.seq #[] 0), #[]⟩) :: (nat_lit 55, ⟨(.type "tuple"), none, (.seq #[(.str "octet" 1864)] 0), #[]⟩) :: (nat_lit 56, ⟨(.type "tuple"), none, (.seq #[] 0), #[]⟩) :: (nat_lit 58, ⟨(.type "code"), none, (.fields #[(.str "header_check" 1861), (.str "header_check" 1862), (.str "/claim/cut.py" 1863), (.int (18) 0), (.int (1) 0), (.int (0) 0), (.int (0) 0), (.int (3) 0), (.ref 53), (.bool true), (.int (276) 0), (.ref 54), .none, (.ref 55), (.ref 56), (.ref 57), (.int (1865) 0), (.int (18) 0), (.str "/claim/cut.py" 1866)]), #[]⟩) :: (nat_lit 59, ⟨(.type "function"), none, (.func ⟨"header_check", "header_check", fa15l, .stmts fb15l, fs15l, 3, [], .none, .none, .none, (.str "cpy313.email.quoprimime" 1362), none, (.ref 58), .none, 0⟩), #[]⟩) :: (nat_lit 60, ⟨(.type "tuple"), none, (.seq #[] 0), #[]⟩) :: (nat_lit 62, ⟨(.type "tuple"), none, (.seq #[(.str "octet" 1871)] 0), #[]⟩) :: (nat_lit 63, ⟨(.type "tuple"), none, (.seq #[] 0), #[]⟩) :: (nat_lit 65, ⟨(.type "code"), none, (.fields #[(.str "body_check" 1868), (.str "body_check" 1869), (.str "/claim/cut.py" 1870), (.int (20) 0), (.int (1) 0), (.int (0) 0), (.int (0) 0), (.int (3) 0), (.ref 60), (.bool true), (.int (276) 0), (.ref 61), .none, (.ref 62), (.ref 63), (.ref 64), (.int (1872) 0), (.int (20) 0), (.str "/claim/cut.py" 1873)]), #[]⟩) :: (nat_lit 66, ⟨(.type "function"), none, (.func ⟨"body_check", "body_check", fa16l, .stmts fb16l, fs16l, 3, [], .none, .none, .none, (.str "cpy313.email.quoprimime" 1362), none, (.ref 65), .none, 0⟩), #[]⟩) :: (nat_lit 67, ⟨(.type "tuple"), none, (.seq #[] 0), #[]⟩) :: (nat_lit 69, ⟨(.type "tuple"), none, (.seq #[(.str "s" 1878)] 0), #[]⟩) :: (nat_lit 70, ⟨(.type "tuple"), none, (.seq #[] 0), #[]⟩) :: (nat_lit 72, ⟨(.type "code"), none, (.fields #[(.str "unquote" 1875), (.str "unquote" 1876), (.str "/claim/cut.py" 1877), (.int (22) 0), (.int (1) 0), (.int (0) 0), (.int (0) 0), (.int (3) 0), (.ref 67), (.bool true), (.int (276) 0), (.ref 68), .none, (.ref 69), (.ref 70), (.ref 71), (.int (1879) 0), (.int (22) 0), (.str "/claim/cut.py" 1880)]), #[]⟩) :: (nat_lit 73, ⟨(.type "function"), none, (.func ⟨"unquote", "unquote", fa17l, .stmts fb17l, fs17l, 3, [], .none, .none, .none, (.str "cpy313.email.quoprimime" 1362), none, (.ref 72), .none, 0⟩), #[]⟩) :: (nat_lit 74, ⟨(.type "tuple"), none, (.seq #[] 0), #[]⟩) :: (nat_lit 76, ⟨(.type "tuple"), none, (.seq #[(.str "c" 1885)] 0), #[]⟩) :: (nat_lit 77, ⟨(.type "tuple"), none, (.seq #[] 0), #[]⟩) :: (nat_lit 79, ⟨(.type "code"), none, (.fields #[(.str "quote" 1882), (.str "quote" 1883), (.str "/claim/cut.py" 1884), (.int (24) 0), (.int (1) 0), (.int (0) 0), (.int (0) 0), (.int (3) 0), (.ref 74), (.bool true), (.int (276) 0), (.ref 75), .none, (.ref 76), (.ref 77), (.ref 78), (.int (1886) 0), (.int (24) 0), (.str "/claim/cut.py" 1887)]), #[]⟩) :: (nat_lit 80, ⟨(.type "function"), none, (.func ⟨"quote", "quote", fa18l, .stmts fb18l, fs18l, 3, [], .none, .none, .none, (.str "cpy313.email.quoprimime" 1362), none, (.ref 79), .none, 0⟩), #[]⟩) :: (nat_lit 81, ⟨(.type "tuple"), none, (.seq #[(.str "iso-8859-1" 1889)] 0), #[]⟩) :: (nat_lit 82, ⟨(.type "tuple"), none, (.seq #[] 0), #[]⟩) :: (nat_lit 84, ⟨(.type "tuple"), none, (.seq #[(.str "header_bytes" 1893), (.str "charset" 1894), (.str "encoded" 1895)] 0), #[]⟩) :: (nat_lit 85, ⟨(.type "tuple"), none, (.seq #[] 0), #[]⟩) :: (nat_lit 87, ⟨(.type "code"), none, (.fields #[(.str "header_encode" 1890), (.str "header_encode" 1891), (.str "/claim/cut.py" 1892), (.int (26) 0), (.int (2) 0), (.int (0) 0), (.int (0) 0), (.int (3) 0), (.ref 82), (.bool true), (.int (276) 0), (.ref 83), .none, (.ref 84), (.ref 85), (.ref 86), (.int (1896) 0), (.int (26) 0), (.str "/claim/cut.py" 1897)]), #[]⟩) :: (nat_lit 88, ⟨(.type "function"), none, (.func ⟨"header_encode", "header_encode", fa19l, .stmts fb19l, fs19l, 3, [], (.ref 81), .none, .none, (.str "cpy313.email.quoprimime" 1362), none, (.ref 87), .none, 0⟩), #[]⟩) :: (nat_lit 90, ⟨(.type "list"), none, (.seq l90.toArray 0), #[]⟩) :: (nat_lit 94, ⟨(.type "tuple"), none, (.seq #[(.str "\n" 317)] 0), #[]⟩) :: (nat_lit 95, ⟨(.type "tuple"), none, (.seq #[] 0), #[]⟩) :: (nat_lit 97, ⟨(.type "tuple"), none, (.seq #[(.str "encoded" 1910), (.str "eol" 1911), (.str "decoded" 1912), (.str "line" 1913), (.str "i" 1914), (.str "n" 1915), (.str "c" 1916)] 0), #[]⟩) :: (nat_lit 98, ⟨(.type "tuple"), none, (.seq #[] 0), #[]⟩) :: (nat_lit 100, ⟨(.type "code"), none, (.fields #[(.str "decode" 1907), (.str "decode" 1908), (.str "/claim/cut.py" 1909), (.int (35) 0), (.int (2) 0), (.int (0) 0), (.int (0) 0), (.int (3) 0), (.ref 95), (.bool true), (.int (276) 0), (.ref 96), .none, (.ref 97), (.ref 98), (.ref 99), (.int (1917) 0), (.int (35) 0), (.str "/claim/cut.py" 1918)]), #[]⟩) :: (nat_lit 101, ⟨(.type "function"), none, (.func ⟨"decode", "decode", fa23l, .stmts fb23l, fs23l, 3, [], (.ref 94), .none, .none, (.str "cpy313.email.quoprimime" 1362), none, (.ref 100), .none, 0⟩), #[]⟩) :: (nat_lit 102, ⟨(.type "tuple"), none, (.seq #[] 0), #[]⟩) :: (nat_lit 104, ⟨(.type "tuple"), none, (.seq #[(.str "match" 1923), (.str "s" 1924)] 0), #[]⟩) :: (nat_lit 105, ⟨(.type "tuple"), none, (.seq #[] 0), #[]⟩) :: (nat_lit 107, ⟨(.type "code"), none, (.fields #[(.str "_unquote_match" 1920), (.str "_unquote_match" 1921), (.str "/claim/cut.py" 1922), (.int (65) 0), (.int (1) 0), (.int (0) 0), (.int (0) 0), (.int (3) 0), (.ref 102), (.bool true), (.int (276) 0), (.ref 103), .none, (.ref 104), (.ref 105), (.ref 106), (.int (1925) 0), (.int (65) 0), (.str "/claim/cut.py" 1926)]), #[]⟩) :: (nat_lit 108, ⟨(.type "function"), none, (.func ⟨"_unquote_match", "_unquote_match", fa24l, .stmts fb24l, fs24l, 3, [], .none, .none, .none, (.str "cpy313.email.quoprimime" 1362), none, (.ref 107), .none, 0⟩), #[]⟩) :: (nat_lit 109, ⟨(.type "tuple"), none, (.seq #[] 0), #[]⟩) :: (nat_lit 111, ⟨(.type "tuple"), none, (.seq #[(.str "s" 1931)] 0), #[]⟩) :: (nat_lit 112, ⟨(.type "tuple"), none, (.seq #[] 0), #[]⟩) :: (nat_lit 114, ⟨(.type "code"), none, (.fields #[(.str "header_decode" 1928), (.str "header_decode" 1929), (.str "/claim/cut.py" 1930), (.int (68) 0), (.int (1) 0), (.int (0) 0), (.int (0) 0), (.int (3) 0), (.ref 109), (.bool true), (.int (276) 0), (.ref 110), .none, (.ref 111), (.ref 112), (.ref 113), (.int (1932) 0), (.int (68) 0), (.str "/claim/cut.py" 1933)]), #[]⟩) :: (nat_lit 115, ⟨(.type "function"), none, (.func ⟨"header_decode", "header_decode", fa25l, .stmts fb25l, fs25l, 3, [], .none, .none, .none, (.str "cpy313.email.quoprimime" 1362), none, (.ref 114), .none, 0⟩), #[]⟩) :: (nat_lit 116, ⟨(.type "tuple"), none, (.seq #[] 0), #[]⟩) :: (nat_lit 118, ⟨(.type "tuple"), none, (.seq #[(.str "a" 1940), (.str "b" 1941)] 0), #[]⟩) :: (nat_lit 119, ⟨(.type "tuple"), none, (.seq #[] 0), #[]⟩) :: (nat_lit 121, ⟨(.type "code"), none, (.fields #[(.str "_strcoll" 1937), (.str "_strcoll" 1938), (.str "/claim/cut.py" 1939), (.int (72) 0), (.int (2) 0), (.int (0) 0), (.int (0) 0), (.int (3) 0), (.ref 116), (.bool true), (.int (276) 0), (.ref 117), .none, (.ref 118), (.ref 119), (.ref 120), (.int (1942) 0), (.int (72) 0), (.str "/claim/cut.py" 1943)]), #[]⟩) :: (nat_lit 122, ⟨(.type "function"), none, (.func ⟨"_strcoll", "_strcoll", fa27l, .stmts fb27l, fs27l, 3, [], .none, .none, .none, (.str "cpy313.locale" 1935), none, (.ref 121), .none, 0⟩), #[]⟩) :: (nat_lit 123, ⟨(.type "tuple"), none, (.seq #[] 0), #[]⟩) :: (nat_lit 125, ⟨(.type "tuple"), none, (.seq #[(.str "s" 1948)] 0), #[]⟩) :: (nat_lit 126, ⟨(.type "tuple"), none, (.seq #[] 0), #[]⟩) :: (nat_lit 128, ⟨(.type "code"), none, (.fields #[(.str "_strxfrm" 1945), (.str "_strxfrm" 1946), (.str "/claim/cut.py" 1947), (.int (74) 0), (.int (1) 0), (.int (0) 0), (.int (0) 0), (.int (3) 0), (.ref 123), (.bool true), (.int (276) 0), (.ref 124), .none, (.ref 125), (.ref 126), (.ref 127), (.int (1949) 0), (.int (74) 0), (.str "/claim/cut.py" 1950)]), #[]⟩) :: (nat_lit 129, ⟨(.type "function"), none, (.func ⟨"_strxfrm", "_strxfrm", fa28l, .stmts fb28l, fs28l, 3, [], .none, .none, .none, (.str "cpy313.locale" 1935), none, (.ref 128), .none, 0⟩), #[]⟩) :: (nat_lit 130, ⟨(.type "tuple"), none, (.seq #[] 0), #[]⟩) :: (nat_lit 133, ⟨(.type "code"), none, (.fields #[(.str "_law_word" 1954), (.str "_law_word" 1955), (.str "/claim/cut.py" 1956), (.int (77) 0), (.int (1) 0), (.int (0) 0), (.int (0) 0), (.int (3) 0), (.ref 130), (.bool true), (.int (276) 0), (.ref 131), .none, .none, .none, (.ref 132), (.int (1957) 0), (.int (77) 0), (.str "/claim/cut.py" 1958)]), #[]⟩) :: (nat_lit 134, ⟨(.type "function"), none, (.func ⟨"_law_word", "_law_word", fa30l, .stmts fb30l, fs30l, 3, [], .none, .none, .none, (.str "law_pd0096_01" 1952), none, (.ref 133), .none, 0⟩), #[]⟩) :: (nat_lit 135, ⟨(.type "tuple"), none, (.seq #[] 0), #[]⟩) :: (nat_lit 137, ⟨(.type "tuple"), none, (.seq #[(.str "one" 1963), (.str "two" 1964), (.str "k" 1965)] 0), #[]⟩) :: (nat_lit 138, ⟨(.type "tuple"), none, (.seq #[] 0), #[]⟩) :: (nat_lit 140, ⟨(.type "code"), none, (.fields #[(.str "_law_order" 1960), (.str "_law_order" 1961), (.str "/claim/cut.py" 1962), (.int (79) 0), (.int (2) 0), (.int (0) 0), (.int (0) 0), (.int (3) 0), (.ref 135), (.bool true), (.int (276) 0), (.ref 136), .none, (.ref 137), (.ref 138), (.ref 139), (.int (1966) 0), (.int (79) 0), (.str "/claim/cut.py" 1967)]), #[]⟩) :: (nat_lit 141, ⟨(.type "function"), none, (.func ⟨"_law_order", "_law_order", fa31l, .stmts fb31l, fs31l, 3, [], .none, .none, .none, (.str "law_pd0096_01" 1952), none, (.ref 140), .none, 0⟩), #[]⟩) :: (nat_lit 142, ⟨(.type "tuple"), none, (.seq #[] 0), #[]⟩) :: (nat_lit 145, ⟨(.type "code"), none, (.fields #[(.str "_law_figures" 1969), (.str "_law_figures" 1970), (.str "/claim/cut.py" 1971), (.int (84) 0), (.int (1) 0), (.int (0) 0), (.int (0) 0), (.int (3) 0), (.ref 142), (.bool true), (.int (276) 0), (.ref 143), .none, .none, .none, (.ref 144), (.int (1972) 0), (.int (84) 0), (.str "/claim/cut.py" 1973)]), #[]⟩) :: (nat_lit 146, ⟨(.type "function"), none, (.func ⟨"_law_figures", "_law_figures", fa32l, .stmts fb32l, fs32l, 3, [], .none, .none, .none, (.str "law_pd0096_01" 1952), none, (.ref 145), .none, 0⟩), #[]⟩) :: (nat_lit 147, ⟨(.type "tuple"), none, (.seq #[] 0), #[]⟩) :: (nat_lit 150, ⟨(.type "code"), none, (.fields #[(.str "_law_rising" 1975), (.str "_law_rising" 1976), (.str "/claim/cut.py" 1977), (.int (87) 0), (.int (1) 0), (.int (0) 0), (.int (0) 0), (.int (3) 0), (.ref 147), (.bool true), (.int (276) 0), (.ref 148), .none, .none, .none, (.ref 149), (.int (1978) 0), (.int (87) 0), (.str "/claim/cut.py" 1979)]), #[]⟩) :: (nat_lit 151, ⟨(.type "function"), none, (.func ⟨"_law_rising", "_law_rising", fa33l, .stmts fb33l, fs33l, 3, [], .none, .none, .none, (.str "law_pd0096_01" 1952), none, (.ref 150), .none, 0⟩), #[]⟩) :: (nat_lit 152, ⟨(.type "tuple"), none, (.seq #[] 0), #[]⟩) :: (nat_lit 154, ⟨(.type "tuple"), none, (.seq #[(.str "sign" 1984), (.str "octet" 1985), (.str "plain" 1986), (.str "inner" 1987)] 0), #[]⟩) :: (nat_lit 155, ⟨(.type "tuple"), none, (.seq #[] 0), #[]⟩) :: (nat_lit 157, ⟨(.type "code"), none, (.fields #[(.str "_law_checked" 1981), (.str "_law_checked" 1982), (.str "/claim/cut.py" 1983), (.int (93) 0), (.int (1) 0), (.int (0) 0), (.int (0) 0), (.int (3) 0), (.ref 152), (.bool true), (.int (276) 0), (.ref 153), .none, (.ref 154), (.ref 155), (.ref 156), (.int (1988) 0), (.int (93) 0), (.str "/claim/cut.py" 1989)]), #[]⟩) :: (nat_lit 158, ⟨(.type "function"), none, (.func ⟨"_law_checked", "_law_checked", fa34l, .stmts fb34l, fs34l, 3, [], .none, .none, .none, (.str "law_pd0096_01" 1952), none, (.ref 157), .none, 0⟩), #[]⟩) :: (nat_lit 159, ⟨(.type "tuple"), none, (.seq #[] 0), #[]⟩) :: (nat_lit 162, ⟨(.type "code"), none, (.fields #[(.str "law" 1991), (.str "law" 1992), (.str "/claim/cut.py" 1993), (.int (100) 0), (.int (1) 0), (.int (0) 0), (.int (0) 0), (.int (3) 0), (.ref 159), (.bool true), (.int (276) 0), (.ref 160), .none, .none, .none, (.ref 161), (.int (1994) 0), (.int (100) 0), (.str "/claim/cut.py" 1995)]), #[]⟩) :: (nat_lit 163, ⟨(.type "function"), none, (.func ⟨"law", "law", fa35l, .stmts fb35l, fs35l, 3, [], .none, .none, .none, (.str "law_pd0096_01" 1952), none, (.ref 162), .none, 0⟩), #[]⟩) :: []
theorem K_eq : Kn = K := by kernel_rfl
theorem K_ads : ∀ P, ads = (K P).map (·.1) := fun P => by kernel_rfl
@[reducible] noncomputable def H : Hook := kHook K ads K_ads
theorem left0 : LeftO PySem.Challenge.pw_pd0096_01 qv lo (fun s => xlAt qv lv s && recOk [] s) (fun s => ads.map s.heap.get?) (fun w => (Kn w.params).map fun p => some p.2) 18931 true :=
  LeftO.of_pieces (H₀ := Ho) (H₁ := Hm) (gs₀ := ⟨[]⟩) (gs₁ := ⟨[]⟩) (d₀ := {}) (d₁ := {}) (k₀ := 276) (k₁ := 1997) (m₀ := 28) (ann := ann) (M := 17931) opens (fun w => congrFun esiz w) run (by rfl)
    (fun w => funext fun os => looks_pair (congrFun (congrFun elk0 w) os) (looks_pair (congrFun (congrFun elk1 w) os) (congrFun (congrFun elk2 w) os)))
theorem left1 : LeftO PySem.Challenge.pw_pd0096_01 Q lo (fun s => xlAt Q lv s && recOk [] s) (fun s => ads.map s.heap.get?) (fun w => (K w.params).map fun p => some p.2) 18931 true := by
  have x := left0
  rw [Q_eq, K_eq] at x
  exact x
abbrev LawWalk : Prop := WalkO Q lo (XL Q lv) H.says PySem.Challenge.rw_pd0096_01.row.toRowW ⟨"law", fa35l, fb35l, fs35l, ⟨100, 0, 117, 76⟩⟩ [] (fun f vs => PySem.call f vs)
set_option maxHeartbeats 4000000 in
theorem headed (walk : LawWalk) : PySem.Challenge.rw_pd0096_01.Holds := by
  w_on
  o_law
  refine holds_open (q := Q) (loose := lo) (Xt := fun s => xlAt Q lv s && recOk (RowW.records PySem.Challenge.rw_pd0096_01.row.toRowW) s) (XP := XL Q lv) (Yf := Hook.obs H) (Ya := Hook.val H) (YP := Hook.says H) (N := 18931) left1 (Hook.of H) (Hook.keeps H) (fun s e => xl_of s (Bool.and_eq_true_iff.mp e).1) XL.keeps (by rfl) (by rfl) (by rfl) (fun s e => recFacts_of (Bool.and_eq_true_iff.mp e).2) (by rfl) (by assumption) (by decide +kernel) ⟨rfl, rfl, rfl, rfl, rfl, by decide +kernel⟩ ?hw walk
  case hw => w_witness2
end Mine
open PySem.Calls
namespace Mine
theorem startWA : True := by
  w_top off
  trivial
/-- what a call of the def at f with the arguments vs gives back: a value, all else as it was -/
abbrev Tells (w : World) (f : Addr) (vs : List Value) (R : Tok → Value) : Prop :=
  ∀ (mean : ExcName → Option Value) (mg mb : Str → Option Value) (news : List (Addr × Obj)), CbClaim PySem.Challenge.rw_pd0096_01.row.prog w (K w.params) Q (looseW Q lo) mean mg mb f news [] True vs R

/-- letters, figures, - ! * + / -/
def plainN (c : Nat) : Bool := c == 45 || c == 33 || c == 42 || c == 43 || c == 47 || (Nat.ble 48 c && Nat.ble c 57) || (Nat.ble 65 c && Nat.ble c 90) || (Nat.ble 97 c && Nat.ble c 122)
def bodyN (c : Nat) : Bool := c == 9 || (Nat.ble 32 c && Nat.ble c 126 && !(c == 61))
noncomputable def hdr (c : Nat) : Str := bif plainN c then ⟨⟨[c]⟩⟩ else bif c == 32 then ⟨⟨[95]⟩⟩ else hx c
noncomputable def bdyM (c : Nat) : Str := bif bodyN c then ⟨⟨[c]⟩⟩ else hx c
def isText (f : Nat → Str) (l : List Value) : Bool := l.length == 256 && (List.range 256).all fun k => match l[k]? with
  | some (.str s _) => s == f k
  | _ => false
theorem isText_get {f : Nat → Str} {l : List Value} (h : isText f l = true) {k : Nat} (hk : k < 256) : ∃ t, l[k]? = some (.str (f k) t) := by
  unfold isText at h
  obtain ⟨_, h⟩ := Bool.and_eq_true_iff.mp h
  have := List.all_eq_true.mp h k (List.mem_range.mpr hk)
  split at this
  · rename_i s t e
    exact ⟨t, by rw [e, eq_of_beq this]⟩
  · cases this
theorem ql_is : isText hx ql = true := by decide +kernel
theorem l44_is : isText hdr l44 = true := by decide +kernel
theorem l46_is : isText bdyM l46 = true := by decide +kernel
section
variable {w : World} {A : Around} {E : Value → Shared → Prop} {s : Shared} {h₀ : Heap} {L : Addr} {m : Str → Option Value} {value slice : PySem.Expr} {k : Int} {u : Tok} {Q : Value → Shared → Prop}
theorem sub_list {prog : Program} {a : Addr} {l : List Value} {n : Nat} {f : Nat → Str} (F : Fr h₀ L s.heap m) (X₀ : (K w.params).In h₀) (hl : (K w.params).lookup a = some ⟨.type "list", none, .seq l.toArray n, #[]⟩) (ht : isText f l = true) (h0 : 0 ≤ k) (hk : k < 256)
    (h : ∀ t, Q (.str (f k.toNat) t) s) (hs : subscripted slice false (.ref a) (.int k u) = operate [.ref a, .int k u] (getItem (.ref a) (.int k u)) := by with_unfolding_all rfl) :
    wpAny (model prog w) A (subscriptTail value slice (.ref a) (.int k u)) Q E s := by
  obtain ⟨t, e⟩ := isText_get ht (k := k.toNat) (by omega)
  exact topList_K F X₀ hl h0 (by omega) e (h t) hs
end
local macro_rules | `(tactic| walk_at "subscriptTail") => `(tactic| (k_here; (with_reducible show wpAny _ _ (subscriptTail _ _ (Value.ref 39) (Value.int _ _)) _ _ _); (with_unfolding_all refine' sub_list ?k1 ?k2 (n := 256) (l := ql) (f := hx) ?k3 ql_is ?k4 ?k5 ?_ ?k6; (case k1 => k_asm); (case k2 => k_asm); (case k3 => exact rfl); (case k4 => omega); (case k5 => omega); (case k6 => with_unfolding_all rfl); k_whole); intro tq'))
local macro_rules | `(tactic| walk_at "subscriptTail") => `(tactic| (k_here; (with_reducible show wpAny _ _ (subscriptTail _ _ (Value.ref 44) (Value.int _ _)) _ _ _); (with_unfolding_all refine' sub_list ?k1 ?k2 (n := 0) (l := l44) (f := hdr) ?k3 l44_is ?k4 ?k5 ?_ ?k6; (case k1 => k_asm); (case k2 => k_asm); (case k3 => exact rfl); (case k4 => omega); (case k5 => omega); (case k6 => with_unfolding_all rfl); k_whole); intro tq'))
local macro_rules | `(tactic| walk_at "subscriptTail") => `(tactic| (k_here; (with_reducible show wpAny _ _ (subscriptTail _ _ (Value.ref 46) (Value.int _ _)) _ _ _); (with_unfolding_all refine' sub_list ?k1 ?k2 (n := 0) (l := l46) (f := bdyM) ?k3 l46_is ?k4 ?k5 ?_ ?k6; (case k1 => k_asm); (case k2 => k_asm); (case k3 => exact rfl); (case k4 => omega); (case k5 => omega); (case k6 => with_unfolding_all rfl); k_whole); intro tq'))
theorem hc_all : ∀ c < 256, ((⟨#[c]⟩ : PySem.Str) != hdr c) = !plainN c := by
  have h : (List.range 256).all (fun c => ((⟨#[c]⟩ : PySem.Str) != hdr c) == !plainN c) = true := by decide +kernel
  exact fun c hc => eq_of_beq (List.all_eq_true.mp h c (List.mem_range.mpr hc))
theorem bc_all : ∀ c < 256, ((⟨#[c]⟩ : PySem.Str) != bdyM c) = !bodyN c := by
  have h : (List.range 256).all (fun c => ((⟨#[c]⟩ : PySem.Str) != bdyM c) == !bodyN c) = true := by decide +kernel
  exact fun c hc => eq_of_beq (List.all_eq_true.mp h c (List.mem_range.mpr hc))
set_option maxHeartbeats 4000000 in
theorem quote_tells (w : World) (c : Nat) (hc : c < 256) (t0 : Tok) : Tells w 80 [.str ⟨#[c]⟩ t0] (fun t => .str (hx c) t) := by
  unfold Tells
  k_fill
  dsimp only [CbClaim, CbLists, CbRet]
  intros
  rename_i hret
  refine wpAny_call ?_
  k_dflt cell_enter
  k_steps

  exact cb_retS hret rfl (by k_asm) (by k_asm)
set_option maxHeartbeats 4000000 in
theorem hcheck_tells (w : World) (c : Nat) (hc : c < 256) (t0 : Tok) : Tells w 59 [.int (c : Int) t0] (fun _ => .bool (!(plainN c))) := by
  unfold Tells
  k_fill
  dsimp only [CbClaim, CbLists, CbRet]
  intros
  rename_i hret
  refine wpAny_call ?_
  k_dflt cell_enter
  k_steps
  exact cb_retB hret (hc_all c hc) (by k_asm) (by k_asm)
set_option maxHeartbeats 4000000 in
theorem bcheck_tells (w : World) (c : Nat) (hc : c < 256) (t0 : Tok) : Tells w 66 [.int (c : Int) t0] (fun _ => .bool (!(bodyN c))) := by
  unfold Tells
  k_fill
  dsimp only [CbClaim, CbLists, CbRet]
  intros
  rename_i hret
  refine wpAny_call ?_
  k_dflt cell_enter
  k_steps
  exact cb_retB hret (bc_all c hc) (by k_asm) (by k_asm)
end Mine
open PySem.Builtin
namespace Mine
theorem hx_len (c : Nat) : (hx c).length = 3 := rfl
theorem hdr_len (c : Nat) : (hdr c).length ≤ 3 := by
  unfold hdr
  cases plainN c with
  | true => exact Nat.le_of_ble_eq_true rfl
  | false =>
    cases (c == 32) with
    | true => exact Nat.le_of_ble_eq_true rfl
    | false => exact Nat.le_of_eq (hx_len c)
theorem one_cps {x : PySem.Str} (h : x.length = 1) : ∃ d, x = ⟨#[d]⟩ := by
  obtain ⟨⟨l⟩⟩ := x
  match l, h with
  | [d], _ => exact ⟨d, rfl⟩
section
variable {prog : Program} {w : World} {A : Around} {E : Value → Shared → Prop} {s : Shared}
/-- a method of a built-in type, by its body -/
theorem call_m {T : String} {name : Str} {id : String} {B : Builtin} {self : Value} {rest : List Value} {Q : Value → Shared → Prop} (slot : Slot T name id) (hT : s.TypeIs self T)
    (entry : entryFor table id = some B) (args : argsOk id ⟨self :: rest, []⟩) (h : wpAny (model prog w) A.in1 (B ⟨self :: rest, []⟩) (fun fin s' => ∃ v, fin = .done (.ret v) ∧ Q v s') E s) :
    wpAny (model prog w) A (call (.builtin id) (self :: rest)) Q E s :=
  wpAny_call (codeAny_call_builtin slot.plain entry (slot.check _ _ _ _ _ _ _ _ hT args (wpAny_mono h (fun fin s' h' => by obtain ⟨v, rfl, hv⟩ := h'; exact hv) fun _ _ x => x)))
theorem ret_text {x : PySem.Str} {Q : Value → Shared → Prop} (hx : x.length ≤ sizeLine) (h : ∀ t' k, Q (.str x t') { s with toks := k }) :
    wpAny (model prog w) A (retStr x) (fun fin s' => ∃ v, fin = .done (.ret v) ∧ Q v s') E s :=
  wpAny_bind (wpAny_mkStr (wpAny_pure ⟨_, rfl, h _ _⟩) hx)
theorem tl_hdr {h₀ : Heap} {L : Addr} {m : Str → Option Value} {c : Nat} {Q : Builtin.Str.Mapped → Shared → Prop} (F : Fr h₀ L s.heap m) (X : (K w.params).In h₀) (hc : c < 256) (h : Q (.text (hdr c)) { s with toks := s.toks + 1 }) :
    wpAny (model prog w) A (Builtin.Str.tableLookup (.ref 44) c) Q E s := by
  obtain ⟨t, e⟩ := isText_get l44_is hc
  unfold Builtin.Str.tableLookup
  refine wpAny_bind (wpAny_attempt (wpAny_bind (wpAny_mkInt ?_)))
  refine topGetList_K (s := { s with toks := s.toks + 1 }) F X (a := 44) (l := l44) (n := 0) (dd := none) (sl := #[]) rfl (by omega) (by omega) (by simpa using e) ?_
  refine wpAny_bind (wpAny_of_eq (show asInt? (.str (hdr c) t) = pure none from by kernel_rfl) ?_)
  refine wpAny_bind (wpAny_of_eq (show asStr? (.str (hdr c) t) = pure (some (hdr c)) from by kernel_rfl) ?_)
  exact wpAny_pure h
theorem translate1 {h₀ : Heap} {L : Addr} {m : Str → Option Value} {c : Nat} {t : Tok} {Q : Value → Shared → Prop} (F : Fr h₀ L s.heap m) (X : (K w.params).In h₀) (hc : c < 256) (h : ∀ t' k, Q (.str (hdr c) t') { s with toks := k }) :
    wpAny (model prog w) A (call (.builtin "str.translate") [.str ⟨#[c]⟩ t, .ref 44]) Q E s := by
  refine call_m PySem.F.slot_str_translate (typeIs_str _ _ _) PySem.F.entry_str_translate (PySem.F.args_str_translate_2 _ _) ?_
  unfold «str.translate»
  have e1 : Builtin.Str.strOneArg "translate" ⟨[.str ⟨#[c]⟩ t, .ref 44], []⟩ = pure (.str ⟨#[c]⟩ t, ⟨#[c]⟩, .ref 44) := by kernel_rfl
  rw [e1]
  simp only [pure_bind, bind_pure, List.forIn_toArray, List.forIn_cons, List.forIn_nil]
  have e2 : ((⟨#[c]⟩ : PySem.Str).length == 0) = false := rfl
  rw [e2]
  simp only [Bool.false_eq_true, if_false]
  have e3 : Builtin.Str.tooLong 0 = false := by decide
  rw [e3]
  simp only [Bool.false_eq_true, if_false]
  have hl := hdr_len c
  have fin : ∀ (k : Nat), wpAny (model prog w) A.in1 (if Builtin.Str.tooLong (0 + (hdr c).length) = true then do
          unsupported "str.translate:memory"
          retStr { cps := List.foldl (fun acc p => acc ++ p.cps) #[] [hdr c].reverse }
        else retStr { cps := List.foldl (fun acc p => acc ++ p.cps) #[] [hdr c].reverse }) (fun fin s' => ∃ v, fin = Fin.done (Flow.ret v) ∧ Q v s') E { s with toks := k } := by
    intro k
    have e4 : Builtin.Str.tooLong (0 + (hdr c).length) = false := by
      unfold Builtin.Str.tooLong
      rw [sizeLine_eq]
      exact decide_eq_false (by omega)
    have e5 : (⟨List.foldl (fun acc p => acc ++ p.cps) #[] [hdr c].reverse⟩ : PySem.Str) = hdr c := by
      show (⟨#[] ++ (hdr c).cps⟩ : PySem.Str) = hdr c
      rw [Array.empty_append]
    rw [e4, e5]
    simp only [Bool.false_eq_true, if_false]
    exact ret_text (by rw [sizeLine_eq]; omega) (fun t' k' => h t' k')
  cases hb : (#[c].all fun x => decide (x < 128)) with
  | false =>
    simp only [Bool.false_eq_true, if_false]
    refine wpAny_bind (wpAny_bind (wpAny_bind (tl_hdr F X hc ?_)))
    exact wpAny_pure (wpAny_pure (fin _))
  | true =>
    simp only [if_true, List.lookup_nil]
    refine wpAny_bind (wpAny_bind (wpAny_bind (tl_hdr F X hc ?_)))
    dsimp only
    cases hg : ((hdr c).length == 1 && (hdr c).cps.all fun x => decide (x < 128)) with
    | false =>
      simp only [Bool.false_eq_true, if_false]
      refine wpAny_bind (wpAny_rule ?_)
      refine wpAny_bind (tl_hdr (s := { s with toks := s.toks + 1 }) F X hc ?_)
      exact wpAny_pure (wpAny_pure (fin _))
    | true =>
      obtain ⟨d, hd⟩ := one_cps (eq_of_beq (Bool.and_eq_true_iff.mp hg).1)
      have e0 : (hdr c).cps[0]? = some d := by rw [hd]; rfl
      simp only [if_true, e0]
      refine wpAny_pure (wpAny_pure ?_)
      have f := fin (s.toks + 1)
      rw [hd] at f
      exact f
end
end Mine
namespace Mine
/-- two hexadecimal figures -/
noncomputable def h2 (k : Nat) : PySem.Str := ⟨⟨[hd (k / 16), hd (k % 16)]⟩⟩
theorem map_get {α : Type} {f g : Nat → α} {n : Nat} (h : (List.range n).map f = (List.range n).map g) {k : Nat} (hk : k < n) : f k = g k := by
  have := congrArg (fun l : List α => l[k]?) h
  simp only [List.getElem?_map] at this
  rw [List.getElem?_range hk] at this
  simpa using this
theorem int16_all (t u : Tok) : (List.range 256).map (fun k : Nat => «int.__new__» ⟨[.type "int", .str (h2 k) t, .int 16 u], []⟩) = (List.range 256).map (fun k : Nat => (mkInt (k : Int) >>= fun v => ret v)) := by kernel_rfl
theorem int16_typeCall (a b : Value) : checkTypeCall "int" ⟨[a, b], []⟩ = pure () := by kernel_rfl
theorem int16_newCall (a b : Value) : checkBuiltinCall "int.__new__" ⟨[.type "int", a, b], []⟩ = pure () := by kernel_rfl
theorem int16_init (obj a b : Value) : argsOk "object.__init__" ⟨[obj, a, b], []⟩ := by unfold argsOk; kernel_rfl
theorem decode_eq (b : UInt8) (t t1 : Tok) : «bytes.decode» ⟨[.bytes #[b] t, .str (PySem.Str.ofString "latin1") t1], []⟩ = (mkStr (PySem.Str.ofString "utf-8") >>= fun _ => mkStr (PySem.Str.ofString "latin1") >>= fun e => mkStr (PySem.Str.ofString "bytes.decode") >>= fun d =>
    call (.builtin "_codecs.decode.text") [.bytes #[b] t, e, .none, d] >>= fun v => ret v) := by kernel_rfl
theorem decode_args (a b : Value) : argsOk "bytes.decode" ⟨[a, b], []⟩ := by unfold argsOk; kernel_rfl
theorem road_eq {id : String} (b : UInt8) : _codecs.decodeRoad id #[b] (PySem.Str.ofString "latin1") none [] = (_codecs.runDecoder id _codecs.latin1Decoder none true #[b] 0 [] >>= fun r => mkStr ⟨r.1⟩) := by kernel_rfl
theorem run_eq {id : String} (b : UInt8) : _codecs.runDecoder id _codecs.latin1Decoder none true #[b] 0 [] = pure (#[b.toNat], 1) := by kernel_rfl
section
variable {prog : Program} {w : World} {A : Around} {E : Value → Shared → Prop} {s : Shared}
theorem int16 {k : Nat} {t u : Tok} {Q : Value → Shared → Prop} (hk : k < 256) (h : Q (.int (k : Int) s.toks) { s with toks := s.toks + 1 }) : wpAny (model prog w) A (call (.type "int") [.str (h2 k) t, .int 16 u]) Q E s := by
  refine callType_new F.called_int F.newNe_int (int16_typeCall _ _) (int16_newCall _ _) (fun obj => int16_init obj _ _) F.entry_int_new (S := fun _ R s => R (.ok (.ret (.int (k : Int) s.toks))) { s with toks := s.toks + 1 }) ?_ ⟨typeIs_int _ _ _, h⟩
  refine .of_wp fun prog w A R s hS => ?_
  rw [map_get (int16_all t u) hk]
  exact wpAny_bind (wpAny_mkInt (wpAny_pure ⟨_, rfl, hS⟩))
theorem latin1 {b : UInt8} {t t1 : Tok} {Q : Value → Shared → Prop} (h : ∀ t' k, Q (.str ⟨#[b.toNat]⟩ t') { s with toks := k }) : wpAny (model prog w) A (call (.builtin "bytes.decode") [.bytes #[b] t, .str (PySem.Str.ofString "latin1") t1]) Q E s := by
  refine call_m FB.slot_bytes_decode (typeIs_bytes _ _ _) FB.entry_bytes_decode (decode_args _ _) ?_
  rw [decode_eq]
  refine wpAny_bind (wpAny_mkStr ?_ (by decide))
  refine wpAny_bind (wpAny_mkStr ?_ (by decide))
  refine wpAny_bind (wpAny_mkStr ?_ (by decide))
  refine wpAny_bind (call_function_entry KBd.kind_text KBd.plain_text KBd.entry_text (KBd.args_text _ _ _ _) ?_)
  show wpAny _ _ (Bytes.bytesLike _ (.bytes #[b] t) >>= fun r => _) _ _ _
  refine wpAny_bind (wpAny_of_eq KBd.like_eq ?_)
  refine wpAny_bind (wpAny_of_eq KBd.held_eq ?_)
  show wpAny _ _ (_codecs.decodeRoad _ #[b] (PySem.Str.ofString "latin1") none [] >>= fun v => _) _ _ _
  rw [road_eq, run_eq]
  refine wpAny_bind (wpAny_bind (wpAny_pure ?_))
  refine wpAny_mkStr (wpAny_pure ⟨_, rfl, ?_⟩) (by rw [sizeLine_eq]; exact Nat.le_of_ble_eq_true rfl)
  exact wpAny_pure ⟨_, rfl, h _ _⟩
end
end Mine
namespace Mine
theorem startWC : True := by
  w_top off
  trivial
section
variable {prog : Program} {w : World} {A : Around} {E : Value → Shared → Prop} {s : Shared}
theorem latin1N {c : Nat} {t t1 : Tok} {Q : Value → Shared → Prop} (hc : c < 256) (h : ∀ t' k, Q (.str ⟨#[c]⟩ t') { s with toks := k }) : wpAny (model prog w) A (call (.builtin "bytes.decode") [.bytes #[c.toUInt8] t, .str (PySem.Str.ofString "latin1") t1]) Q E s := by
  refine latin1 fun t' k => ?_
  have e : c.toUInt8.toNat = c := by simp; omega
  rw [e]
  exact h t' k
theorem truthy1 {b : UInt8} {t : Tok} {Q : Bool → Shared → Prop} (h : Q true { s with toks := s.toks + 1 + 1 }) : wpAny (model prog w) A (truthy (.bytes #[b] t)) Q E s :=
  truthy_bytes (by exact Nat.le_of_ble_eq_true rfl) h
theorem gm_translate {M : Model} {x : PySem.Str} {t : Tok} {pl : Sem Bool} {Q : Value × List Value → Shared → Prop} (h : Q (.builtin "str.translate", [.str x t]) s) : wpAny M A (getMethod (.str x t) "translate" pl) Q E s := by
  with_reducible exact GM.of (.str x t) (typeIs_str _ _ _) F.slot_str_translate F.type_str_translate GM.noRef h
end
theorem hencode_text (c : Nat) : PySem.Str.empty ++ PySem.Str.ofString "=?" ++ PySem.Str.ofString "iso-8859-1" ++ PySem.Str.ofString "?q?" ++ hdr c ++ PySem.Str.ofString "?=" = PySem.Str.ofString "=?iso-8859-1?q?" ++ hdr c ++ PySem.Str.ofString "?=" := by
  have e : PySem.Str.empty ++ PySem.Str.ofString "=?" ++ PySem.Str.ofString "iso-8859-1" ++ PySem.Str.ofString "?q?" = PySem.Str.ofString "=?iso-8859-1?q?" := by decide +kernel
  rw [e]
local macro_rules | `(tactic| walk_at "getMethod str") => `(tactic| (k_here; (with_reducible refine gm_translate ?_)))
local macro_rules | `(tactic| walk_at "convS str") => `(tactic| ((refine SB.convS_str (hsz := ?hsz) ?_); (case hsz => exact Nat.le_trans (hdr_len _) (by decide)); intro _ _))
local macro_rules | `(tactic| walk_at "truthy bytes") => `(tactic| (k_here; refine truthy1 ?_))
local macro_rules | `(tactic| walk_at "call builtin:bytes.decode") => `(tactic| (k_here; (with_reducible show wpAny _ _ (call (Value.builtin "bytes.decode") [Value.bytes _ _, Value.str _ _]) _ _ _); refine latin1N (by assumption) ?_; intro t' k'))
local macro_rules | `(tactic| walk_at "call builtin:str.translate") => `(tactic| (k_here; (with_reducible show wpAny _ _ (call (Value.builtin "str.translate") [Value.str _ _, Value.ref 44]) _ _ _); refine translate1 (by k_asm) (by k_asm) (by assumption) ?_; intro t' k'))
local macro_rules | `(tactic| walk_at "call type:int") => `(tactic| (k_here; (with_reducible show wpAny _ _ (call (Value.type "int") [Value.str _ _, Value.int _ _]) _ _ _); refine int16 (by assumption) ?_))
set_option maxHeartbeats 4000000 in
theorem hencode_tells (w : World) (c : Nat) (hc : c < 256) (t0 : Tok) : Tells w 88 [.bytes #[c.toUInt8] t0] (fun t => .str (PySem.Str.ofString "=?iso-8859-1?q?" ++ hdr c ++ PySem.Str.ofString "?=") t) := by
  have hl := hdr_len c
  unfold Tells
  k_fill
  dsimp only [CbClaim, CbLists, CbRet]
  intros
  rename_i hret
  refine wpAny_call ?_
  k_dflt (refine' code_def ?k1 ?k2 ?k3 ?k4 ?k5 ?kA ?kF ?kK ?k6 ?k7 ?k8 ?k9 ?kB ?_ ?c2 ?c3 ?c4 ?c5; (case kA => exact rfl); (case kF => exact rfl); (case kK => assumption); (case k1 => k_asm); (case k2 => k_asm); (case k3 => k_asm); (case k4 => k_asm); (case k5 => k_asm); (case k6 => k_is); (case k7 => k_is); (case k8 => ktr_room); (case k9 => first | exact BindsTo.of_eq rfl | exact binds_K (by k_in) rfl (by k_is) rfl rfl rfl); (case c5 => decide); (case kB => exact locs rfl); (case c2 => exact rfl); (case c3 => exact rfl); (case c4 => exact rfl); k_whole; intro g' L' h' FG' F' N' B' X' T'; (try dsimp only); (try k_lift B'); (try k_fold))
  k_steps
  refine cb_retS hret ?_ (by k_asm) (by k_asm)
  exact hencode_text c
set_option maxHeartbeats 4000000 in
theorem unquote_tells (w : World) (c : Nat) (hc : c < 256) (t0 : Tok) : Tells w 73 [.str (hx c) t0] (fun t => .str ⟨#[c]⟩ t) := by
  unfold Tells
  k_fill
  dsimp only [CbClaim, CbLists, CbRet]
  intros
  rename_i hret
  refine wpAny_call ?_
  k_dflt cell_enter
  k_steps
  exact cb_retS hret (show (⟨#[((c : Int)).toNat]⟩ : PySem.Str) = ⟨#[c]⟩ from rfl) (by k_asm) (by k_asm)
end Mine
namespace Mine
/-- as Tells, with room for r frames and u units of the C stack -/
abbrev TellsR (r u : Nat) (w : World) (f : Addr) (vs : List Value) (R : Tok → Value) : Prop :=
  ∀ (mean : ExcName → Option Value) (mg mb : Str → Option Value) (news : List (Addr × Obj)) (dp un : Nat) (gd : Option (List Code)) (cn : Str) (cs : Scope) (a : Addr) (ccd : Value) (cl : List (Str × Addr)) (outer : List Env) (A₀ : Around) (base h₀ : Heap) (L : Addr) (m : Str → Option Value) (s : Shared) (Q' E : Value → Shared → Prop),
    Below A₀ base outer h₀ → Fr h₀ L s.heap m → (K w.params).In h₀ → News h₀ L s.heap news → Top Q (looseW Q lo) mean mg mb h₀ → cs.kind = .function →
    dp + r < recursionLimit → un + u < cLine →
    (∀ (t : Tok) (h' : Heap) (tk' : Nat), Fr h₀ L h' m → News h₀ L h' news → Q' (R t) { s with heap := h', toks := tk' }) →
      wpAny (model PySem.Challenge.rw_pd0096_01.row.prog w) (ktrTop dp un gd cn cs L a ccd cl outer) (call (.ref f) vs) Q' E s
theorem Tells.toR {w : World} {f : Addr} {vs : List Value} {R : Tok → Value} (T : Tells w f vs R) : TellsR 1 8 w f vs R :=
  fun mean mg mb news dp un gd cn cs a ccd cl outer A₀ base h₀ L m s Q' E B F X N Tp hk hd hu ret => T mean mg mb news dp un gd cn cs a ccd cl outer A₀ base h₀ L m s Q' E B F X N Tp hk trivial hd hu ret
theorem TellsR.use {r u : Nat} {w : World} {f : Addr} {vs : List Value} {R : Tok → Value} (T : TellsR r u w f vs R)
    {mean : ExcName → Option Value} {mg mb : Str → Option Value} {news : List (Addr × Obj)} {dp un : Nat} {gd : Option (List Code)} {cn : Str} {cs : Scope} {a : Addr} {ccd : Value} {cl : List (Str × Addr)} {outer : List Env} {A₀ : Around} {base h₀ : Heap} {L : Addr} {m : Str → Option Value} {s : Shared} {Q' E : Value → Shared → Prop}
    (B : Below A₀ base outer h₀) (F : Fr h₀ L s.heap m) (X : (K w.params).In h₀) (N : News h₀ L s.heap news) (Tp : Top Q (looseW Q lo) mean mg mb h₀) (hk : cs.kind = .function) (hd : dp + r < recursionLimit) (hu : un + u < cLine)
    (ret : ∀ (t : Tok) (h' : Heap) (tk' : Nat), Fr h₀ L h' m → News h₀ L h' news → Q' (R t) { s with heap := h', toks := tk' }) :
    wpAny (model PySem.Challenge.rw_pd0096_01.row.prog w) (ktrTop dp un gd cn cs L a ccd cl outer) (call (.ref f) vs) Q' E s := T mean mg mb news dp un gd cn cs a ccd cl outer A₀ base h₀ L m s Q' E B F X N Tp hk hd hu ret
end Mine
namespace Mine
section
variable {prog : Program} {w : World} {A : Around} {E : Value → Shared → Prop} {s : Shared} {h₀ : Heap} {L : Addr} {m : Str → Option Value} {env : Env}
/-- a turn's end: the frame and the ledger as they were, and what is asked of the value -/
def TurnEnd (h₀ : Heap) (L : Addr) (m : Str → Option Value) (s : Shared) (nw : List (Addr × Obj)) (G : Value → Prop) (y : Value) (s' : Shared) : Prop :=
  ∃ h' tk', s' = { s with heap := h', toks := tk' } ∧ Fr h₀ L h' m ∧ News h₀ L h' nw ∧ G y
theorem TurnEnd.intro {h₀ : Heap} {L : Addr} {m : Str → Option Value} {s : Shared} {nw : List (Addr × Obj)} {G : Value → Prop} {y : Value} {h' : Heap} {tk : Nat} (F : Fr h₀ L h' m) (N : News h₀ L h' nw) (g : G y) : TurnEnd h₀ L m s nw G y { s with heap := h', toks := tk } := ⟨h', tk, rfl, F, N, g⟩
/-- a text as a comprehension's source -/
def SrcStr (prog : Program) (w : World) (A : Around) (h₀ : Heap) (L : Addr) (m : Str → Option Value) (env : Env) (elt : PySem.Expr) (x : Str) (scope : Scope) (cl : List (Str × Addr)) (Fin : Shared → List Value → List (Addr × Obj) → Prop) (xv : Value) (s₁ : Shared) : Prop :=
  ∃ xs t news, xv = .str xs t ∧ A.handled = none ∧ Fr h₀ L s₁.heap m ∧ News h₀ L s₁.heap news ∧ xs.cps.size ≤ sizeLine ∧
      ∀ s₂ : Shared, (∃ h, s₂ = { s₁ with heap := h }) → LCg.CompRest prog w A h₀ L m env elt x scope cl s₂ (fun _ => True) (SignAt xs) (Fin s₂) xs.cps.size 0 [] news
theorem SrcStr.intro {prog : Program} {w : World} {A : Around} {h₀ : Heap} {L : Addr} {m : Str → Option Value} {env : Env} {elt : PySem.Expr} {x : Str} {scope : Scope} {cl : List (Str × Addr)} {Fin : Shared → List Value → List (Addr × Obj) → Prop} {xs : Str} {t : Tok} {s₁ : Shared} {news : List (Addr × Obj)}
    (hh : A.handled = none) (F : Fr h₀ L s₁.heap m) (N : News h₀ L s₁.heap news) (hsz : xs.cps.size ≤ sizeLine)
    (R : ∀ g : Heap, LCg.CompRest prog w A h₀ L m env elt x scope cl { s₁ with heap := g } (fun _ => True) (SignAt xs) (Fin { s₁ with heap := g }) xs.cps.size 0 [] news) : SrcStr prog w A h₀ L m env elt x scope cl Fin (.str xs t) s₁ :=
  ⟨xs, t, news, rfl, hh, F, N, hsz, fun _ ⟨g, e⟩ => e ▸ R g⟩
/-- a comprehension's turns by what holds of each item: the ledger stays -/
theorem comp_rest {elt : PySem.Expr} {x : Str} {scope : Scope} {cl : List (Str × Addr)} {S : List (Addr × Obj) → Prop} {P : Nat → Value → Prop} {Fin : List Value → List (Addr × Obj) → Prop} {n : Nat} {news : List (Addr × Obj)} (G : Nat → Value → Prop) (hS : S news)
    (turn : ∀ (i : Nat) (v : Value) (C : Addr) (oC : Obj) (m₂ : Str → Option Value) (h : Heap) (tk : Nat) (E' : Value → Shared → Prop) (nw : List (Addr × Obj)), i < n → P i v → LCg.NsObj oC m₂ → m₂ x = some v → Fr h₀ L h m → News h₀ L h nw → (C, oC) ∈ nw → (∀ p ∈ news, p ∈ nw) →
      wpAny (model prog w) A (eval elt (compEnvC scope cl C env)) (TurnEnd h₀ L m s nw (G i)) E' { s with heap := h, toks := tk })
    (fin : ∀ ys : List Value, ys.length = n → (∀ i y, ys[i]? = some y → G i y) → Fin ys news) :
    LCg.CompRest prog w A h₀ L m env elt x scope cl s S P Fin n 0 [] news := by
  have key : ∀ (k i : Nat) (ys : List Value), i + k = n → ys.length = i → (∀ j y, ys[j]? = some y → G j y) → LCg.CompRest prog w A h₀ L m env elt x scope cl s S P Fin k i ys news := by
    intro k
    induction k with
    | zero =>
      intro i ys hn hl hG
      exact LCg.CompRest.zero (fin ys (by omega) hG)
    | succ k ih =>
      intro i ys hn hl hG
      refine LCg.CompRest.succ ?_
      intro v I oI C oC D m₂ h tk E' hP hC hx F N off ne
      refine wpAny_mono (turn i v C oC m₂ h tk E' _ (by omega) hP hC hx F N (by simp) (fun p hp => by simp [hp])) (fun y s' h' => ?_) fun _ _ e => e
      obtain ⟨h', tk', e, F', N', hg⟩ := h'
      refine ⟨h', tk', news, e, F', N', off, hS, ih (i + 1) (ys ++ [y]) (by omega) (by simp [hl]) fun j z hz => ?_⟩
      by_cases hj : j < ys.length
      · rw [List.getElem?_append_left hj] at hz
        exact hG j z hz
      · rw [List.getElem?_append_right (by omega)] at hz
        have hji : j = i := by
          have := List.getElem?_eq_some_iff.mp hz
          obtain ⟨hlt, _⟩ := this
          simp at hlt
          omega
        subst hji
        rw [hl, Nat.sub_self] at hz
        cases hz
        exact hg
  exact key n 0 [] (by omega) rfl (fun j y hj => by simp at hj)
/-- a comprehension over a text's signs -/
theorem ListComp_str {elt iter : PySem.Expr} {x : Str} {px : Pos} {scope : Scope} {cl : List (Str × Addr)} {pos : Pos} {Q : Value → Shared → Prop} (F₀ : Fr h₀ L s.heap m)
    (hclos : closureFor scope env = pure cl) (hcell : ∀ y ∈ scope.names, y.2 ≠ .cell) (hkind : scope.kind = .function)
    (hnames : ∀ y ∈ scope.names, y.2 = .local → scope.names.lookup y.1 = some .local) (hx : scope.names.lookup x = some .local)
    (h : wpAny (model prog w) A (eval iter env) (SrcStr prog w A h₀ L m env elt x scope cl (fun s₂ => LCg.FinE h₀ L m s₂ Q)) E s)
    (hs : ∀ x, foldedSetIterable iter env x = pure x := by intro _; rfl) :
    wpAny (model prog w) A (eval (.ListComp elt [⟨.Name x px, iter, [], 0⟩] scope pos) env) Q E s := by
  rw [eval_ListComp]
  refine wpAny_comprehension_free (use := none) rfl hs hclos hkind hnames (wpAny_mono h (fun xv s₁ h₁ => ?_) fun _ _ e => e)
  obtain ⟨xs, t, news, rfl, hh, F, N, hsz, R⟩ := h₁
  have up : ∀ (ob : Obj) b o, s₁.heap.get? b = some o → (s₁.heap.push ob).get? b = some o := fun ob b o e => Heap.get?_push_of_some _ e
  have go : ∀ ty : String, Walks prog w A s₁.heap.objs.size [s₁.heap.objs.size] [s₁.heap.objs.size] xs.cps.size (SignAt xs) (fun i h => h.IsStrIter s₁.heap.objs.size ty xs t i) →
      wpAny (model prog w) A (newList []) (fun acc s₃ => wpAny (model prog w) A (newFunctionEnv scope env.globals cl [] env.qual none .none (some env)) (fun cenv s₄ =>
        codeAny (model prog w) A (.compStart (.ListComp elt [⟨.Name x px, iter, [], 0⟩] scope pos) 0 (.ref s₁.heap.objs.size) acc { cenv with scope := relabel scope env }) (compPost (model prog w) A E none Q acc cenv.locals) s₄) E s₃) E { s₁ with heap := s₁.heap.push { cls := .type ty, data := .fields #[.str xs t, .int 0 0] } } := by
    intro ty W
    refine LCg.block_U W hsz (fun i h st => by obtain ⟨o, e, _⟩ := st; exact ⟨o, e⟩) (fun i h h' o nw st e e' _ _ _ => by obtain ⟨o', q, r⟩ := st; rw [e] at q; cases q; exact ⟨o, e', r⟩) hcell hkind hx (show (s₁.heap.push { cls := .type ty, data := .fields #[.str xs t, .int 0 0] }).IsStrIter s₁.heap.objs.size ty xs t 0 from ⟨_, Heap.get?_push_size _ rfl, rfl, rfl⟩) (fun b hb => ?_)
      (F.keeps (up _)) (N.grown (up _)) (Nat.ne_of_lt F.ns.lt) (next_is_new F) (fun p hp => Nat.ne_of_lt (Heap.lt_size (N p hp).1)) trivial (R _ ⟨_, rfl⟩) ?_
    · rw [List.mem_singleton.mp hb]
      show s₁.heap.objs.size < (s₁.heap.push _).objs.size
      rw [Heap.size_push]; exact Nat.lt_succ_self _
    · intro D C h tk m' ys news' F' N' o1 hn hC₀ hD₀ hCL hDL hCD offC fin
      refine ⟨m', hn, fun h'' hs'' => fin D h'' tk (F'.change hs'' hCL hC₀) (fun p hp => ?_) o1⟩
      refine ⟨hs''.extBut _ _ ?_ (N' p hp).1, (N' p hp).2⟩
      rcases List.mem_cons.mp hp with rfl | hp
      · exact Ne.symm hCD
      · exact offC p hp
  cases ha : xs.cps.all (· < 128)
  · exact wpAny_pyIter_wide ha (go _ (Walks.strWide hh _ xs t))
  · exact wpAny_pyIter_ascii ha (go _ (Walks.strAscii hh _ xs t))
/-- a source that the walk is to leave to us -/
def Src1 (prog : Program) (w : World) (A : Around) (h₀ : Heap) (L : Addr) (m : Str → Option Value) (env : Env) (elt : PySem.Expr) (x : Str) (scope : Scope) (cl : List (Str × Addr)) (Fin : Shared → List Value → List (Addr × Obj) → Prop) (xv : Value) (s₁ : Shared) : Prop := LCg.CompSrc prog w A h₀ L m env elt x scope cl Fin xv s₁
theorem ListComp_1 {elt iter : PySem.Expr} {x : Str} {px : Pos} {scope : Scope} {cl : List (Str × Addr)} {pos : Pos} {Q : Value → Shared → Prop} (F₀ : Fr h₀ L s.heap m)
    (hclos : closureFor scope env = pure cl) (hcell : ∀ y ∈ scope.names, y.2 ≠ .cell) (hkind : scope.kind = .function)
    (hnames : ∀ y ∈ scope.names, y.2 = .local → scope.names.lookup y.1 = some .local) (hx : scope.names.lookup x = some .local)
    (h : wpAny (model prog w) A (eval iter env) (Src1 prog w A h₀ L m env elt x scope cl (fun s₂ => LCg.FinE h₀ L m s₂ Q)) E s)
    (hs : ∀ x, foldedSetIterable iter env x = pure x := by intro _; rfl) :
    wpAny (model prog w) A (eval (.ListComp elt [⟨.Name x px, iter, [], 0⟩] scope pos) env) Q E s := LCg.ListComp_U F₀ hclos hcell hkind hnames hx h hs
theorem Assign_ListComp_1 {elt iter : PySem.Expr} {x y : Str} {px py : Pos} {scope : Scope} {cl : List (Str × Addr)} {pos spos : Pos} {Q : Flow → Shared → Prop} (F₀ : Fr h₀ L s.heap m) (hLe : env.locals = L)
    (hsw : swapsWith (.ListComp elt [⟨.Name x px, iter, [], 0⟩] scope pos) (some (.Name y py)) spos.line env = pure true)
    (hclos : closureFor scope env = pure cl) (hcell : ∀ z ∈ scope.names, z.2 ≠ .cell) (hkind : scope.kind = .function)
    (hnames : ∀ z ∈ scope.names, z.2 = .local → scope.names.lookup z.1 = some .local) (hx : scope.names.lookup x = some .local)
    (hy : env.kindOf y = some .local) (hp : (env.scope.kind == .class || (env.scope.kind == .module && env.locals != env.globals)) = false)
    (h : wpAny (model prog w) A (eval iter env) (Src1 prog w A h₀ L m env elt x scope cl (fun s₂ => LCg.FinA h₀ L m s₂ y Q)) E s)
    (hs : ∀ x, foldedSetIterable iter env x = pure x := by intro _; rfl) :
    wpAny (model prog w) A (exec (.Assign [.Name y py] (.ListComp elt [⟨.Name x px, iter, [], 0⟩] scope pos) spos) env) Q E s := LCg.Assign_ListComp_U F₀ hLe hsw hclos hcell hkind hnames hx hy hp h hs
end
end Mine
namespace Mine
/-- a list's items are these texts -/
def Texts (ys : List Value) (ts : List PySem.Str) : Prop := ∃ l : List (PySem.Str × Tok), ys = strValues l ∧ l.map (·.1) = ts
theorem Texts.length {ys : List Value} {ts : List PySem.Str} (h : Texts ys ts) : ys.length = ts.length := by
  obtain ⟨l, rfl, rfl⟩ := h
  simp [strValues]
theorem Texts.get {ys : List Value} {ts : List PySem.Str} (h : Texts ys ts) {i : Nat} {x : PySem.Str} (e : ts[i]? = some x) : ∃ t : Tok, ys[i]? = some (Value.str x t) := by
  obtain ⟨l, rfl, rfl⟩ := h
  simp only [List.getElem?_map, Option.map_eq_some_iff] at e
  obtain ⟨p, hp, rfl⟩ := e
  exact ⟨p.2, by simp [strValues, hp]⟩
theorem Texts.of {ys : List Value} {f : Nat → PySem.Str} {n : Nat} (hl : ys.length = n) (h : ∀ (i : Nat) (y : Value), ys[i]? = some y → ∃ t : Tok, y = Value.str (f i) t) : Texts ys ((List.range n).map f) := by
  subst hl
  induction ys generalizing f with
  | nil => exact ⟨[], rfl, rfl⟩
  | cons y ys ih =>
    obtain ⟨l, e1, e2⟩ := ih (f := fun i => f (i + 1)) fun i z hz => h (i + 1) z (by simpa using hz)
    obtain ⟨t, e3⟩ := h 0 y (by simp)
    refine ⟨(f 0, t) :: l, ?_, ?_⟩
    · rw [e1, e3]; simp [strValues]
    · rw [List.length_cons, List.range_succ_eq_map, List.map_cons, List.map_cons, e2, List.map_map]; rfl
/-- the same, the texts said by a list -/
theorem Texts.ofL {ys : List Value} {ts : List PySem.Str} (hl : ys.length = ts.length) (h : ∀ (i : Nat) (y : Value), ys[i]? = some y → ∃ (x : PySem.Str) (t : Tok), ts[i]? = some x ∧ y = Value.str x t) : Texts ys ts := by
  have e : ts = (List.range ts.length).map (fun i => ts.getD i ⟨#[]⟩) := by
    apply List.ext_getElem?
    intro i
    by_cases hi : i < ts.length
    · simp [hi]
    · simp [hi]
  rw [e]
  refine Texts.of hl fun i y hy => ?_
  obtain ⟨x, t, hx, rfl⟩ := h i y hy
  exact ⟨t, by rw [List.getD_eq_getElem?_getD, hx]; rfl⟩
def catL (ts : List PySem.Str) : List Nat := ts.flatMap fun x => x.cps.toList
theorem join_cat (ts : List PySem.Str) : Txt.join (PySem.Str.ofString "") ts = ⟨(catL ts).toArray⟩ := by
  have e0 : PySem.Str.ofString "" = ⟨#[]⟩ := by decide +kernel
  rw [e0, eq_of_beq (join_plain_closes ⟨#[]⟩ ts)]
  induction ts with
  | nil => rfl
  | cons a r ih =>
    rw [join_nil_cons, ih]
    show (⟨a.cps ++ (catL r).toArray⟩ : PySem.Str) = ⟨(a.cps.toList ++ catL r).toArray⟩
    congr 1
    simp
section
variable {prog : Program} {w : World} {A : Around} {E : Value → Shared → Prop} {s : Shared} {h₀ : Heap} {L : Addr}
theorem join_led {D : Addr} {ys : List Value} {ts : List PySem.Str} {nw : List (Addr × Obj)} {t : Tok} {Q : Value → Shared → Prop} (N : News h₀ L s.heap nw) (hm : (D, LCg.lst ys) ∈ nw) (ht : Texts ys ts) (B : Nat) (hB : ∀ x ∈ ts, x.length ≤ B) (hb : ts.length * B ≤ 16777216)
    (h : ∀ t' k, Q (.str ⟨(catL ts).toArray⟩ t') { s with toks := k }) : wpAny (model prog w) A (call (.builtin "str.join") [.str (PySem.Str.ofString "") t, .ref D]) Q E s := by
  obtain ⟨l, rfl, rfl⟩ := ht
  refine SC.join (News.isList N hm) rfl ?_ fun t' k => ?_
  · unfold JoinOk
    have e : (PySem.Str.ofString "").length = 0 := by decide +kernel
    rw [StrLaws.joinFits (sep := PySem.Str.ofString "") hB (by rw [e]; omega)]
    rfl
  · rw [join_cat]
    exact h t' k
end
end Mine
namespace Mine
theorem startWF : True := by
  w_top off
  trivial
/-- the figures of a word -/
noncomputable def figL (l : List Nat) : List Nat := l.flatMap fun c => [61, hd (c / 16), hd (c % 16)]
noncomputable def figs (x : PySem.Str) : PySem.Str := ⟨(figL x.cps.toList).toArray⟩
theorem fig_all : ∀ c : Nat, c < 256 → PySem.Str.ofString "=" ++ Txt.item (PySem.Str.ofString "0123456789ABCDEF") ((c : Int).fdiv 16) ++ Txt.item (PySem.Str.ofString "0123456789ABCDEF") ((c : Int).fmod 16) = hx c := by
  have h : (List.range 256).all (fun c : Nat => PySem.Str.ofString "=" ++ Txt.item (PySem.Str.ofString "0123456789ABCDEF") ((c : Int).fdiv 16) ++ Txt.item (PySem.Str.ofString "0123456789ABCDEF") ((c : Int).fmod 16) == hx c) = true := by decide +kernel
  exact fun c hc => eq_of_beq (List.all_eq_true.mp h c (List.mem_range.mpr hc))
theorem figs_cat (x : PySem.Str) : (⟨(catL ((x.cps.toList).map hx)).toArray⟩ : PySem.Str) = figs x := by
  unfold figs catL figL
  rw [List.flatMap_map]
  rfl
local macro_rules | `(tactic| k_mem) => `(tactic| assumption)
local macro_rules | `(tactic| walk_at "storeName") => `(tactic| (k_here; k_dflt (refine' storeX_C ?F ?N ?c (UpdF.head ?U) ?d ?_ ?a ?b; (case a => rfl); (case b => rfl); (case F => k_asm); (case N => k_asm); (case c => rfl); (case U => exact fun p hp => Nat.ne_of_lt (Nat.lt_succ_of_lt ((by assumption : ∀ p ∈ _, p.1 < _) p hp))); (case d => k_asm); k_whole; intro h' o' F' N' d'; (try dsimp only at N'); (try k_sweep))))
local macro_rules | `(tactic| walk_at "eval ListComp") => `(tactic| (k_here; k_dflt (refine ListComp_str (F₀ := by k_asm) (by rfl) (by decide) (by rfl) (by decide) (by rfl) ?_)))
set_option maxHeartbeats 4000000 in
theorem figures_tells (w : World) (x : PySem.Str) (hw : ∀ c ∈ x.cps.toList, c < 256) (hl : x.cps.size ≤ 2) (t0 : Tok) : TellsR 5 60 w 146 [.str x t0] (fun t => .str (figs x) t) := by
  unfold TellsR
  k_fill
  intros
  rename_i hret
  refine wpAny_call ?_
  k_dflt (refine' code_defC ?k1 ?k2 ?k3 ?k4 ?k5 ?kA ?kF ?kK ?k6 ?k7 ?k8 ?k9 ?kB ?kD ?_ ?c2 ?c3 ?c4; (case kA => exact rfl); (case kF => exact rfl); (case kK => assumption); (case k1 => k_asm); (case k2 => k_asm); (case k3 => k_asm); (case k4 => k_asm); (case k5 => k_asm); (case k6 => k_is); (case k7 => k_is); (case k8 => ktr_room); (case k9 => first | exact BindsTo.of_eq rfl | exact binds_K (by k_in) rfl (by k_is) rfl rfl rfl); (case kB => exact rfl); (case kD => decide +kernel); (case c2 => exact rfl); (case c3 => exact rfl); (case c4 => exact rfl); k_whole; intro g' L' h' tk' cells' FG' F' N' Y' B' X' T' l1; (try k_lt l1); k_cells Y'; (try simp only [List.cons_append, List.nil_append] at N'); (try dsimp only); (try k_lift B'); (try k_fold))
  k_steps
  refine SrcStr.intro rfl (by k_asm) (by k_asm) (by rw [sizeLine_eq]; omega) fun g => ?_
  refine comp_rest (G := fun i y => ∃ (x' : PySem.Str) (t : Tok), (x.cps.toList.map hx)[i]? = some x' ∧ y = Value.str x' t) trivial ?_ ?_
  · rintro i v C oC m₂ h tk E' nw hi ⟨c, u, hc, rfl⟩ hC hm F N hmem hsub
    have hc1 : x.cps.toList[i]? = some c := by rw [Array.getElem?_toList]; exact hc
    have hc256 : c < 256 := hw c (List.mem_of_getElem? hc1)
    have hcell := hsub _ List.mem_cons_self
    k_steps
    exact TurnEnd.intro (by k_asm) (by k_asm) ⟨hx c, _, by rw [List.getElem?_map, hc1]; rfl, congrArg (Value.str · _) (fig_all c hc256)⟩
  · intro ys hlen hG
    have hT := Texts.ofL (ts := x.cps.toList.map hx) (by rw [hlen]; simp) hG
    unfold LCg.FinE
    intro D' h' tk' F' N' o1'
    k_steps
    refine join_led (by k_asm) List.mem_cons_self hT 3 (fun y hy => ?_) (by simp; omega) fun t' k => ?_
    · obtain ⟨c, _, rfl⟩ := List.mem_map.mp hy
      exact Nat.le_of_eq (hx_len c)
    · k_steps
      exact cb_retS hret (figs_cat x) (by k_asm) (by first | k_asm | exact cb_drop (by assumption) (fun p hp => List.mem_cons_of_mem _ (List.mem_cons_of_mem _ hp)))
end Mine
namespace Mine
theorem startWW : True := by
  w_top off
  trivial
def wcode (x : Int) (i : Nat) : Nat := (((x.fdiv 3).fdiv (256 ^ i)).fmod 256).toNat
def wordL (x : Int) : List Nat := (List.range (x.fmod 3).toNat).map (wcode x)
def wordOf (x : Int) : PySem.Str := ⟨(wordL x).toArray⟩
theorem word_cat (x : Int) : (⟨(catL ((wordL x).map fun c => (⟨#[c]⟩ : PySem.Str))).toArray⟩ : PySem.Str) = wordOf x := by
  unfold wordOf catL
  rw [List.flatMap_map]
  congr 2
  generalize wordL x = l
  induction l with
  | nil => rfl
  | cons a r ih => rw [List.flatMap_cons, ih]; rfl
local macro_rules | `(tactic| k_mem) => `(tactic| assumption)
local macro_rules | `(tactic| walk_at "eval ListComp") => `(tactic| (k_here; k_dflt (refine ListComp_1 (F₀ := by k_asm) (by rfl) (by decide) (by rfl) (by decide) (by rfl) ?_)))
set_option maxHeartbeats 4000000 in
theorem word_tells (w : World) (x : Int) (t0 : Tok) : TellsR 5 60 w 134 [.int x t0] (fun t => .str (wordOf x) t) := by
  have hf := fdiv_fmod_facts x 3
  have h3 : 0 ≤ x.fmod 3 ∧ x.fmod 3 < 3 := ⟨Int.fmod_nonneg_of_pos x (by decide), Int.fmod_lt_of_pos x (by decide)⟩
  clear hf
  unfold TellsR
  k_fill
  intros
  rename_i hret
  refine wpAny_call ?_
  k_dflt (refine' code_defC ?k1 ?k2 ?k3 ?k4 ?k5 ?kA ?kF ?kK ?k6 ?k7 ?k8 ?k9 ?kB ?kD ?_ ?c2 ?c3 ?c4; (case kA => exact rfl); (case kF => exact rfl); (case kK => assumption); (case k1 => k_asm); (case k2 => k_asm); (case k3 => k_asm); (case k4 => k_asm); (case k5 => k_asm); (case k6 => k_is); (case k7 => k_is); (case k8 => ktr_room); (case k9 => first | exact BindsTo.of_eq rfl | exact binds_K (by k_in) rfl (by k_is) rfl rfl rfl); (case kB => exact rfl); (case kD => decide +kernel); (case c2 => exact rfl); (case c3 => exact rfl); (case c4 => exact rfl); k_whole; intro g' L' h' tk' cells' FG' F' N' Y' B' X' T' l1; (try k_lt l1); k_cells Y'; (try simp only [List.cons_append, List.nil_append] at N'); (try dsimp only); (try k_lift B'); (try k_fold))
  k_steps
  unfold Src1
  refine LCg.CompSrc.range rfl (by k_asm) (by k_asm) (by assumption) (by exact small_one (by omega) (by omega) (by omega) (by omega)) (n := (x.fmod 3).toNat) (by rw [rangeSize_nat, Int.sub_zero]) (by rw [sizeLine_eq]; omega) fun g => ?_
  refine comp_rest (G := fun i y => ∃ (x' : PySem.Str) (t : Tok), ((wordL x).map fun c => (⟨#[c]⟩ : PySem.Str))[i]? = some x' ∧ y = Value.str x' t) trivial ?_ ?_
  · rintro i v C oC m₂ h tk E' nw hi ⟨u, rfl⟩ hC hm F N hmem hsub
    have hcell := hsub _ List.mem_cons_self
    have hgi : ((wordL x).map fun c => (⟨#[c]⟩ : PySem.Str))[i]? = some ⟨#[wcode x i]⟩ := by simp [wordL, hi]
    have h01 : i = 0 ∨ i = 1 := by omega
    rcases h01 with rfl | rfl
    · have e : (0 + ((0 : Nat) : Int)) = 0 := rfl
      rw [e] at hm
      k_steps
      exact TurnEnd.intro (by k_asm) (by k_asm) ⟨_, _, hgi, rfl⟩
    · have e : (0 + ((1 : Nat) : Int)) = 1 := rfl
      rw [e] at hm
      k_steps
      exact TurnEnd.intro (by k_asm) (by k_asm) ⟨_, _, hgi, rfl⟩
  · intro ys hlen hG
    have hT := Texts.ofL (ts := (wordL x).map fun c => (⟨#[c]⟩ : PySem.Str)) (by rw [hlen]; simp [wordL]) hG
    unfold LCg.FinE
    intro D' h' tk' F' N' o1'
    k_steps
    refine join_led (by k_asm) List.mem_cons_self hT 1 (fun y hy => ?_) (by simp [wordL]; omega) fun t' k => ?_
    · obtain ⟨c, _, rfl⟩ := List.mem_map.mp hy
      exact Nat.le_of_eq rfl
    · k_steps
      exact cb_retS hret (word_cat x) (by k_asm) (by first | k_asm | exact cb_drop (by assumption) (fun p hp => List.mem_cons_of_mem _ (List.mem_cons_of_mem _ hp)))
end Mine
namespace Mine
/-- where the walk is to stop -/
def Stop (P : Prop) : Prop := P
theorem Stop.out {P : Prop} (h : Stop P) : P := h
/-- a loop's turn at its end -/
def LoopTurn (h₀ : Heap) (L : Addr) (s : Shared) (nw : List (Addr × Obj)) (J : (Str → Option Value) → Prop) (Q : Flow → Shared → Prop) (f : Flow) (s' : Shared) : Prop := match f with
  | .ret v => Q (.ret v) s'
  | .brk => Q .next s'
  | _ => ∃ h' tk' m', s' = { s with heap := h', toks := tk' } ∧ Fr h₀ L h' m' ∧ News h₀ L h' nw ∧ J m'
theorem LoopTurn.next {h₀ : Heap} {L : Addr} {s : Shared} {nw : List (Addr × Obj)} {J : (Str → Option Value) → Prop} {Q : Flow → Shared → Prop} {h' : Heap} {tk : Nat} {m' : Str → Option Value} (F : Fr h₀ L h' m') (N : News h₀ L h' nw) (j : J m') :
    LoopTurn h₀ L s nw J Q .next { s with heap := h', toks := tk } := ⟨h', tk, m', rfl, F, N, j⟩
theorem LoopTurn.cont {h₀ : Heap} {L : Addr} {s : Shared} {nw : List (Addr × Obj)} {J : (Str → Option Value) → Prop} {Q : Flow → Shared → Prop} {h' : Heap} {tk : Nat} {m' : Str → Option Value} (F : Fr h₀ L h' m') (N : News h₀ L h' nw) (j : J m') :
    LoopTurn h₀ L s nw J Q .cont { s with heap := h', toks := tk } := ⟨h', tk, m', rfl, F, N, j⟩
theorem LoopTurn.ret {h₀ : Heap} {L : Addr} {s s' : Shared} {nw : List (Addr × Obj)} {J : (Str → Option Value) → Prop} {Q : Flow → Shared → Prop} {v : Value} (h : Q (.ret v) s') : LoopTurn h₀ L s nw J Q (.ret v) s' := h
section
variable {prog : Program} {w : World} {A : Around} {E : Value → Shared → Prop} {s : Shared} {env : Env} {h₀ : Heap} {x : Str} {body : List Stmt} {Q : Flow → Shared → Prop}
/-- a loop by a state of one's own: M says the frame's names, but the loop's own -/
theorem loop_st {σ : Type} {I : Addr} {fp wr : List Addr} {n : Nat} {P : Nat → Value → Prop} {St : Nat → Heap → Prop} {m₀ : Str → Option Value} {news : List (Addr × Obj)} (M : σ → Str → Option Value) (Pc : Nat → σ → Prop) (c₀ : σ)
    (W : Walks prog w A I fp wr n P St) (hLf : env.locals ∉ fp) (hwr : ∀ b ∈ wr, h₀.get? b = none) (hnw : ∀ p ∈ news, p.1 ∉ wr) (hst : St 0 s.heap) (F : Fr h₀ env.locals s.heap m₀) (N : News h₀ env.locals s.heap news)
    (hM : ∀ z, z ≠ x → m₀ z = M c₀ z) (hp : Pc 0 c₀)
    (turn : ∀ (i : Nat) (v : Value) (c : σ) (h : Heap) (tk : Nat) (nw : List (Addr × Obj)), i < n → P i v → Pc i c → Fr h₀ env.locals h (fun y => if y = x then some v else M c y) → News h₀ env.locals h nw → (∀ p ∈ news, p ∈ nw) →
      wpAny (model prog w) A (execs body env) (LoopTurn h₀ env.locals s nw (fun m' => ∃ c', Pc (i + 1) c' ∧ ∀ z, z ≠ x → m' z = M c' z) Q) E { s with heap := h, toks := tk })
    (done : ∀ (c : σ) (u : Option Value) (h : Heap) (tk : Nat), Pc n c → Fr h₀ env.locals h (fun y => if y = x then u else M c y) → News h₀ env.locals h news → Q .next { s with heap := h, toks := tk }) :
    LoopAtV prog w A h₀ env x body Q E (.ref I) s := by
  have eqm : ∀ {c : σ} {m₁ : Str → Option Value} (u : Option Value), (∀ z, z ≠ x → m₁ z = M c z) → (fun y => if y = x then u else m₁ y) = fun y => if y = x then u else M c y := by
    intro c m₁ u h
    funext y
    by_cases hy : y = x
    · simp [hy]
    · simp only [if_neg hy]; exact h y hy
  refine ⟨I, fp, wr, n, P, St, m₀, news, (fun i m nx => nx = news ∧ ∃ c, Pc i c ∧ ∀ z, z ≠ x → m z = M c z), rfl, W, hLf, hwr, hnw, hst, F, N, ⟨rfl, c₀, hp, hM⟩, ?_, ?_⟩
  · rintro i v m₁ news₁ s₁ own ⟨h, tk, rfl⟩ hi hP ⟨rfl, c, hc, hm⟩ hoff _ _ _ _ F₁ N₁
    rw [eqm (some v) hm] at F₁
    refine wpAny_mono (turn i v c h tk (own ++ news₁) hi hP hc F₁ N₁ (fun p hp => List.mem_append_right _ hp)) (fun f s' hf => ?_) fun _ _ e => e
    have fin : (∃ h' tk' m', s' = { s with heap := h', toks := tk' } ∧ Fr h₀ env.locals h' m' ∧ News h₀ env.locals h' (own ++ news₁) ∧ ∃ c', Pc (i + 1) c' ∧ ∀ z, z ≠ x → m' z = M c' z) →
        LoopStepU h₀ env.locals wr own (fun m nx => nx = news₁ ∧ ∃ c, Pc (i + 1) c ∧ ∀ z, z ≠ x → m z = M c z) { s with heap := h, toks := tk } .next s' := by
      rintro ⟨h', tk', m', e, F', N', hj⟩
      exact ⟨rfl, h', tk', m', news₁, e, F', N', hoff, rfl, hj⟩
    cases f with
    | ret v => exact .ret hf
    | brk => exact .brk hf
    | next => exact .next (fin hf)
    | cont => exact .cont (fin hf)
  · rintro h tk m₁ news₁ F₁ N₁ _ ⟨rfl, c, hc, hm⟩
    refine done c (m₁ x) h tk hc ?_ N₁
    have e : (fun y => if y = x then m₁ x else M c y) = m₁ := by
      funext y
      by_cases hy : y = x
      · simp [hy]
      · simp only [if_neg hy]; exact (hm y hy).symm
    rw [e]
    exact F₁
/-- for x in range(n) -/
theorem for_range {σ : Type} {r : Addr} {b₀ : Int} {t₀ u₀ v₀ : Tok} {n : Nat} {m₀ : Str → Option Value} {news : List (Addr × Obj)} (M : σ → Str → Option Value) (Pc : Nat → σ → Prop) (c₀ : σ)
    (hh : A.handled = none) (hr : IsRange s.heap r 0 b₀ 1 t₀ u₀ v₀) (hsmall : Builtin.Range.small 0 b₀ 1 = true) (hn : b₀ = (n : Int)) (F : Fr h₀ env.locals s.heap m₀) (N : News h₀ env.locals s.heap news)
    (hM : ∀ z, z ≠ x → m₀ z = M c₀ z) (hp : Pc 0 c₀)
    (turn : ∀ (i : Nat) (t : Tok) (c : σ) (h : Heap) (tk : Nat) (nw : List (Addr × Obj)), i < n → Pc i c → Fr h₀ env.locals h (fun y => if y = x then some (.int (i : Int) t) else M c y) → News h₀ env.locals h nw → (∀ p ∈ news, p ∈ nw) →
      wpAny (model prog w) A (execs body env) (LoopTurn h₀ env.locals s nw (fun m' => ∃ c', Pc (i + 1) c' ∧ ∀ z, z ≠ x → m' z = M c' z) Q) E { s with heap := h, toks := tk })
    (done : ∀ (c : σ) (u : Option Value) (h : Heap) (tk : Nat), Pc n c → Fr h₀ env.locals h (fun y => if y = x then u else M c y) → News h₀ env.locals h news → Q .next { s with heap := h, toks := tk }) :
    wpAny (model prog w) A (pyIter (.ref r)) (fun it s₂ => LoopAtV prog w A h₀ env x body Q E it s₂) E s := by
  subst hn
  refine wpAny_pyIter_range hr hsmall ?_
  have hsz : Builtin.Range.rangeSize 0 (n : Int) 1 = (n : Int) := by rw [rangeSize_nat]; omega
  have W : Walks prog w A s.heap.objs.size [s.heap.objs.size] [s.heap.objs.size] n (fun i v => i < n ∧ ∃ t, v = .int (0 + i * 1) t)
      (fun i h => IsRangeIter h s.heap.objs.size (0 + (i : Nat) * 1) ((n : Int) - (i : Nat)) 1) := (Walks.range hh _ 0 1 n).bound
  refine loop_st (s := { s with heap := _ }) M Pc c₀ W ?_ ?_ ?_ (by show IsRangeIter _ _ _ _ _; rw [hsz]; simpa using Heap.get?_push_size _ rfl) (F.push _) (fun p hp => ⟨Heap.get?_push_of_some _ (N p hp).1, (N p hp).2⟩) hM hp ?_ done
  · intro hm
    exact absurd F.ns.lt ((List.mem_singleton.mp hm) ▸ Nat.lt_irrefl _)
  · intro b hb
    rw [List.mem_singleton.mp hb]
    exact next_is_new F
  · intro p hp hI
    exact absurd (Heap.lt_size (N p hp).1) ((List.mem_singleton.mp hI) ▸ Nat.lt_irrefl _)
  · rintro i v c h tk nw hi ⟨_, t, rfl⟩ hc F₁ N₁ hs
    have e1 : (0 : Int) + (i : Int) * 1 = (i : Int) := by omega
    rw [e1] at F₁
    exact turn i t c h tk nw hi hc F₁ N₁ hs
/-- for x in a list of the ledger's -/
theorem for_list {σ : Type} {l : Addr} {its : List Value} {o : Obj} {m₀ : Str → Option Value} {news : List (Addr × Obj)} (M : σ → Str → Option Value) (Pc : Nat → σ → Prop) (c₀ : σ)
    (hh : A.handled = none) (hl : (l, o) ∈ news) (ho : o.cls = .type "list") (hd : ∃ k, o.data = .seq its.toArray k) (F : Fr h₀ env.locals s.heap m₀) (N : News h₀ env.locals s.heap news)
    (hM : ∀ z, z ≠ x → m₀ z = M c₀ z) (hp : Pc 0 c₀)
    (turn : ∀ (i : Nat) (v : Value) (c : σ) (h : Heap) (tk : Nat) (nw : List (Addr × Obj)), its[i]? = some v → Pc i c → Fr h₀ env.locals h (fun y => if y = x then some v else M c y) → News h₀ env.locals h nw → (∀ p ∈ news, p ∈ nw) →
      wpAny (model prog w) A (execs body env) (LoopTurn h₀ env.locals s nw (fun m' => ∃ c', Pc (i + 1) c' ∧ ∀ z, z ≠ x → m' z = M c' z) Q) E { s with heap := h, toks := tk })
    (done : ∀ (c : σ) (u : Option Value) (h : Heap) (tk : Nat), Pc its.length c → Fr h₀ env.locals h (fun y => if y = x then u else M c y) → News h₀ env.locals h news → Q .next { s with heap := h, toks := tk }) :
    wpAny (model prog w) A (pyIter (.ref l)) (fun it s₂ => LoopAtV prog w A h₀ env x body Q E it s₂) E s := by
  obtain ⟨k, hd⟩ := hd
  have hol : s.heap.get? l = some o := (N _ hl).1
  have hls : s.heap.IsList l its.toArray := ⟨o, hol, ho, k, hd⟩
  have hne : l ≠ s.heap.objs.size := Nat.ne_of_lt (Heap.lt_size hol)
  refine wpAny_pyIter_list hls ?_
  have W := Walks.list (prog := prog) (w := w) hh s.heap.objs.size l hne its.toArray
  rw [List.size_toArray] at W
  refine loop_st (s := { s with heap := _ }) M Pc c₀ W ?_ ?_ ?_ ⟨⟨_, Heap.get?_push_size _ rfl, rfl, rfl⟩, hls.at fun o e => Heap.get?_push_of_some _ e⟩ (F.push _) (fun p hp => ⟨Heap.get?_push_of_some _ (N p hp).1, (N p hp).2⟩) hM hp ?_ done
  · intro hm
    rcases List.mem_cons.mp hm with e | hm
    · exact absurd F.ns.lt (e ▸ Nat.lt_irrefl _)
    · exact (N _ hl).2.1 ((List.mem_singleton.mp hm).symm)
  · intro b hb
    rw [List.mem_singleton.mp hb]
    exact next_is_new F
  · intro p hp hI
    exact absurd (Heap.lt_size (N p hp).1) ((List.mem_singleton.mp hI) ▸ Nat.lt_irrefl _)
  · intro i v c h tk nw hi hP hc F₁ N₁ hs
    exact turn i v c h tk nw (by simpa using hP) hc F₁ N₁ hs
end
end Mine
namespace Mine
theorem startWO : True := by
  w_top off
  trivial
/-- the law's own look -/
noncomputable def lexI : List Nat → List Nat → Int
  | [], [] => 0
  | [], _ :: _ => -1
  | _ :: _, [] => 1
  | a :: r, b :: t => if a = b then lexI r t else if a < b then -1 else 1
theorem lex_at {l1 l2 : List Nat} {i a b : Nat} (ht : l1.take i = l2.take i) (h1 : l1[i]? = some a) (h2 : l2[i]? = some b) (hab : a ≠ b) : lexI l1 l2 = if a < b then -1 else 1 := by
  induction i generalizing l1 l2 with
  | zero =>
    match l1, l2, h1, h2 with
    | c :: r, d :: t, h1, h2 =>
      simp at h1 h2
      subst h1; subst h2
      simp [lexI, hab]
  | succ i ih =>
    match l1, l2, h1, h2 with
    | c :: r, d :: t, h1, h2 =>
      simp only [List.take_succ_cons, List.cons.injEq] at ht
      obtain ⟨rfl, ht⟩ := ht
      simp only [lexI, if_true]
      exact ih ht (by simpa using h1) (by simpa using h2)
theorem lex_len {l1 l2 : List Nat} (ht : l1.take (min l1.length l2.length) = l2.take (min l1.length l2.length)) : lexI l1 l2 = if l1.length < l2.length then -1 else if l2.length < l1.length then 1 else 0 := by
  induction l1 generalizing l2 with
  | nil =>
    cases l2 with
    | nil => rfl
    | cons d t => simp [lexI]
  | cons c r ih =>
    cases l2 with
    | nil => simp [lexI]
    | cons d t =>
      have e : min (c :: r).length (d :: t).length = min r.length t.length + 1 := by simp only [List.length_cons]; omega
      rw [e] at ht
      simp only [List.take_succ_cons, List.cons.injEq] at ht
      obtain ⟨rfl, ht⟩ := ht
      simp only [lexI, if_true, List.length_cons]
      rw [ih ht]
      simp only [Nat.add_lt_add_iff_right]
theorem sign_at {x : PySem.Str} {i : Nat} (h : i < x.length) : ∃ a, x.cps.toList[i]? = some a ∧ Txt.item x (i : Int) = ⟨#[a]⟩ := by
  have h' : i < x.cps.size := h
  refine ⟨x.cps[i], by simp [h'], item_meets (by omega) (by simp [h'])⟩
local macro_rules | `(tactic| walk_at "pad 0") => `(tactic| skip)
local macro_rules | `(tactic| walk_at "pad 1") => `(tactic| skip)
local macro_rules | `(tactic| walk_at "pad 2") => `(tactic| skip)
local macro_rules | `(tactic| walk_at "pad 3") => `(tactic| skip)
local macro_rules | `(tactic| k_mem) => `(tactic| assumption)
local macro_rules | `(tactic| walk_at "pyIter ref") => `(tactic| (k_here; (with_reducible show wpAny _ _ (pyIter _) _ _ _); refine Stop.out ?_))
set_option maxHeartbeats 4000000 in
theorem order_tells (w : World) (x y : PySem.Str) (hx : x.length ≤ 1000) (hy : y.length ≤ 1000) (t0 t1 : Tok) : TellsR 5 60 w 141 [.str x t0, .str y t1] (fun t => .int (lexI x.cps.toList y.cps.toList) t) := by
  unfold TellsR
  k_fill
  intros
  rename_i hret
  refine wpAny_call ?_
  k_dflt cell_enter
  k_steps
  unfold Stop
  have hmin : (if (y.length : Int) < (x.length : Int) then (y.length : Int) else (x.length : Int)) = ((min x.length y.length : Nat) : Int) := by split <;> omega
  refine for_range (σ := Unit) (n := min x.length y.length) (fun _ => _) (fun i _ => x.cps.toList.take i = y.cps.toList.take i) () rfl (by assumption) (by exact small_one (by decide) (by decide) (by split <;> omega) (by split <;> omega)) hmin (by k_asm) (by k_asm) (fun z _ => rfl) rfl ?_ ?_
  · intro i t c h tk nw hi hc F N hsub
    have hxi : i < x.length := by omega
    have hyi : i < y.length := by omega
    obtain ⟨a, ha, ea⟩ := sign_at hxi
    obtain ⟨b, hb, eb⟩ := sign_at hyi
    have lx := fun hab => lex_at hc ha hb hab
    have tx : a = b → x.cps.toList.take (i + 1) = y.cps.toList.take (i + 1) := fun e => by rw [List.take_add_one, List.take_add_one, hc, ha, hb, e]
    have c1 : (((Txt.item x (i : Int)).cps.getD 0 0 : Nat) : Int) < (((Txt.item y (i : Int)).cps.getD 0 0 : Nat) : Int) → (-1 : Int) = lexI x.cps.toList y.cps.toList := by
      rw [ea, eb]
      intro h
      have h' : a < b := Int.ofNat_lt.mp h
      rw [lx (Nat.ne_of_lt h'), if_pos h']
    have c2 : (Txt.item x (i : Int) != Txt.item y (i : Int)) = true → ¬ (((Txt.item x (i : Int)).cps.getD 0 0 : Nat) : Int) < (((Txt.item y (i : Int)).cps.getD 0 0 : Nat) : Int) → (1 : Int) = lexI x.cps.toList y.cps.toList := by
      rw [ea, eb]
      intro hne h
      have h' : ¬ a < b := fun q => h (Int.ofNat_lt.mpr q)
      have hab : a ≠ b := by
        rintro rfl
        simp at hne
      rw [lx hab, if_neg h']
    have c3 : (Txt.item x (i : Int) != Txt.item y (i : Int)) = false → a = b := by
      rw [ea, eb]
      intro h
      simpa using h
    clear ea eb
    k_steps
    · refine LoopTurn.ret ?_
      k_steps
      exact cb_retI hret (c1 (by assumption)) (by k_asm) (cb_drop (by assumption) hsub)
    · refine LoopTurn.ret ?_
      k_steps
      exact cb_retI hret (c2 (by assumption) (by assumption)) (by k_asm) (cb_drop (by assumption) hsub)
    · exact LoopTurn.next (by k_asm) (by k_asm) ⟨(), tx (c3 (by assumption)), fun z hz => by rw [if_neg hz]⟩
  · intro c u h tk hc F N
    have lx := lex_len (l1 := x.cps.toList) (l2 := y.cps.toList) hc
    have e1 : x.cps.toList.length = x.length := rfl
    have e2 : y.cps.toList.length = y.length := rfl
    rw [e1, e2] at lx
    k_steps
    · exact cb_retI hret (by rw [lx, if_pos (by omega)]) (by k_asm) (by k_asm)
    · exact cb_retI hret (by rw [lx, if_neg (by omega), if_pos (by omega)]) (by k_asm) (by k_asm)
    · exact cb_retI hret (by rw [lx, if_neg (by omega), if_neg (by omega)]) (by k_asm) (by k_asm)
end Mine
namespace Mine
theorem startWK : True := by
  w_top off
  trivial
theorem lex_lt : ∀ l1 l2 : List Nat, b2i (decide (l2 < l1)) - b2i (decide (l1 < l2)) = lexI l1 l2
  | [], [] => by decide
  | [], d :: t => by
    have h1 : ¬ (d :: t) < ([] : List Nat) := List.not_lt_nil _
    have h2 : ([] : List Nat) < d :: t := List.nil_lt_cons _ _
    rw [decide_eq_false h1, decide_eq_true h2]
    rfl
  | c :: r, [] => by
    have h1 : ¬ (c :: r) < ([] : List Nat) := List.not_lt_nil _
    have h2 : ([] : List Nat) < c :: r := List.nil_lt_cons _ _
    rw [decide_eq_false h1, decide_eq_true h2]
    rfl
  | c :: r, d :: t => by
    have ih := lex_lt r t
    unfold lexI
    by_cases h : c = d
    · subst h
      have e1 : (c :: t < c :: r) ↔ t < r := by rw [List.cons_lt_cons_iff]; simp
      have e2 : (c :: r < c :: t) ↔ r < t := by rw [List.cons_lt_cons_iff]; simp
      simp only [e1, e2, if_true]
      exact ih
    · rw [if_neg h]
      by_cases hlt : c < d
      · have e1 : ¬ (d :: t < c :: r) := by rw [List.cons_lt_cons_iff]; omega
        have e2 : (c :: r < d :: t) := by rw [List.cons_lt_cons_iff]; exact .inl hlt
        rw [decide_eq_false e1, decide_eq_true e2, if_pos hlt]
        rfl
      · have e1 : (d :: t < c :: r) := by rw [List.cons_lt_cons_iff]; exact .inl (by omega)
        have e2 : ¬ (c :: r < d :: t) := by rw [List.cons_lt_cons_iff]; omega
        rw [decide_eq_true e1, decide_eq_false e2, if_neg hlt]
        rfl
local macro_rules | `(tactic| k_mem) => `(tactic| assumption)
set_option maxHeartbeats 4000000 in
theorem strcoll_tells (w : World) (x y : PySem.Str) (hx : x.length ≤ 1000) (hy : y.length ≤ 1000) (t0 t1 : Tok) : TellsR 5 60 w 122 [.str x t0, .str y t1] (fun t => .int (lexI x.cps.toList y.cps.toList) t) := by
  unfold TellsR
  k_fill
  intros
  rename_i hret
  refine wpAny_call ?_
  k_dflt cell_enter
  k_steps
  exact cb_retI hret (lex_lt _ _) (by k_asm) (by k_asm)
set_option maxHeartbeats 4000000 in
theorem strxfrm_tells (w : World) (x : PySem.Str) (t0 : Tok) : TellsR 5 60 w 129 [.str x t0] (fun t => .str x t) := by
  unfold TellsR
  k_fill
  intros
  rename_i hret
  refine wpAny_call ?_
  k_dflt cell_enter
  k_steps
  exact cb_retS hret rfl (by k_asm) (by k_asm)
end Mine
namespace Mine
theorem startWM : True := by
  w_top off
  trivial
section
variable {M : Model} {A : Around} {E : Value → Shared → Prop} {s : Shared} {h₀ : Heap} {L : Addr} {m : Str → Option Value} {nw : List (Addr × Obj)}
/-- a value's ways joined: what is asked of it is shown once -/
theorem cut {t : Sem Value} {Q : Value → Shared → Prop} (_F₀ : Fr h₀ L s.heap m) (_N₀ : News h₀ L s.heap nw) (G : Value → Prop) (h1 : wpAny M A t (TurnEnd h₀ L m s nw G) E s) (h2 : ∀ v h' tk', G v → Fr h₀ L h' m → News h₀ L h' nw → Q v { s with heap := h', toks := tk' }) : wpAny M A t Q E s :=
  wpAny_mono h1 (fun v s' h => by obtain ⟨h', tk', rfl, F, N, g⟩ := h; exact h2 v h' tk' g F N) fun _ _ e => e
end
theorem lt_one (c k : Nat) : decide ((⟨#[c]⟩ : PySem.Str).cps.toList < (⟨#[k]⟩ : PySem.Str).cps.toList) = decide (c < k) := by
  rw [decide_eq_decide]
  show ([c] < [k]) ↔ c < k
  rw [List.cons_lt_cons_iff]
  simp
theorem one_lt (c k : Nat) : ([c] : List Nat) < [k] ↔ c < k := by
  rw [List.cons_lt_cons_iff]
  simp
theorem lit_a : PySem.Str.ofString "a" = ⟨#[97]⟩ := by decide +kernel
theorem lit_z : PySem.Str.ofString "z" = ⟨#[122]⟩ := by decide +kernel
theorem lit_A : PySem.Str.ofString "A" = ⟨#[65]⟩ := by decide +kernel
theorem lit_Z : PySem.Str.ofString "Z" = ⟨#[90]⟩ := by decide +kernel
theorem lit_0 : PySem.Str.ofString "0" = ⟨#[48]⟩ := by decide +kernel
theorem lit_9 : PySem.Str.ofString "9" = ⟨#[57]⟩ := by decide +kernel
theorem occ_all : ∀ c : Nat, c < 256 → (Builtin.Str.occurrences (PySem.Str.ofString "-!*+/") ⟨#[c]⟩ 0 (PySem.Str.ofString "-!*+/").length 1).isEmpty = decide (c ≠ 45 ∧ c ≠ 33 ∧ c ≠ 42 ∧ c ≠ 43 ∧ c ≠ 47) := by
  have h : (List.range 256).all (fun c : Nat => (Builtin.Str.occurrences (PySem.Str.ofString "-!*+/") ⟨#[c]⟩ 0 (PySem.Str.ofString "-!*+/").length 1).isEmpty == decide (c ≠ 45 ∧ c ≠ 33 ∧ c ≠ 42 ∧ c ≠ 43 ∧ c ≠ 47)) = true := by decide +kernel
  exact fun c hc => eq_of_beq (List.all_eq_true.mp h c (List.mem_range.mpr hc))
theorem plain_iff (c : Nat) : plainN c = decide (c = 45 ∨ c = 33 ∨ c = 42 ∨ c = 43 ∨ c = 47 ∨ (48 ≤ c ∧ c ≤ 57) ∨ (65 ≤ c ∧ c ≤ 90) ∨ (97 ≤ c ∧ c ≤ 122)) := by
  rw [Bool.eq_iff_iff, decide_eq_true_iff]
  simp only [plainN, Bool.or_eq_true, Bool.and_eq_true, beq_iff_eq, Nat.ble_eq]
  omega
theorem hdr_plain {c : Nat} (h : plainN c = true) : (⟨#[c]⟩ : PySem.Str) = hdr c := by unfold hdr; rw [h]; rfl
theorem hdr_blank {c : Nat} (h : plainN c = false) (hb : ((⟨#[c]⟩ : PySem.Str) == PySem.Str.ofString " ") = true) : PySem.Str.ofString "_" = hdr c := by
  have e : (⟨#[c]⟩ : PySem.Str) = ⟨#[32]⟩ := (eq_of_beq hb).trans (by decide +kernel)
  have hc : c = 32 := by simpa using e
  subst hc
  decide +kernel
theorem hdr_other {c : Nat} (h : plainN c = false) (hb : ((⟨#[c]⟩ : PySem.Str) == PySem.Str.ofString " ") = false) : figs ⟨#[c]⟩ = hdr c := by
  have e : PySem.Str.ofString " " = ⟨#[32]⟩ := by decide +kernel
  rw [e] at hb
  have hc : (c == 32) = false := by
    cases q : c == 32 with
    | false => rfl
    | true => rw [eq_of_beq q] at hb; simp at hb
  unfold hdr
  rw [h, hc]
  rfl
theorem ne_eq61 (c : Nat) : ((⟨#[c]⟩ : PySem.Str) != PySem.Str.ofString "=") = decide (c ≠ 61) := by
  have e : PySem.Str.ofString "=" = ⟨#[61]⟩ := by decide +kernel
  rw [e, Bool.eq_iff_iff]
  simp
theorem ne_self {x : PySem.Str} (h : (x != x) = true) : False := by simp at h
theorem body_iff (c : Nat) : bodyN c = decide (c = 9 ∨ (32 ≤ c ∧ c ≤ 126 ∧ c ≠ 61)) := by
  rw [Bool.eq_iff_iff, decide_eq_true_iff]
  simp only [bodyN, Bool.or_eq_true, Bool.and_eq_true, beq_iff_eq, Nat.ble_eq, Bool.not_eq_true', beq_eq_false_iff_ne]
  omega
local macro_rules | `(tactic| k_mem) => `(tactic| assumption)
local macro_rules | `(tactic| walk_at "eval BoolOp") => `(tactic| (k_here; (with_reducible show wpAny _ _ (eval (PySem.Expr.BoolOp _ _ _) _) (fun _ _ => wpAny _ _ _ _ _ _) _ _); refine Stop.out ?_))
local macro_rules | `(tactic| walk_at "eval IfExp") => `(tactic| (k_here; (with_reducible show wpAny _ _ (eval (PySem.Expr.IfExp _ _ _ _) _) (fun _ _ => wpAny _ _ _ _ _ _) _ _); refine Stop.out ?_))
local macro_rules | `(tactic| walk_at "call ref") => `(tactic| (k_here; (with_reducible show wpAny _ _ (call (Value.ref 59) [Value.int _ _]) _ _ _); k_dflt (refine' TellsR.use (Tells.toR (hcheck_tells _ _ (by assumption) _)) ?k1 ?k2 ?k3 ?k4 ?k5 ?kK ?kd ?ku ?_; (case k1 => k_asm); (case k2 => k_asm); (case k3 => k_asm); (case k4 => k_asm); (case k5 => k_asm); (case kK => first | exact rfl | assumption); (case kd => ktr_room); (case ku => ktr_units)); intro t9 h9 tk9 F9 N9; (try dsimp only); (try k_fold)))
local macro_rules | `(tactic| walk_at "call ref") => `(tactic| (k_here; (with_reducible show wpAny _ _ (call (Value.ref 66) [Value.int _ _]) _ _ _); k_dflt (refine' TellsR.use (Tells.toR (bcheck_tells _ _ (by assumption) _)) ?k1 ?k2 ?k3 ?k4 ?k5 ?kK ?kd ?ku ?_; (case k1 => k_asm); (case k2 => k_asm); (case k3 => k_asm); (case k4 => k_asm); (case k5 => k_asm); (case kK => first | exact rfl | assumption); (case kd => ktr_room); (case ku => ktr_units)); intro t9 h9 tk9 F9 N9; (try dsimp only); (try k_fold)))
local macro_rules | `(tactic| walk_at "call ref") => `(tactic| (k_here; (with_reducible show wpAny _ _ (call (Value.ref 88) [Value.bytes _ _]) _ _ _); k_dflt (refine' TellsR.use (Tells.toR (hencode_tells _ _ (by assumption) _)) ?k1 ?k2 ?k3 ?k4 ?k5 ?kK ?kd ?ku ?_; (case k1 => k_asm); (case k2 => k_asm); (case k3 => k_asm); (case k4 => k_asm); (case k5 => k_asm); (case kK => first | exact rfl | assumption); (case kd => ktr_room); (case ku => ktr_units)); intro t9 h9 tk9 F9 N9; (try dsimp only); (try k_fold)))
local macro_rules | `(tactic| walk_at "call ref") => `(tactic| (k_here; (with_reducible show wpAny _ _ (call (Value.ref 146) [Value.str _ _]) _ _ _); k_dflt (refine' TellsR.use (figures_tells _ _ (by assumption) (by assumption) _) ?k1 ?k2 ?k3 ?k4 ?k5 ?kK ?kd ?ku ?_; (case k1 => k_asm); (case k2 => k_asm); (case k3 => k_asm); (case k4 => k_asm); (case k5 => k_asm); (case kK => first | exact rfl | assumption); (case kd => ktr_room); (case ku => ktr_units)); intro t9 h9 tk9 F9 N9; (try dsimp only); (try k_fold)))
set_option maxHeartbeats 4000000 in
theorem checked_tells (w : World) (c : Nat) (hc : c < 256) (t0 : Tok) : TellsR 20 200 w 158 [.str ⟨#[c]⟩ t0] (fun _ => .bool true) := by
  have hw1 : ∀ d ∈ (⟨#[c]⟩ : PySem.Str).cps.toList, d < 256 := fun d hd => by simp at hd; omega
  have hl1 : (⟨#[c]⟩ : PySem.Str).cps.size ≤ 2 := Nat.le_of_ble_eq_true rfl
  have hl3 := hdr_len c
  unfold TellsR
  k_fill
  intros
  rename_i hret
  refine wpAny_call ?_
  k_dflt cell_enter
  k_steps
  unfold Stop
  refine cut (by k_asm) (by k_asm) (fun v => v = .bool (plainN c)) ?_ ?_
  · have e7 := occ_all c hc
    have e8 := plain_iff c
    k_steps
    all_goals (refine TurnEnd.intro (by k_asm) (by k_asm) ?_)
    all_goals (clear hret)
    all_goals (simp only [lit_a, lit_z, lit_A, lit_Z, lit_0, lit_9, lt_one, one_lt, e7, Bool.not_eq_true', Bool.not_eq_false', decide_eq_true_eq, decide_eq_false_iff_not] at *)
    all_goals (rw [e8]; congr 1; rw [Bool.eq_iff_iff]; simp only [Bool.not_eq_true', decide_eq_true_eq, decide_eq_false_iff_not, lt_one, one_lt]; omega)
  · intro v h' tk' hv F' N'
    subst hv
    k_steps
    unfold Stop
    refine cut (by k_asm) (by k_asm) (fun v => ∃ t, v = .str (hdr c) t) ?_ ?_
    · k_steps
      all_goals (refine TurnEnd.intro (by k_asm) (by k_asm) ?_)
      · exact ⟨_, congrArg (Value.str · _) (hdr_plain (by assumption))⟩
      · exact ⟨_, congrArg (Value.str · _) (hdr_blank (by assumption) (by assumption))⟩
      · exact ⟨_, congrArg (Value.str · _) (hdr_other (by assumption) (by assumption))⟩
    · rintro v h' tk' ⟨t5, rfl⟩ F' N'
      have hpp : ¬ ((!plainN c) == plainN c) = true := by cases plainN c <;> decide
      k_steps
      · exact (ne_self (by assumption)).elim
      · unfold Stop
        refine cut (by k_asm) (by k_asm) (fun v => v = .bool (bodyN c)) ?_ ?_
        · have e9 := body_iff c
          k_steps
          all_goals (refine TurnEnd.intro (by k_asm) (by k_asm) ?_)
          · rw [e9]; congr 1; rw [Bool.eq_iff_iff]; simp only [beq_iff_eq, decide_eq_true_eq]; omega
          · rw [e9, ne_eq61]; congr 1; rw [Bool.eq_iff_iff]; simp only [decide_eq_true_eq]; omega
          · rw [e9]; congr 1; rw [Bool.eq_iff_iff]; simp only [decide_eq_true_eq]; omega
          · rw [e9]; congr 1; rw [Bool.eq_iff_iff]; simp only [decide_eq_true_eq]; omega
        · rintro v h' tk' rfl F' N'
          k_steps
          exact cb_retB hret (by cases bodyN c <;> rfl) (by k_asm) (by (refine' cb_drop ?cbN ?cbS; (case cbN => assumption); (case cbS => exact fun p hp => by first | exact List.mem_cons_of_mem _ hp | exact List.mem_cons_of_mem _ (List.mem_cons_of_mem _ hp))))
end Mine
namespace Mine
theorem plainAttrs_pat : PlainAttrs "re.Pattern" :=
  ⟨⟨"object.__getattribute__", by rw [typeLookup_type, builtinLookup_eq_fast]; kernel_rfl, by decide +kernel⟩, by rw [typeLookup_type, builtinLookup_eq_fast]; kernel_rfl⟩
theorem plainAttrs_mat : PlainAttrs "re.Match" :=
  ⟨⟨"object.__getattribute__", by rw [typeLookup_type, builtinLookup_eq_fast]; kernel_rfl, by decide +kernel⟩, by rw [typeLookup_type, builtinLookup_eq_fast]; kernel_rfl⟩
theorem slot_sub : Slot "re.Pattern" "sub" "re.Pattern.sub" :=
  .of (owner := "re.Pattern") (n := "sub") (by rw [typeLookup_type, builtinLookup_eq_fast]; kernel_rfl) (by decide +kernel) (by decide +kernel) (by decide +kernel)
    (by first | exact .inl (by decide +kernel) | exact .inr (by decide +kernel)) (by rw [isSubtype_type]; kernel_rfl)
theorem type_sub : typeOf (.builtin "re.Pattern.sub") = pure (.type "method_descriptor") := by show builtinType _ = _; rw [builtinType_eq_fast]; kernel_rfl
theorem entry_sub : entryFor table "re.Pattern.sub" = some Builtin.«re.Pattern.sub» := entryFor_of_tree (by kernel_rfl)
theorem entry_loop : entryFor table "re.Pattern.sub.loop" = some Builtin.«re.Pattern.sub.loop» := entryFor_of_tree (by kernel_rfl)
theorem args_sub (a b c : Value) : argsOk "re.Pattern.sub" ⟨[a, b, c], []⟩ := by unfold argsOk; kernel_rfl
theorem slot_group : Slot "re.Match" "group" "re.Match.group" :=
  .of (owner := "re.Match") (n := "group") (by rw [typeLookup_type, builtinLookup_eq_fast]; kernel_rfl) (by decide +kernel) (by decide +kernel) (by decide +kernel)
    (by first | exact .inl (by decide +kernel) | exact .inr (by decide +kernel)) (by rw [isSubtype_type]; kernel_rfl)
theorem type_group : typeOf (.builtin "re.Match.group") = pure (.type "method_descriptor") := by show builtinType _ = _; rw [builtinType_eq_fast]; kernel_rfl
theorem entry_group : entryFor table "re.Match.group" = some Builtin.«re.Match.group» := entryFor_of_tree (by kernel_rfl)
theorem args_group (a b : Value) : argsOk "re.Match.group" ⟨[a, b], []⟩ := by unfold argsOk; kernel_rfl
/-- the pattern's words -/
def reCode : Array Nat := #[14, 8, 1, 3, 3, 1, 1, 61, 0, 16, 61, 24, 16, 2, 2, 13, 11, 9, 0, 67043328, 126, 126, 0, 0, 0, 0, 0, 1, 1]
inductive Out where
  | none | yes | no | stuck
def outOf (o : Option Sre.Outcome) : Out := match o with
  | .none => .none
  | some .matched => .yes
  | some .failed => .no
  | some (.stuck _) => .stuck
/-- what a search of eight steps comes to -/
def mView (m : Sre.M) : Out × Out × Nat × Nat × Int × Int :=
  let a := m.runFor 4
  let b := a.runFor 4
  (outOf a.outcome, outOf b.outcome, b.start, b.handed, b.lastmark, b.lastindex)
noncomputable def t3 (k : Nat) : Array Nat := #[61, hd (k / 16), hd (k % 16)]
noncomputable def t6 (k j : Nat) : Array Nat := #[61, hd (k / 16), hd (k % 16), 61, hd (j / 16), hd (j % 16)]
theorem find0 (b : Bool) : outOf ((Sre.forSearch reCode #[] 0 0 0 b).runFor 4).outcome = .no := by cases b <;> kernel_rfl
theorem find3z (k : Nat) (b : Bool) : outOf ((Sre.forSearch reCode (t3 k) 0 3 3 b).runFor 4).outcome = .no := by cases b <;> kernel_rfl
theorem find6z (k j : Nat) (b : Bool) : outOf ((Sre.forSearch reCode (t6 k j) 0 6 6 b).runFor 4).outcome = .no := by cases b <;> kernel_rfl
theorem find3 : (List.range 256).map (fun k => mView (Sre.forSearch reCode (t3 k) 0 0 3 false)) = (List.range 256).map (fun _ => (.none, .yes, 0, 3, -1, -1)) := by kernel_rfl
theorem find6a (j : Nat) : (List.range 256).map (fun k => mView (Sre.forSearch reCode (t6 k j) 0 0 6 false)) = (List.range 256).map (fun _ => (.none, .yes, 0, 3, -1, -1)) := by kernel_rfl
theorem find6b (k : Nat) : (List.range 256).map (fun j => mView (Sre.forSearch reCode (t6 k j) 0 3 6 false)) = (List.range 256).map (fun _ => (.none, .yes, 3, 6, -1, -1)) := by kernel_rfl
section
variable {M : Model} {A : Around} {E : Value → Shared → Prop} {s : Shared}
theorem rules_wp {l : List Nat} {p : Nat → Bool} {f : Nat → String} {Q : PUnit → Shared → Prop} (h : Q ⟨⟩ s) : wpAny M A (forIn l PUnit.unit (fun i (_ : PUnit) => (if p i then (do rule (f i); pure (ForInStep.yield PUnit.unit)) else pure (ForInStep.yield PUnit.unit) : Sem (ForInStep PUnit)))) Q E s := by
  induction l with
  | nil => exact wpAny_pure h
  | cons i r ih =>
    rw [List.forIn_cons]
    refine wpAny_bind ?_
    cases p i with
    | true => exact wpAny_bind (wpAny_rule (wpAny_pure ih))
    | false => exact wpAny_pure ih
end
end Mine
namespace Mine
section
variable {M : Model} {A : Around} {E : Value → Shared → Prop} {s : Shared}
theorem drive_succ (n : Nat) (m : Sre.M) : Re.reDrive (n + 1) m = if (m.runFor 4).outcome.isSome then pure (m.runFor 4) else (do rule "sre.turn"; Re.reDrive n (m.runFor 4)) := rfl
theorem drive_now {m : Sre.M} {Q : Sre.M → Shared → Prop} (n : Nat) (h : (m.runFor 4).outcome.isSome = true) (hQ : Q (m.runFor 4) s) : wpAny M A (Re.reDrive (n + 1) m) Q E s := by
  rw [drive_succ, if_pos h]
  exact wpAny_pure hQ
theorem drive_later {m : Sre.M} {Q : Sre.M → Shared → Prop} (n : Nat) (h : (m.runFor 4).outcome.isSome = false) (h' : ((m.runFor 4).runFor 4).outcome.isSome = true) (hQ : Q ((m.runFor 4).runFor 4) s) : wpAny M A (Re.reDrive (n + 1 + 1) m) Q E s := by
  rw [drive_succ, if_neg (by rw [h]; decide)]
  exact wpAny_bind (wpAny_rule (drive_now n h' hQ))
theorem two64 : (2 : Nat) ^ 64 = 18446744073709551614 + 1 + 1 := by decide
theorem run_yes {m : Sre.M} {a b : Nat} {c d : Int} {Q : Option Sre.M → Shared → Prop} (h : mView m = (.none, .yes, a, b, c, d)) (hQ : ∀ m' : Sre.M, m'.start = a → m'.handed = b → m'.lastmark = c → m'.lastindex = d → Q (some m') s) : wpAny M A (Re.reRunToEnd m) Q E s := by
  unfold mView at h
  simp only [Prod.mk.injEq] at h
  obtain ⟨h1, h2, h3, h4, h5, h6⟩ := h
  have e1 : (m.runFor 4).outcome.isSome = false := by
    revert h1
    cases (m.runFor 4).outcome with
    | none => intro _; rfl
    | some o => cases o <;> (intro q; cases q)
  have e2 : ((m.runFor 4).runFor 4).outcome = some .matched := by
    revert h2
    cases ((m.runFor 4).runFor 4).outcome with
    | none => intro q; cases q
    | some o => cases o <;> (intro q; first | rfl | cases q)
  unfold Re.reRunToEnd
  rw [two64]
  refine wpAny_bind (drive_later _ e1 (by rw [e2]; rfl) ?_)
  refine wpAny_bind (rules_wp ?_)
  rw [e2]
  exact wpAny_pure (hQ _ h3 h4 h5 h6)
theorem run_no {m : Sre.M} {Q : Option Sre.M → Shared → Prop} (h : outOf (m.runFor 4).outcome = .no) (hQ : Q none s) : wpAny M A (Re.reRunToEnd m) Q E s := by
  have e2 : (m.runFor 4).outcome = some .failed := by
    revert h
    cases (m.runFor 4).outcome with
    | none => intro q; cases q
    | some o => cases o <;> (intro q; first | rfl | cases q)
  unfold Re.reRunToEnd
  rw [two64]
  refine wpAny_bind (drive_now _ (by rw [e2]; rfl) ?_)
  refine wpAny_bind (rules_wp ?_)
  rw [e2]
  exact wpAny_pure hQ
end
end Mine
namespace Mine
theorem startWT : True := by
  w_top off
  trivial
def matchObj (x : PySem.Str) (t : Tok) (lim T : Nat) : Obj := { cls := .type "re.Match", data := .fields #[.str x t, .ref 36, rawInt 0, rawInt lim, rawInt (-1), .ref T] }
def spanObj (p e : Nat) : Obj := { cls := .type "tuple", data := .seq #[rawInt p, rawInt e] }
theorem unquoteX_tells (w : World) (x : PySem.Str) (c : Nat) (hc : c < 256) (e : x = hx c) (t0 : Tok) : TellsR 1 8 w 73 [.str x t0] (fun t => .str ⟨#[c]⟩ t) := by
  subst e
  exact Tells.toR (unquote_tells w c hc t0)
section
variable {M : Model} {A : Around} {E : Value → Shared → Prop} {s : Shared}
theorem fieldsOf_wp {a : Addr} {o : Obj} {vs : Array Value} {Q : Array Value → Shared → Prop} (hg : s.heap.get? a = some o) (hd : o.data = .fields vs) (h : Q vs s) : wpAny M A (fieldsOf (.ref a)) Q E s := by
  unfold fieldsOf
  refine wpAny_bind (wpAny_load hg ?_)
  rw [hd]
  exact wpAny_pure h
theorem rawItems_wp {a : Addr} {o : Obj} {xs : Array Value} {n : Nat} {Q : Array Int → Shared → Prop} (hg : s.heap.get? a = some o) (hd : o.data = .seq xs n) (h : Q (xs.map Re.reRawOf) s) : wpAny M A (Re.reRawItems (.ref a)) Q E s := by
  unfold Re.reRawItems seqItems?
  refine wpAny_bind (wpAny_bind (wpAny_load hg ?_))
  rw [hd]
  exact wpAny_pure (wpAny_pure h)
theorem found_wp {a T : Addr} {x : PySem.Str} {t : Tok} {lim p e : Nat} {Q : Re.ReFound → Shared → Prop} (hg : s.heap.get? a = some (matchObj x t lim T)) (hT : s.heap.get? T = some (spanObj p e))
    (h : Q ⟨#[.str x t, .ref 36, rawInt 0, rawInt lim, rawInt (-1), .ref T], #[(p : Int), (e : Int)]⟩ s) : wpAny M A (Re.reFound (.ref a)) Q E s := by
  unfold Re.reFound
  refine wpAny_bind (fieldsOf_wp hg rfl ?_)
  refine wpAny_bind (rawItems_wp (a := T) hT rfl ?_)
  have e : (#[rawInt p, rawInt e] : Array Value).map Re.reRawOf = #[(p : Int), (e : Int)] := by simp [rawInt, Re.reRawOf]
  rw [e]
  exact wpAny_pure h
end
section
variable {prog : Program} {w : World} {A : Around} {E : Value → Shared → Prop} {s : Shared}
theorem number_eq (fs : Array Value) (p e : Int) (u : Tok) : Re.reGroupNumber ⟨fs, #[p, e]⟩ (.int 0 u) = pure 0 := by kernel_rfl
theorem text_eq (x : PySem.Str) (t : Tok) (lim T p e : Nat) : Re.reGroupText ⟨#[.str x t, .ref 36, rawInt 0, rawInt lim, rawInt (-1), .ref T], #[(p : Int), (e : Int)]⟩ 0 .none = mkStr ⟨x.cps.extract p e⟩ := by
  unfold Re.reGroupText
  have h1 : ((#[(p : Int), (e : Int)] : Array Int).getD (2 * 0) (-1)) = (p : Int) := rfl
  have h2 : ((#[(p : Int), (e : Int)] : Array Int).getD (2 * 0 + 1) (-1)) = (e : Int) := rfl
  simp only [h1, h2]
  have h3 : (decide ((p : Int) < 0) || decide ((e : Int) < 0)) = false := by simp
  rw [h3]
  rfl
theorem group_wp {a T : Addr} {x : PySem.Str} {t u : Tok} {lim p e : Nat} {Q : Value → Shared → Prop} (hg : s.heap.get? a = some (matchObj x t lim T)) (hT : s.heap.get? T = some (spanObj p e)) (hsz : x.length ≤ 1000)
    (h : ∀ t' k, Q (.str ⟨x.cps.extract p e⟩ t') { s with toks := k }) : wpAny (model prog w) A (call (.builtin "re.Match.group") [.ref a, .int 0 u]) Q E s := by
  refine call_m slot_group ?_ entry_group (args_group _ _) ?_
  · exact ⟨_, hg, rfl⟩
  unfold «re.Match.group»
  refine wpAny_bind (wpAny_pure ?_)
  refine wpAny_bind (found_wp hg hT ?_)
  dsimp only
  rw [number_eq]
  refine wpAny_bind (wpAny_pure ?_)
  rw [text_eq]
  refine wpAny_bind (wpAny_mkStr (wpAny_pure ⟨_, rfl, h _ _⟩) ?_)
  rw [sizeLine_eq]
  show (x.cps.extract p e).size ≤ _
  have : x.cps.size ≤ 1000 := hsz
  rw [Array.size_extract]
  omega
theorem gm_group {M : Model} {a T : Addr} {x : PySem.Str} {t : Tok} {lim : Nat} {pl : Sem Bool} {Q : Value × List Value → Shared → Prop} (hg : s.heap.get? a = some (matchObj x t lim T)) (h : Q (.builtin "re.Match.group", [.ref a]) s) : wpAny M A (getMethod (.ref a) "group" pl) Q E s :=
  getMethod_builtin (T := "re.Match") ⟨_, hg, rfl⟩ plainAttrs_mat slot_group type_group (fun b e => by cases e; exact ⟨_, hg, rfl⟩) h
end
local macro_rules | `(tactic| k_mem) => `(tactic| assumption)
local macro_rules | `(tactic| walk_at "getMethod ref") => `(tactic| (k_here; (with_reducible refine gm_group (News.get (by assumption) (by assumption)) ?_)))
local macro_rules | `(tactic| walk_at "call builtin:re.Match.group") => `(tactic| (k_here; (with_reducible refine group_wp (News.get (by assumption) (by assumption)) (News.get (by assumption) (by assumption)) (by assumption) ?_); intro t' k'))
local macro_rules | `(tactic| walk_at "call ref") => `(tactic| (k_here; (with_reducible show wpAny _ _ (call (Value.ref 73) [Value.str _ _]) _ _ _); k_dflt (refine' TellsR.use (unquoteX_tells _ _ _ (by assumption) (by assumption) _) ?k1 ?k2 ?k3 ?k4 ?k5 ?kK ?kd ?ku ?_; (case k1 => k_asm); (case k2 => k_asm); (case k3 => k_asm); (case k4 => k_asm); (case k5 => k_asm); (case kK => first | exact rfl | assumption); (case kd => ktr_room); (case ku => ktr_units)); intro t9 h9 tk9 F9 N9; (try dsimp only); (try k_fold)))
set_option maxHeartbeats 4000000 in
theorem umatch_tells (w : World) (x : PySem.Str) (t0 : Tok) (lim T p e Mx c : Nat) (hc : c < 256) (hxt : (⟨x.cps.extract p e⟩ : PySem.Str) = hx c) (hsz : x.length ≤ 1000) :
  ∀ (mean : ExcName → Option Value) (mg mb : Str → Option Value) (news : List (Addr × Obj)) (dp un : Nat) (gd : Option (List Code)) (cn : Str) (cs : Scope) (a : Addr) (ccd : Value) (cl : List (Str × Addr)) (outer : List Env) (A₀ : Around) (base h₀ : Heap) (L : Addr) (m : Str → Option Value) (s : Shared) (Q' E : Value → Shared → Prop),
    Below A₀ base outer h₀ → Fr h₀ L s.heap m → (K w.params).In h₀ → News h₀ L s.heap news → Top Q (looseW Q lo) mean mg mb h₀ → cs.kind = .function →
    dp + 5 < recursionLimit → un + 60 < cLine → (Mx, matchObj x t0 lim T) ∈ news → (T, spanObj p e) ∈ news →
    (∀ (t : Tok) (h' : Heap) (tk' : Nat), Fr h₀ L h' m → News h₀ L h' news → Q' (.str ⟨#[c]⟩ t) { s with heap := h', toks := tk' }) →
      wpAny (model PySem.Challenge.rw_pd0096_01.row.prog w) (ktrTop dp un gd cn cs L a ccd cl outer) (call (.ref 108) [.ref Mx]) Q' E s := by
  k_fill
  intros
  rename_i hret
  refine wpAny_call ?_
  k_dflt cell_enter
  k_steps
  exact cb_retS hret rfl (by k_asm) (by k_asm)
end Mine
namespace Mine
theorem plain_loop : plainId "re.Pattern.sub.loop" = true := by decide +kernel
/-- the target: the pattern of the top, a text -/
def target (x : PySem.Str) (t : Tok) : Re.ReTarget := { pattern := .ref 36, string := .str x t, code := reCode, text := x.cps, kind := 0, groups := 0, pos := 0, lim := x.cps.size }
section
variable {prog : Program} {w : World} {A : Around} {E : Value → Shared → Prop} {s : Shared} {h₀ : Heap} {L : Addr} {m : Str → Option Value} {nw : List (Addr × Obj)}
theorem target_wp {x : PySem.Str} {t : Tok} {Q : Re.ReTarget → Shared → Prop} (F : Fr h₀ L s.heap m) (X : (K w.params).In h₀) (h : Q (target x t) s) : wpAny (model prog w) A (Re.reWholeTarget (.ref 36) (.str x t)) Q E s := by
  unfold Re.reWholeTarget
  have g36 := (X.keeps F.keep) 36 _ rfl
  have g35 := (X.keeps F.keep) 35 _ rfl
  refine wpAny_bind (fieldsOf_wp g36 rfl ?_)
  refine wpAny_bind (wpAny_of_eq (show Re.reTextOf (.str x t) = pure (x.cps, 0) from by kernel_rfl) ?_)
  dsimp only
  refine wpAny_bind (wpAny_of_eq (show Re.reNoCollectionInside (.str x t) 0 = pure () from by kernel_rfl) ?_)
  refine wpAny_bind (rawItems_wp (a := 35) g35 rfl ?_)
  refine wpAny_pure ?_
  have e : (Array.map (fun x => x.toNat) (Array.map Re.reRawOf (#[(.int 14 0), (.int 8 0), (.int 1 0), (.int 3 0), (.int 3 0), (.int 1 0), (.int 1 0), (.int 61 0), (.int 0 0), (.int 16 0), (.int 61 0), (.int 24 0), (.int 16 0), (.int 2 0), (.int 2 0), (.int 13 0), (.int 11 0), (.int 9 0), (.int 0 0), (.int 67043328 0), (.int 126 0), (.int 126 0), (.int 0 0), (.int 0 0), (.int 0 0), (.int 0 0), (.int 0 0), (.int 1 0), (.int 1 0)] : Array Value))) = reCode := by decide +kernel
  rw [e]
  exact h
/-- the loop's code -/
abbrev loopC (x : PySem.Str) (t : Tok) (n p : Nat) (must : Bool) (D : Addr) : Code := .builtin "re.Pattern.sub.loop" ⟨[.ref 36, .str x t, .ref 108, rawInt 1, rawInt 0, rawInt n, rawInt p, rawInt p, .bool must, .ref D, .bool false], []⟩
theorem sub_end {x : PySem.Str} {t : Tok} {n : Nat} {must : Bool} {D : Addr} {ys : List Value} {ts : List PySem.Str} {R : Result → Shared → Prop} (F : Fr h₀ L s.heap m) (X : (K w.params).In h₀) (N : News h₀ L s.heap ((D, LCg.lst ys) :: nw)) (hT : Texts ys ts) (hts : ts.length ≤ 2) (h1 : ∀ y ∈ ts, y.length ≤ 1)
    (hno : outOf ((Sre.forSearch reCode x.cps 0 x.cps.size x.cps.size must).runFor 4).outcome = .no)
    (hR : ∀ t' h' tk', Fr h₀ L h' m → News h₀ L h' nw → R (.ok (.ret (.str ⟨(catL ts).toArray⟩ t'))) { s with heap := h', toks := tk' }) :
    codeAny (model prog w) A (loopC x t n x.cps.size must D) R s := by
  refine codeAny_builtin entry_loop ?_
  rw [Around.under_plainId plain_loop _]
  unfold «re.Pattern.sub.loop»
  refine wpAny_bind (target_wp F X ?_)
  refine wpAny_bind (m := Re.reNextFound (target x t) x.cps.size must) ?_
  refine run_no hno ?_
  dsimp only
  rw [if_neg (show ¬ ((x.cps.size : Int)).toNat < (target x t).lim from Nat.lt_irrefl _)]
  refine wpAny_bind (m := mkStr ⟨x.cps.extract 0 0⟩) (wpAny_mkStr ?_ ?_)
  · have gD := (N _ List.mem_cons_self).1
    refine wpAny_bind (m := seqItems? (.ref D)) ?_
    unfold seqItems?
    refine wpAny_bind (wpAny_load gD ?_)
    refine wpAny_pure ?_
    have e0 : x.cps.extract 0 0 = #[] := by simp
    rw [e0]
    cases ys with
    | nil =>
      have hts0 : ts = [] := by
        have := hT.length
        exact List.length_eq_zero_iff.mp this.symm
      subst hts0
      refine wpAny_bind (m := pure (Value.str ⟨#[]⟩ s.toks)) (wpAny_pure ?_)
      exact wpAny_pure (hR _ _ _ F (fun p hp => N p (List.mem_cons_of_mem _ hp)))
    | cons y ys =>
      refine wpAny_bind (m := call (.builtin "str.join") [.str ⟨#[]⟩ s.toks, .ref D]) ?_
      have es : (⟨#[]⟩ : PySem.Str) = PySem.Str.ofString "" := by decide +kernel
      rw [es]
      refine join_led (s := { s with toks := s.toks + 1 }) N List.mem_cons_self hT 1 h1 (by omega) fun t' k => ?_
      exact wpAny_pure (hR _ _ _ F (fun p hp => N p (List.mem_cons_of_mem _ hp)))
  · rw [sizeLine_eq]
    show (x.cps.extract 0 0).size ≤ _
    simp
end
end Mine
namespace Mine
section
variable {w : World} {E : Value → Shared → Prop} {s : Shared} {h₀ base : Heap} {L : Addr} {m : Str → Option Value} {nw : List (Addr × Obj)} {mean : ExcName → Option Value} {mg mb : Str → Option Value} {dp un : Nat} {gd : Option (List Code)} {cn : Str} {cs : Scope} {a : Addr} {ccd : Value} {cl : List (Str × Addr)} {outer : List Env} {A₀ : Around}
theorem sub_step {x : PySem.Str} {t : Tok} {n p c : Nat} {must : Bool} {D : Addr} {ys : List Value} {R : Result → Shared → Prop}
    (B : Below A₀ base outer h₀) (F : Fr h₀ L s.heap m) (X : (K w.params).In h₀) (N : News h₀ L s.heap ((D, LCg.lst ys) :: nw)) (T : Top Q (looseW Q lo) mean mg mb h₀) (hk : cs.kind = .function) (hd : dp + 5 < recursionLimit) (hu : un + 61 < cLine)
    (hD : ∀ q ∈ nw, q.1 ≠ D) (hf : mView (Sre.forSearch reCode x.cps 0 p x.cps.size must) = (.none, .yes, p, p + 3, -1, -1)) (hxt : (⟨x.cps.extract p (p + 3)⟩ : PySem.Str) = hx c) (hc : c < 256) (hsz : x.length ≤ 1000) (hys : ys.length ≤ 100)
    (hR : ∀ t' h' tk', Fr h₀ L h' m → News h₀ L h' ((D, LCg.lst (ys ++ [.str ⟨#[c]⟩ t'])) :: nw) → codeAny (model PySem.Challenge.rw_pd0096_01.row.prog w) (ktrTop dp un gd cn cs L a ccd cl outer) (loopC x t (n + 1) (p + 3) false D) R { s with heap := h', toks := tk' }) :
    codeAny (model PySem.Challenge.rw_pd0096_01.row.prog w) (ktrTop dp un gd cn cs L a ccd cl outer) (loopC x t n p must D) R s := by
  refine codeAny_builtin entry_loop ?_
  rw [Around.under_plainId plain_loop _]
  unfold «re.Pattern.sub.loop»
  refine wpAny_bind (target_wp F X ?_)
  refine wpAny_bind (m := Re.reNextFound (target x t) p must) ?_
  refine run_yes hf ?_
  intro m' h1 h2 h3 h4
  dsimp only
  rw [if_neg (show ¬ ((p : Int)).toNat < m'.start from by rw [h1]; exact Nat.lt_irrefl _)]
  refine wpAny_bind (m := Re.reNewMatch (.ref 36) (.str x t) 0 0 x.cps.size m') ?_
  unfold Re.reNewMatch
  simp only [List.range_zero, List.flatMap_nil, List.any_nil, Bool.false_eq_true, if_false]
  rw [h1, h2, h4]
  refine wpAny_bind (newTuple_N F N ?_ (by rw [sizeLine_eq]; exact Nat.le_of_ble_eq_true rfl))
  intro h5 F5 N5
  refine wpAny_newObj_type ?_ ?_
  · have F6 := F5.push { cls := .type "re.Match", data := .fields [.str x t, .ref 36, rawInt (0 : Nat), rawInt x.cps.size, rawInt (-1), .ref s.heap.objs.size].toArray }
    have N6 := News.push F5 N5 { cls := .type "re.Match", data := .fields [.str x t, .ref 36, rawInt (0 : Nat), rawInt x.cps.size, rawInt (-1), .ref s.heap.objs.size].toArray }
    refine wpAny_bind (m := holding _ (call (.ref 108) [.ref h5.objs.size])) (wpAny_holding ?_)
    refine umatch_tells w x t x.cps.size s.heap.objs.size p (p + 3) h5.objs.size c hc hxt hsz mean mg mb _ dp (un + 1) gd cn cs a ccd cl outer A₀ base h₀ L m _ _ _ B F6 X N6 T hk hd (by omega) List.mem_cons_self (List.mem_cons_of_mem _ List.mem_cons_self) ?_
    intro t' h7 tk7 F7 N7
    have N8 : News h₀ L h7 ((D, LCg.lst ys) :: nw) := fun q hq => N7 q (List.mem_cons_of_mem _ (List.mem_cons_of_mem _ hq))
    have gD := (N8 _ List.mem_cons_self).1
    have hDL := (N8 _ List.mem_cons_self).2.1
    have hDn := (N8 _ List.mem_cons_self).2.2
    rw [if_pos (show (Value.str ⟨#[c]⟩ t' != Value.none) = true from rfl)]
    refine wpAny_bind (m := updateSeq D (·.push (.str ⟨#[c]⟩ t'))) (wpAny_updateSeq (o := LCg.lst ys) gD rfl ?_ ?_ ?_)
    · have hs := Heap.SameBut.update h7 D (Obj.mapSeq (·.push (Value.str ⟨#[c]⟩ t')))
      have g' : (h7.update D (Obj.mapSeq (·.push (Value.str ⟨#[c]⟩ t')))).get? D = some (LCg.lst (ys ++ [Value.str ⟨#[c]⟩ t'])) := by
        rw [Heap.get?_update_self _ gD rfl, ← LCg.lst_snoc]
        show some ({ cls := .type "list", data := .seq (ys.toArray.push (Value.str ⟨#[c]⟩ t')) (if ((ys.toArray.push (Value.str ⟨#[c]⟩ t')).size == ys.toArray.size) = true then ys.length else ys.length + 1) } : Obj) = _
        rw [if_neg (by simp)]
      have N9 : News h₀ L _ ((D, LCg.lst (ys ++ [Value.str ⟨#[c]⟩ t'])) :: nw) := News.setAt (own := []) N8 (fun _ h => nomatch h) hD hs g'
      have F9 := F7.change hs hDL hDn
      have hq := hR t' _ tk7 F9 N9
      have e3 : ((p + 3 == p)) = false := by simp
      dsimp only
      refine wpAny_pure ⟨plainId_quiet plain_loop _, ?_⟩
      rw [e3]
      exact hq
    · show ys.toArray.size ≤ _
      rw [sizeLine_eq]; simp; omega
    · show (ys.toArray.push _).size ≤ _
      rw [sizeLine_eq]; simp; omega
  · show (6 : Nat) ≤ sizeLine + 2
    rw [sizeLine_eq]
    omega
end
end Mine
namespace Mine
theorem call_fun : typeLookup (.type "function") "__call__" = pure (some (.builtin "function.__call__")) := by rw [typeLookup_type, builtinLookup_eq_fast]; kernel_rfl
section
variable {w : World} {E : Value → Shared → Prop} {s : Shared} {h₀ base : Heap} {L : Addr} {m : Str → Option Value} {nw : List (Addr × Obj)} {A : Around}
theorem sub_enter {x : PySem.Str} {t : Tok} {Q' : Value → Shared → Prop} (F : Fr h₀ L s.heap m) (X : (K w.params).In h₀) (N : News h₀ L s.heap nw)
    (hR : ∀ h', Fr h₀ L h' m → News h₀ L h' ((s.heap.objs.size, LCg.lst []) :: nw) → codeAny (model PySem.Challenge.rw_pd0096_01.row.prog w) A (loopC x t 0 0 false s.heap.objs.size) (fun r s' => match r with | .ok (.ret v) => Q' v s' | .ok _ => False | .error e => E e s') { s with heap := h' }) :
    wpAny (model PySem.Challenge.rw_pd0096_01.row.prog w) A (call (.builtin "re.Pattern.sub") [.ref 36, .ref 108, .str x t]) Q' E s := by
  have g36 := (X.keeps F.keep) 36 _ rfl
  have g108 := (X.keeps F.keep) 108 _ rfl
  refine wpAny_call (codeAny_call_builtin slot_sub.plain entry_sub (slot_sub.check _ _ _ _ _ _ _ _ ⟨_, g36, rfl⟩ (args_sub _ _ _) ?_))
  unfold «re.Pattern.sub» Re.reSubstitute
  dsimp only
  refine wpAny_bind (wpAny_of_eq (show Re.reNamed "re.Pattern.sub" "sub" ["repl", "string", "count"] 2 [.ref 108, .str x t] [] = pure [some (.ref 108), some (.str x t), none] from by kernel_rfl) ?_)
  dsimp only
  refine wpAny_bind (wpAny_pure ?_)
  refine wpAny_bind (wpAny_specialOf (T := "function") ⟨_, g108, rfl⟩ call_fun ?_)
  simp only [Option.isSome_some, if_true]
  refine wpAny_bind (wpAny_pure ?_)
  refine wpAny_bind (wpAny_pure ?_)
  dsimp only
  refine wpAny_bind (m := holding _ (Re.reWholeTarget (.ref 36) (.str x t))) (wpAny_holding (target_wp F X ?_))
  rw [if_pos (show ((1 : Int) == 1) = true from rfl)]
  refine wpAny_bind (wpAny_of_eq (show Re.reNotHeld "re.Pattern.sub" (.str x t) = pure () from by kernel_rfl) ?_)
  refine wpAny_bind (newList_N F N ?_)
  intro h' F' N'
  exact wpAny_pure ⟨plainId_quiet plain_loop _, hR h' F' N'⟩
end
section
variable {w : World} {E : Value → Shared → Prop} {s : Shared} {h₀ base : Heap} {L : Addr} {m : Str → Option Value} {nw : List (Addr × Obj)} {mean : ExcName → Option Value} {mg mb : Str → Option Value} {dp un : Nat} {gd : Option (List Code)} {cn : Str} {cs : Scope} {a : Addr} {ccd : Value} {cl : List (Str × Addr)} {outer : List Env} {A₀ : Around}
theorem sub_wp {x : PySem.Str} {t : Tok} {Q' : Value → Shared → Prop}
    (B : Below A₀ base outer h₀) (F : Fr h₀ L s.heap m) (X : (K w.params).In h₀) (N : News h₀ L s.heap nw) (T : Top Q (looseW Q lo) mean mg mb h₀) (hk : cs.kind = .function) (hd : dp + 5 < recursionLimit) (hu : un + 61 < cLine)
    (hw : ∀ c ∈ x.cps.toList, c < 256) (hl : x.cps.size ≤ 2)
    (hR : ∀ t' h' tk', Fr h₀ L h' m → News h₀ L h' nw → Q' (.str x t') { s with heap := h', toks := tk' }) :
    wpAny (model PySem.Challenge.rw_pd0096_01.row.prog w) (ktrTop dp un gd cn cs L a ccd cl outer) (call (.builtin "re.Pattern.sub") [.ref 36, .ref 108, .str (figs x) t]) Q' E s := by
  have hD : ∀ q ∈ nw, q.1 ≠ s.heap.objs.size := fun q hq => Nat.ne_of_lt (Heap.lt_size (N q hq).1)
  refine sub_enter F X N ?_
  intro h1 F1 N1
  obtain ⟨⟨l⟩⟩ := x
  match l, hw, hl with
  | [], _, _ =>
    refine sub_end (s := { s with heap := h1 }) (ts := []) F1 X N1 ⟨[], rfl, rfl⟩ (by decide) (fun _ h => nomatch h) (find0 _) ?_
    intro t' h' tk' F' N'
    exact hR t' h' tk' F' N'
  | [k], hw, _ =>
    have hk' : k < 256 := hw k List.mem_cons_self
    refine sub_step (s := { s with heap := h1 }) (x := ⟨t3 k⟩) (c := k) (p := 0) B F1 X N1 T hk hd hu hD (map_get find3 hk') rfl hk' (by exact Nat.le_of_ble_eq_true rfl) (by decide) ?_
    intro u h2 tk2 F2 N2
    refine sub_end (x := ⟨t3 k⟩) (s := { s with heap := h2, toks := tk2 }) (ts := [⟨#[k]⟩]) F2 X N2 ⟨[(⟨#[k]⟩, u)], rfl, rfl⟩ (Nat.le_of_ble_eq_true rfl) (fun y hy => by simp only [List.mem_cons, List.not_mem_nil, or_false] at hy; subst hy; exact Nat.le_of_ble_eq_true rfl) (find3z k _) ?_
    intro t' h' tk' F' N'
    exact hR t' h' tk' F' N'
  | [k, j], hw, _ =>
    have hk' : k < 256 := hw k List.mem_cons_self
    have hj' : j < 256 := hw j (List.mem_cons_of_mem _ List.mem_cons_self)
    refine sub_step (s := { s with heap := h1 }) (x := ⟨t6 k j⟩) (c := k) (p := 0) B F1 X N1 T hk hd hu hD (map_get (find6a j) hk') rfl hk' (by exact Nat.le_of_ble_eq_true rfl) (by decide) ?_
    intro u h2 tk2 F2 N2
    refine sub_step (s := { s with heap := h2, toks := tk2 }) (x := ⟨t6 k j⟩) (c := j) (p := 3) B F2 X N2 T hk hd hu hD (map_get (find6b k) hj') rfl hj' (by exact Nat.le_of_ble_eq_true rfl) (Nat.le_of_ble_eq_true rfl) ?_
    intro u' h3 tk3 F3 N3
    refine sub_end (x := ⟨t6 k j⟩) (s := { s with heap := h3, toks := tk3 }) (ts := [⟨#[k]⟩, ⟨#[j]⟩]) F3 X N3 ⟨[(⟨#[k]⟩, u), (⟨#[j]⟩, u')], rfl, rfl⟩ (Nat.le_of_ble_eq_true rfl) ?_ (find6z k j _) ?_
    · intro y hy
      simp only [List.mem_cons, List.not_mem_nil, or_false] at hy
      rcases hy with rfl | rfl <;> exact Nat.le_of_ble_eq_true rfl
    intro t' h' tk' F' N'
    exact hR t' h' tk' F' N'
  | _ :: _ :: _ :: _, _, hl => exact absurd hl (by simp)
end
end Mine
namespace Mine
theorem startWY : True := by
  w_top off
  trivial
theorem occ_none (x : PySem.Str) (c : Nat) (h : c ∉ x.cps.toList) : Builtin.Str.occurrences x ⟨#[c]⟩ 0 x.length (x.length + 1) = [] := by
  obtain ⟨f, hf⟩ := StrLaws.occ_chain x ⟨#[c]⟩ (x.length + 1)
  cases ho : Builtin.Str.occurrences x ⟨#[c]⟩ 0 x.length (x.length + 1) with
  | nil => rfl
  | cons i r =>
    rw [ho] at hf
    exact absurd (List.mem_of_getElem? ((StrLaws.subAt_one x c i).mp hf.2.1)) h
theorem replace_none {prog : Program} {w : World} {A : Around} {E : Value → Shared → Prop} {s : Shared} {x y z : PySem.Str} {c : Nat} {t u v : Tok} {Q : Value → Shared → Prop} (e : y = ⟨#[c]⟩) (h : c ∉ x.cps.toList) (hq : Q (.str x t) s) :
    wpAny (model prog w) A (call (.builtin "str.replace") [.str x t, .str y u, .str z v]) Q E s := by
  subst e
  refine call_givesAt (P := fun _ => True) PySem.F.slot_str_replace (typeIs_str _ _ _) PySem.F.entry_str_replace (PySem.F.args_str_replace_3 _ _ _) (m := .val (.str x t)) ?_ trivial hq
  show GivesAt _ (if ((Builtin.Str.occurrences x ⟨#[c]⟩ 0 x.length (x.length + 1)).isEmpty || ((⟨#[c]⟩ : PySem.Str).length == 0 && z.length == 0)) = true then (do rule "str.replace.nothing"; ret (.str x t)) else _) _
  rw [occ_none x c h]
  exact Gives.at (.rule (.of_eq rfl))
theorem hd_ne : (List.range 16).all (fun d => Nat.ble 48 (hd d) && Nat.ble (hd d) 70 && Nat.beq (hd d) 61 == false) = true := by decide +kernel
theorem hd_lt {d : Nat} (h : d < 16) : 48 ≤ hd d ∧ hd d ≤ 70 ∧ hd d ≠ 61 := by
  have e := List.all_eq_true.mp hd_ne d (List.mem_range.mpr h)
  simp only [Bool.and_eq_true, Nat.ble_eq, beq_iff_eq] at e
  obtain ⟨⟨h1, h2⟩, h3⟩ := e
  exact ⟨h1, h2, fun q => by rw [q] at h3; exact absurd h3 (by decide)⟩
theorem figs_sign {x : PySem.Str} (hw : ∀ c ∈ x.cps.toList, c < 256) : ∀ d ∈ (figs x).cps.toList, 48 ≤ d ∧ d ≤ 70 := by
  intro d hd'
  unfold figs figL at hd'
  simp only [List.mem_flatMap] at hd'
  obtain ⟨c, hc, hm⟩ := hd'
  have hc' := hw c hc
  simp only [List.mem_cons, List.not_mem_nil, or_false] at hm
  rcases hm with rfl | rfl | rfl
  · omega
  · have := hd_lt (d := c / 16) (by omega)
    omega
  · have := hd_lt (d := c % 16) (by omega)
    omega
theorem figs_size (x : PySem.Str) : (figs x).length = 3 * x.cps.size := by
  obtain ⟨⟨l⟩⟩ := x
  unfold figs figL
  show ((l.flatMap fun c => [61, hd (c / 16), hd (c % 16)]).toArray).size = 3 * l.length
  simp only [List.size_toArray]
  induction l with
  | nil => rfl
  | cons a r ih =>
    simp only [List.flatMap_cons, List.length_append, List.length_cons, List.length_nil, ih]
    omega
section
variable {w : World} {E : Value → Shared → Prop} {s : Shared} {h₀ : Heap} {L : Addr} {m : Str → Option Value} {A : Around} {M : Model}
theorem gm_sub {pl : Sem Bool} {Q : Value × List Value → Shared → Prop} (F : Fr h₀ L s.heap m) (X : (K w.params).In h₀) (h : Q (.builtin "re.Pattern.sub", [.ref 36]) s) : wpAny M A (getMethod (.ref 36) "sub" pl) Q E s :=
  have g36 := (X.keeps F.keep) 36 _ rfl
  getMethod_builtin (T := "re.Pattern") ⟨_, g36, rfl⟩ plainAttrs_pat slot_sub type_sub (fun b e => by cases e; exact ⟨_, g36, rfl⟩) h
end
local macro_rules | `(tactic| walk_at "pad 0") => `(tactic| skip)
local macro_rules | `(tactic| walk_at "pad 1") => `(tactic| skip)
local macro_rules | `(tactic| walk_at "pad 2") => `(tactic| skip)
local macro_rules | `(tactic| walk_at "pad 3") => `(tactic| skip)
local macro_rules | `(tactic| walk_at "pad 4") => `(tactic| skip)
local macro_rules | `(tactic| walk_at "pad 5") => `(tactic| skip)
local macro_rules | `(tactic| walk_at "pad 6") => `(tactic| skip)
local macro_rules | `(tactic| walk_at "pad 7") => `(tactic| skip)
local macro_rules | `(tactic| k_mem) => `(tactic| assumption)
local macro_rules | `(tactic| walk_at "call builtin:str.replace") => `(tactic| (k_here; (with_reducible refine replace_none (c := 95) (by decide +kernel) (by assumption) ?_)))
local macro_rules | `(tactic| walk_at "getMethod ref") => `(tactic| (k_here; (with_reducible refine gm_sub (by assumption) (by assumption) ?_)))
local macro_rules | `(tactic| walk_at "call builtin:re.Pattern.sub") => `(tactic| (k_here; k_dflt (refine' sub_wp ?k1 ?k2 ?k3 ?k4 ?k5 ?kK ?kd ?ku ?kw ?kl ?_; (case k1 => k_asm); (case k2 => k_asm); (case k3 => k_asm); (case k4 => k_asm); (case k5 => k_asm); (case kK => first | exact rfl | assumption); (case kd => ktr_room); (case ku => ktr_units); (case kw => assumption); (case kl => assumption)); intro t9 h9 tk9 F9 N9; (try dsimp only); (try k_fold)))
set_option maxHeartbeats 4000000 in
theorem hdecode_tells (w : World) (x : PySem.Str) (t0 : Tok) (hw : ∀ c ∈ x.cps.toList, c < 256) (hl : x.cps.size ≤ 2) : TellsR 8 80 w 115 [.str (figs x) t0] (fun t => .str x t) := by
  have hsz : (figs x).length ≤ 6 := by rw [figs_size]; omega
  have h95 : 95 ∉ (figs x).cps.toList := fun h => by have := figs_sign hw _ h; omega
  unfold TellsR
  k_fill
  intros
  rename_i hret
  refine wpAny_call ?_
  k_dflt cell_enter
  k_steps
  exact cb_retS hret rfl (by k_asm) (by k_asm)
end Mine
namespace Mine
theorem sp_no : (List.range 71).all (fun c => Nat.blt c 48 || spS ⟨#[c]⟩ == false) = true := by decide +kernel
theorem lb_no : (List.range 71).all (fun c => Nat.blt c 48 || Unicode.isLineBreak c == false) = true := by decide +kernel
theorem sp_off {c : Nat} (h1 : 48 ≤ c) (h2 : c ≤ 70) : spS ⟨#[c]⟩ = false := by
  have e := List.all_eq_true.mp sp_no c (List.mem_range.mpr (by omega))
  simp only [Bool.or_eq_true, beq_iff_eq] at e
  rcases e with e | e
  · have := Nat.blt_eq.mp e; omega
  · exact e
theorem lb_off {c : Nat} (h1 : 48 ≤ c) (h2 : c ≤ 70) : Unicode.isLineBreak c = false := by
  have e := List.all_eq_true.mp lb_no c (List.mem_range.mpr (by omega))
  simp only [Bool.or_eq_true, beq_iff_eq] at e
  rcases e with e | e
  · have := Nat.blt_eq.mp e; omega
  · exact e
/-- the signs of written words -/
def Wr (x : PySem.Str) : Prop := ∀ d ∈ x.cps.toList, 48 ≤ d ∧ d ≤ 70
theorem Wr.at {x : PySem.Str} (h : Wr x) {k : Nat} (hk : k < x.length) : 48 ≤ x.cps.getD k 0 ∧ x.cps.getD k 0 ≤ 70 := by
  have hk' : k < x.cps.size := hk
  rw [Array.getD_eq_getD_getElem?, Array.getElem?_eq_getElem hk', Option.getD_some]
  exact h _ (by simp)
theorem sub_all (x : PySem.Str) : Builtin.Str.strSub x 0 x.length = x := by
  obtain ⟨⟨l⟩⟩ := x
  show (⟨Array.extract _ 0 l.length⟩ : PySem.Str) = _
  simp
theorem rstrip_wr {x : PySem.Str} (h : Wr x) : Txt.rstrip x = x := by
  obtain ⟨hi, h0, h1, h2, _⟩ := rstrip_cut (x := x) fun c hc => by have := h c hc; omega
  rw [h1]
  by_cases e : hi < x.length
  · have := h2 hi (Nat.le_refl _) e
    rw [sp_off (h.at e).1 (h.at e).2] at this
    cases this
  · have e : hi = x.length := by omega
    rw [e, sub_all]
section
open StrLaws
theorem ls_skip (s : PySem.Str) : ∀ (m cur : Nat) (st : LsSt), (∀ i, cur ≤ i → i < cur + m → Unicode.isLineBreak (s.cps.getD i 0) = false) → Id.run (forIn (m := Id) (List.range' cur m) st (lsBody s)) = st
  | 0, _, _, _ => rfl
  | m + 1, cur, st, h => by
    rw [List.range'_succ, List.forIn_cons]
    have e : lsBody s cur st = pure (ForInStep.yield st) := by
      unfold lsBody
      rw [h cur (Nat.le_refl _) (by omega), Bool.and_false]
      rfl
    rw [e]
    exact ls_skip s m (cur + 1) st fun i h1 h2 => h i (by omega) (by omega)
theorem ls_skip' (s : PySem.Str) (rest : List Nat) : ∀ (m cur : Nat) (st : LsSt), (∀ i, cur ≤ i → i < cur + m → Unicode.isLineBreak (s.cps.getD i 0) = false) → Id.run (forIn (m := Id) (List.range' cur m ++ rest) st (lsBody s)) = Id.run (forIn (m := Id) rest st (lsBody s))
  | 0, _, _, _ => rfl
  | m + 1, cur, st, h => by
    rw [List.range'_succ, List.cons_append, List.forIn_cons]
    have e : lsBody s cur st = pure (ForInStep.yield st) := by
      unfold lsBody
      rw [h cur (Nat.le_refl _) (by omega), Bool.and_false]
      rfl
    rw [e]
    exact ls_skip' s rest m (cur + 1) st fun i h1 h2 => h i (by omega) (by omega)
theorem lines_one {x : PySem.Str} (h : Wr x) (hx : 0 < x.length) : Txt.lines x = [x] := by
  have e : Builtin.Str.lineSpans x = [(0, x.length, x.length)] := by
    rw [ls_eq, ls_skip x x.length 0 _ fun i _ hi => lb_off (h.at (by omega)).1 (h.at (by omega)).2]
    unfold lsEnd
    simp only [hx, if_true]
    rfl
  unfold Txt.lines lineCuts
  rw [e]
  simp
/-- rows: each word and a line break -/
def rowsL (ws : List (List Nat)) : List Nat := ws.flatMap fun l => l ++ [10]
noncomputable def spansL : Nat → List (List Nat) → List (Nat × Nat × Nat)
  | _, [] => []
  | o, l :: r => (o, o + l.length, o + l.length + 1) :: spansL (o + l.length + 1) r
theorem ls_rows (x : PySem.Str) : ∀ (ws : List (List Nat)) (pre : List Nat) (acc : Array (Nat × Nat × Nat)), (∀ l ∈ ws, ∀ d ∈ l, 48 ≤ d ∧ d ≤ 70) → x.cps.toList = pre ++ rowsL ws →
    Id.run (forIn (m := Id) (List.range' pre.length (rowsL ws).length) (acc, pre.length) (lsBody x)) = (acc ++ (spansL pre.length ws).toArray, pre.length + (rowsL ws).length)
  | [], pre, acc, _, _ => by simp [rowsL, spansL]
  | l :: r, pre, acc, h, e => by
    have hl : (rowsL (l :: r)).length = l.length + (1 + (rowsL r).length) := by
      unfold rowsL
      simp only [List.flatMap_cons, List.length_append, List.length_singleton]
      omega
    have e' : x.cps.toList = (pre ++ l ++ [10]) ++ rowsL r := by
      rw [e]
      unfold rowsL
      simp only [List.flatMap_cons, List.append_assoc]
    have hat : ∀ i, pre.length ≤ i → i < pre.length + l.length → Unicode.isLineBreak (x.cps.getD i 0) = false := by
      intro i h1 h2
      have hg : x.cps.getD i 0 = l[i - pre.length]'(by omega) := by
        rw [Array.getD_eq_getD_getElem?, ← Array.getElem?_toList, e', List.append_assoc, List.append_assoc, List.getElem?_append_right h1, List.getElem?_append_left (by omega), List.getElem?_eq_getElem (by omega), Option.getD_some]
      rw [hg]
      have := h l List.mem_cons_self _ (List.getElem_mem (by omega : i - pre.length < l.length))
      exact lb_off this.1 this.2
    have h10 : x.cps.getD (pre.length + l.length) 0 = 10 := by
      rw [Array.getD_eq_getD_getElem?, ← Array.getElem?_toList, e']
      simp
    rw [hl, ← List.range'_append_1, ls_skip' x _ l.length pre.length _ hat, Nat.add_comm 1 (rowsL r).length, List.range'_succ]
    have eb : lsBody x (pre.length + l.length) (acc, pre.length) = pure (ForInStep.yield (acc.push (pre.length, pre.length + l.length, pre.length + l.length + 1), pre.length + l.length + 1)) := by
      unfold lsBody lsNext
      rw [h10]
      have q1 : decide (pre.length ≤ pre.length + l.length) = true := by simp
      have q2 : Unicode.isLineBreak 10 = true := by decide +kernel
      simp only [q1, q2]
      rfl
    have ih := ls_rows x r (pre ++ l ++ [10]) (acc.push (pre.length, pre.length + l.length, pre.length + l.length + 1)) (fun l' hl' => h l' (List.mem_cons_of_mem _ hl')) e'
    have en : (pre ++ l ++ [10]).length = pre.length + l.length + 1 := by simp; omega
    rw [en] at ih
    rw [List.forIn_cons, eb]
    refine Eq.trans ih ?_
    simp only [spansL]
    refine Prod.ext ?_ ?_
    · apply Array.ext'
      simp
    · show _ = _
      simp only
      omega
theorem sub_rows (x : PySem.Str) : ∀ (ws : List (List Nat)) (pre : List Nat), x.cps.toList = pre ++ rowsL ws → (spansL pre.length ws).map (fun p => Builtin.Str.strSub x p.1 p.2.1) = ws.map fun l => (⟨l.toArray⟩ : PySem.Str)
  | [], _, _ => rfl
  | l :: r, pre, e => by
    have e' : x.cps.toList = (pre ++ l ++ [10]) ++ rowsL r := by
      rw [e]
      unfold rowsL
      simp only [List.flatMap_cons, List.append_assoc]
    have en : (pre ++ l ++ [10]).length = pre.length + l.length + 1 := by simp; omega
    have ih := sub_rows x r (pre ++ l ++ [10]) e'
    rw [en] at ih
    simp only [spansL, List.map_cons, ih]
    congr 1
    show (⟨x.cps.extract pre.length (pre.length + l.length)⟩ : PySem.Str) = ⟨l.toArray⟩
    congr 1
    apply Array.ext'
    rw [Array.toList_extract, e']
    simp
theorem lines_rows (ws : List (List Nat)) (h : ∀ l ∈ ws, ∀ d ∈ l, 48 ≤ d ∧ d ≤ 70) : Txt.lines ⟨(rowsL ws).toArray⟩ = ws.map fun l => (⟨l.toArray⟩ : PySem.Str) := by
  have e : Builtin.Str.lineSpans ⟨(rowsL ws).toArray⟩ = spansL 0 ws := by
    have r := ls_rows ⟨(rowsL ws).toArray⟩ ws [] #[] h rfl
    rw [ls_eq]
    have el : (⟨(rowsL ws).toArray⟩ : PySem.Str).length = (rowsL ws).length := rfl
    rw [el]
    have r' : Id.run (forIn (m := Id) (List.range' 0 (rowsL ws).length) ((#[], 0) : LsSt) (lsBody ⟨(rowsL ws).toArray⟩)) = (#[] ++ (spansL 0 ws).toArray, 0 + (rowsL ws).length) := r
    rw [r']
    unfold lsEnd
    rw [el]
    simp
  have s := sub_rows ⟨(rowsL ws).toArray⟩ ws [] rfl
  unfold Txt.lines linesOf
  have ec : (lineCuts ⟨(rowsL ws).toArray⟩).map (fun (p : Nat × Nat) => Builtin.Str.strSub ⟨(rowsL ws).toArray⟩ p.1 p.2) = ws.map fun l => (⟨l.toArray⟩ : PySem.Str) := by
    unfold lineCuts
    rw [e, List.map_map, ← s]
    rfl
  split
  · rename_i hc
    have hc' := eq_of_beq hc
    rw [hc'] at ec
    rw [← ec]
    simp only [List.map_cons, List.map_nil]
    rw [sub_all]
  · exact ec
end
end Mine
namespace Mine
theorem startDA : True := by
  w_top off
  trivial
def dM (m : Str → Option Value) (c : PySem.Str × Tok × Option Value × Option Value × Option Value) (y : Str) : Option Value :=
  if y = PySem.Str.ofString "decoded" then some (.str c.1 c.2.1) else if y = PySem.Str.ofString "i" then c.2.2.1 else if y = PySem.Str.ofString "n" then c.2.2.2.1 else if y = PySem.Str.ofString "c" then c.2.2.2.2 else m y
section
variable {prog : Program} {w : World} {A : Around} {E : Value → Shared → Prop} {s : Shared} {env : Env} {h₀ : Heap} {x : Str} {body : List Stmt} {Q : Flow → Shared → Prop}
theorem dfor {l : Addr} {its : List Value} {o : Obj} {m₀ : Str → Option Value} {news : List (Addr × Obj)} {t : Tok} (F : Fr h₀ env.locals s.heap m₀) (N : News h₀ env.locals s.heap news) (Pc : Nat → PySem.Str → Prop)
    (hh : A.handled = none) (hl : (l, o) ∈ news) (ho : o.cls = .type "list") (hd : ∃ k, o.data = .seq its.toArray k)
    (hM : m₀ (PySem.Str.ofString "decoded") = some (.str (PySem.Str.ofString "") t)) (hp : Pc 0 (PySem.Str.ofString ""))
    (turn : ∀ (i : Nat) (v : Value) (c : PySem.Str × Tok × Option Value × Option Value × Option Value) (h : Heap) (tk : Nat) (nw : List (Addr × Obj)), its[i]? = some v → Pc i c.1 → Fr h₀ env.locals h (fun y => if y = x then some v else dM m₀ c y) → News h₀ env.locals h nw → (∀ p ∈ news, p ∈ nw) →
      wpAny (model prog w) A (execs body env) (LoopTurn h₀ env.locals s nw (fun m' => ∃ c', Pc (i + 1) c'.1 ∧ ∀ z, z ≠ x → m' z = dM m₀ c' z) Q) E { s with heap := h, toks := tk })
    (done : ∀ (c : PySem.Str × Tok × Option Value × Option Value × Option Value) (u : Option Value) (h : Heap) (tk : Nat), Pc its.length c.1 → Fr h₀ env.locals h (fun y => if y = x then u else dM m₀ c y) → News h₀ env.locals h news → Q .next { s with heap := h, toks := tk }) :
    wpAny (model prog w) A (pyIter (.ref l)) (fun it s₂ => LoopAtV prog w A h₀ env x body Q E it s₂) E s := by
  refine for_list (dM m₀) (fun i c => Pc i c.1) (PySem.Str.ofString "", t, m₀ (PySem.Str.ofString "i"), m₀ (PySem.Str.ofString "n"), m₀ (PySem.Str.ofString "c")) hh hl ho hd F N ?_ hp turn done
  intro z _
  unfold dM
  by_cases h1 : z = PySem.Str.ofString "decoded"
  · rw [if_pos h1, h1, hM]
  rw [if_neg h1]
  by_cases h2 : z = PySem.Str.ofString "i"
  · rw [if_pos h2, h2]
  rw [if_neg h2]
  by_cases h3 : z = PySem.Str.ofString "n"
  · rw [if_pos h3, h3]
  rw [if_neg h3]
  by_cases h4 : z = PySem.Str.ofString "c"
  · rw [if_pos h4, h4]
  rw [if_neg h4]
def wM (m : Str → Option Value) (j : Nat) (c : PySem.Str × Tok × Tok × Option Value) (y : Str) : Option Value :=
  if y = PySem.Str.ofString "decoded" then some (.str c.1 c.2.1) else if y = PySem.Str.ofString "i" then some (.int ((3 * j : Nat) : Int) c.2.2.1) else if y = PySem.Str.ofString "c" then c.2.2.2 else m y
/-- the end of a turn of the while -/
def WTurn (h₀ : Heap) (L : Addr) (s : Shared) (news : List (Addr × Obj)) (m₀ : Str → Option Value) (j : Nat) (Pc : Nat → PySem.Str → Prop) (f : Flow) (s₃ : Shared) : Prop :=
  f = .next ∧ ∃ h' tk' c', s₃ = { s with heap := h', toks := tk' } ∧ Fr h₀ L h' (wM m₀ j c') ∧ News h₀ L h' news ∧ Pc j c'.1
theorem WTurn.end {L : Addr} {news : List (Addr × Obj)} {m₀ m' : Str → Option Value} {j : Nat} {Pc : Nat → PySem.Str → Prop} {h' : Heap} {tk' : Nat} (c' : PySem.Str × Tok × Tok × Option Value) (F : Fr h₀ L h' m') (N : News h₀ L h' news) (e : ∀ z, m' z = wM m₀ j c' z) (p : Pc j c'.1) :
    WTurn h₀ L s news m₀ j Pc .next { s with heap := h', toks := tk' } := by
  have e' : m' = wM m₀ j c' := funext e
  subst e'
  exact ⟨rfl, h', tk', c', rfl, F, N, p⟩
theorem WTurn.of {L : Addr} {news : List (Addr × Obj)} {m₀ m' : Str → Option Value} {j : Nat} {Pc : Nat → PySem.Str → Prop} {h' : Heap} {tk' : Nat} {d : PySem.Str} (F : Fr h₀ L h' m') (N : News h₀ L h' news)
    (hd : ∃ t, m' (PySem.Str.ofString "decoded") = some (.str d t)) (hi : ∃ t, m' (PySem.Str.ofString "i") = some (.int ((3 * j : Nat) : Int) t)) (hr : ∀ z, z ≠ PySem.Str.ofString "decoded" → z ≠ PySem.Str.ofString "i" → z ≠ PySem.Str.ofString "c" → m' z = m₀ z) (p : Pc j d) :
    WTurn h₀ L s news m₀ j Pc .next { s with heap := h', toks := tk' } := by
  obtain ⟨t, hd⟩ := hd
  obtain ⟨t', hi⟩ := hi
  refine WTurn.end (d, t, t', m' (PySem.Str.ofString "c")) F N ?_ p
  intro z
  unfold wM
  by_cases h1 : z = PySem.Str.ofString "decoded"
  · rw [if_pos h1, h1, hd]
  rw [if_neg h1]
  by_cases h2 : z = PySem.Str.ofString "i"
  · rw [if_pos h2, h2, hi]
  rw [if_neg h2]
  by_cases h4 : z = PySem.Str.ofString "c"
  · rw [if_pos h4, h4]
  rw [if_neg h4]
  exact hr z h1 h2 h4
theorem dM_of {m₀ m' : Str → Option Value} {d : PySem.Str} {e : PySem.Str} (hd : ∃ t, m' (PySem.Str.ofString "decoded") = some (.str d t)) (he : d = e) (hr : ∀ z, z ≠ PySem.Str.ofString "line" → z ≠ PySem.Str.ofString "decoded" → z ≠ PySem.Str.ofString "i" → z ≠ PySem.Str.ofString "n" → z ≠ PySem.Str.ofString "c" → m' z = m₀ z) :
    ∃ c' : PySem.Str × Tok × Option Value × Option Value × Option Value, c'.1 = e ∧ ∀ z, z ≠ PySem.Str.ofString "line" → m' z = dM m₀ c' z := by
  obtain ⟨t, hd⟩ := hd
  refine ⟨(d, t, m' (PySem.Str.ofString "i"), m' (PySem.Str.ofString "n"), m' (PySem.Str.ofString "c")), he, ?_⟩
  intro z h0
  unfold dM
  by_cases h1 : z = PySem.Str.ofString "decoded"
  · rw [if_pos h1, h1, hd]
  rw [if_neg h1]
  by_cases h2 : z = PySem.Str.ofString "i"
  · rw [if_pos h2, h2]
  rw [if_neg h2]
  by_cases h3 : z = PySem.Str.ofString "n"
  · rw [if_pos h3, h3]
  rw [if_neg h3]
  by_cases h4 : z = PySem.Str.ofString "c"
  · rw [if_pos h4, h4]
  rw [if_neg h4]
  exact hr z h0 h1 h2 h3 h4
theorem dwhile {test : PySem.Expr} {pos : Pos} {m₀ : Str → Option Value} {news : List (Addr × Obj)} {td ti : Tok} {D : PySem.Str} {L : Addr} {n : Nat} (F : Fr h₀ L s.heap m₀) (N : News h₀ L s.heap news) (Pc : Nat → PySem.Str → Prop)
    (hM : m₀ (PySem.Str.ofString "decoded") = some (.str D td)) (hi : m₀ (PySem.Str.ofString "i") = some (.int 0 ti)) (hp : Pc 0 D) (hle : ∀ j d, Pc j d → j ≤ n)
    (turn : ∀ (j : Nat) (c : PySem.Str × Tok × Tok × Option Value) (h : Heap) (tk : Nat), Pc j c.1 → Fr h₀ L h (wM m₀ j c) → News h₀ L h news →
      wpAny (model prog w) A (isTrue test env (eval test env)) (fun b s₂ =>
        if b = true then wpAny (model prog w) A (execs body env) (WTurn h₀ L s news m₀ (j + 1) Pc) E s₂ else Q .next s₂) E { s with heap := h, toks := tk })
    (hE : PassesOwn (model prog w) A env E := by passes_own) :
    wpAny (model prog w) A (exec (.While test body [] pos) env) Q E s := by
  have e0 : m₀ = wM m₀ 0 (D, td, ti, m₀ (PySem.Str.ofString "c")) := by
    funext z
    unfold wM
    by_cases h1 : z = PySem.Str.ofString "decoded"
    · rw [if_pos h1, h1, hM]
    rw [if_neg h1]
    by_cases h2 : z = PySem.Str.ofString "i"
    · rw [if_pos h2, h2, hi]; rfl
    rw [if_neg h2]
    by_cases h4 : z = PySem.Str.ofString "c"
    · rw [if_pos h4, h4]
    rw [if_neg h4]
  refine While_inv (n₀ := n - 0) (fun k m nw => nw = news ∧ ∃ j c, k = n - j ∧ m = wM m₀ j c ∧ Pc j c.1) F N ⟨rfl, 0, _, rfl, e0, hp⟩ ?_ hE
  rintro k m₁ nw₁ h₁ tk₁ F₁ N₁ ⟨rfl, j, c, rfl, rfl, hc⟩
  refine wpAny_mono (turn j c h₁ tk₁ hc F₁ N₁) (fun b s₂ hb => ?_) fun _ _ e => e
  cases b with
  | false => exact hb
  | true =>
    simp only [if_true] at hb ⊢
    refine wpAny_mono hb (fun f s₃ hf => ?_) fun _ _ e => e
    obtain ⟨rfl, h', tk', c', rfl, F', N', hc'⟩ := hf
    have := hle _ _ hc'
    exact WhileStep.intro F' N' (by omega) ⟨rfl, j + 1, c', rfl, rfl, hc'⟩
end
local macro_rules | `(tactic| k_mem) => `(tactic| assumption)
theorem fig_at : ∀ {l : List Nat} {j k : Nat}, l[j]? = some k → (figL l)[3 * j]? = some 61 ∧ (figL l)[3 * j + 1]? = some (hd (k / 16)) ∧ (figL l)[3 * j + 2]? = some (hd (k % 16))
  | a :: r, 0, k, h => by
    simp only [List.getElem?_cons_zero, Option.some.injEq] at h
    subst h
    exact ⟨rfl, rfl, rfl⟩
  | a :: r, j + 1, k, h => by
    have e : figL (a :: r) = 61 :: hd (a / 16) :: hd (a % 16) :: figL r := rfl
    rw [e]
    exact fig_at (l := r) (j := j) h
theorem drop3 {l : List Nat} {n a b c : Nat} (h0 : l[n]? = some a) (h1 : l[n + 1]? = some b) (h2 : l[n + 2]? = some c) : (l.drop n).take 3 = [a, b, c] := by
  apply List.ext_getElem?
  intro i
  rw [List.getElem?_take]
  match i with
  | 0 => simpa using h0
  | 1 => simpa using h1
  | 2 => simpa using h2
  | i + 3 => rw [if_neg (by omega)]; simp
theorem rows_snoc {ws : List PySem.Str} {i : Nat} {x : PySem.Str} (h : ws[i]? = some x) : rowsL ((ws.take (i + 1)).map fun x => x.cps.toList) = rowsL ((ws.take i).map fun x => x.cps.toList) ++ (x.cps.toList ++ [10]) := by
  rw [List.take_add_one, h, List.map_append]
  unfold rowsL
  rw [List.flatMap_append]
  simp
theorem rows_len : ∀ (ws : List PySem.Str), (∀ x ∈ ws, x.cps.size ≤ 2) → (rowsL (ws.map fun x => x.cps.toList)).length ≤ 3 * ws.length
  | [], _ => Nat.le_refl 0
  | x :: r, h => by
    have ih := rows_len r fun y hy => h y (List.mem_cons_of_mem _ hy)
    have hx' := h x List.mem_cons_self
    have e : rowsL ((x :: r).map fun x => x.cps.toList) = x.cps.toList ++ [10] ++ rowsL (r.map fun x => x.cps.toList) := rfl
    rw [e]
    simp only [List.length_append, List.length_cons, List.length_nil, Array.length_toList]
    omega
theorem cat_text (D : PySem.Str) (l : List Nat) {y : PySem.Str} (hy : y.cps.toList = l) : D ++ y = ⟨(D.cps.toList ++ l).toArray⟩ := by
  obtain ⟨⟨d⟩⟩ := D
  obtain ⟨⟨e⟩⟩ := y
  subst hy
  show (⟨(⟨d⟩ : Array Nat) ++ ⟨e⟩⟩ : PySem.Str) = _
  simp
theorem hex_in : (List.range 16).all (fun d => (Builtin.Str.occurrences (PySem.Str.ofString "0123456789abcdefABCDEF") ⟨#[hd d]⟩ 0 (PySem.Str.ofString "0123456789abcdefABCDEF").length 1).isEmpty == false) = true := by decide +kernel
theorem hex_has {d : Nat} (h : d < 16) : (!(Builtin.Str.occurrences (PySem.Str.ofString "0123456789abcdefABCDEF") ⟨#[hd d]⟩ 0 (PySem.Str.ofString "0123456789abcdefABCDEF").length 1).isEmpty) = true := by
  have e := List.all_eq_true.mp hex_in d (List.mem_range.mpr h)
  rw [beq_iff_eq] at e
  rw [e]
  rfl
section
variable {prog : Program} {w : World} {A : Around} {E : Value → Shared → Prop} {s : Shared} {x y : PySem.Str} {t u : Tok} {value slice : PySem.Expr} {Q : Value → Shared → Prop}
theorem item_eq {i : Int} (e : Txt.item x i = y) (hr : fitsSsize i = true) (h1 : -(x.length : Int) ≤ i) (h2 : i < x.length) (h : ∀ t', Q (.str y t') { s with toks := s.toks + 1 })
    (hs : subscripted slice false (.str x t) (.int i u) = operate [.str x t, .int i u] (getItem (.str x t) (.int i u)) := by with_unfolding_all rfl)
    (ht : ∀ r, letTemporaryGo value (.str x t) r = pure () := by intro _; with_unfolding_all rfl) :
    wpAny (model prog w) A (subscriptTail value slice (.str x t) (.int i u)) Q E s :=
  item_str hr h1 h2 (fun _ => by rw [e]; exact h _) hs ht
theorem notIn_eq {b : Bool} (e : (!(Builtin.Str.occurrences x y 0 x.length 1).isEmpty) = b) (h : Q (.bool (!b)) s) : wpAny (model prog w) A (compareOp .NotIn (.str y u) (.str x t)) Q E s := notIn_str (by rw [e]; exact h)
theorem in_eq {b : Bool} (e : (!(Builtin.Str.occurrences x y 0 x.length 1).isEmpty) = b) (h : Q (.bool b) s) : wpAny (model prog w) A (compareOp .In (.str y u) (.str x t)) Q E s := in_str (by rw [e]; exact h)
end
local macro_rules | `(tactic| walk_at "subscriptTail Name Name str int") => `(tactic| (k_here; (refine item_eq (by assumption) (fitsSsize_of (N := 9223372036854775808) (by omega) (by omega) (Int.le_refl _)) (by omega) (by omega) ?_); intro _))
local macro_rules | `(tactic| walk_at "subscriptTail Name BinOp str int") => `(tactic| (k_here; (refine item_eq (by assumption) (fitsSsize_of (N := 9223372036854775808) (by omega) (by omega) (Int.le_refl _)) (by omega) (by omega) ?_); intro _))
local macro_rules | `(tactic| walk_at "compareOp NotIn str str") => `(tactic| (k_here; (refine notIn_eq (by assumption) ?_)))
local macro_rules | `(tactic| walk_at "subscriptTail Name UnaryOp str int") => `(tactic| (k_here; (refine item_eq (by assumption) (by decide) (by omega) (by omega) ?_); intro _))
local macro_rules | `(tactic| walk_at "compareOp In str str") => `(tactic| (k_here; (refine in_eq (by assumption) ?_)))
local macro_rules | `(tactic| walk_at "call ref") => `(tactic| (k_here; (with_reducible show wpAny _ _ (call (Value.ref 73) [Value.str _ _]) _ _ _); k_dflt (refine' TellsR.use (unquoteX_tells _ _ _ (by assumption) (by assumption) _) ?k1 ?k2 ?k3 ?k4 ?k5 ?kK ?kd ?ku ?_; (case k1 => k_asm); (case k2 => k_asm); (case k3 => k_asm); (case k4 => k_asm); (case k5 => k_asm); (case kK => first | exact rfl | assumption); (case kd => ktr_room); (case ku => ktr_units)); intro t9 h9 tk9 F9 N9; (try dsimp only); (try k_fold)))
local macro_rules | `(tactic| walk_at "exec While") => `(tactic| (k_here; refine Stop.out ?_))
local macro_rules | `(tactic| walk_at "call builtin:str.rstrip") => `(tactic| (k_here; (refine KXw.rstrip (by assumption) (by size_fits) ?_); intro _ _))
local macro_rules | `(tactic| walk_at "pyIter ref") => `(tactic| (k_here; (with_reducible show wpAny _ _ (pyIter _) _ _ _); refine Stop.out ?_))
set_option maxHeartbeats 4000000 in
theorem decode_tells (w : World) (e res : PySem.Str) (ws : List PySem.Str) (last : Nat) (b : Bool) (hlast : Txt.item e (-1) = ⟨#[last]⟩) (hb : (!(Builtin.Str.occurrences (PySem.Str.ofString "\r\n") ⟨#[last]⟩ 0 (PySem.Str.ofString "\r\n").length 1).isEmpty) = b)
    (hres : b = true → (⟨(rowsL (ws.map fun x => x.cps.toList)).toArray⟩ : PySem.Str) = res) (hres' : b = false → rowsL (ws.map fun x => x.cps.toList) = res.cps.toList ++ [10]) (t0 : Tok) (h0 : 0 < e.length) (h1 : e.length ≤ 1000) (hl : Txt.lines e = ws.map figs) (hw : ∀ x ∈ ws, x.cps.size ≤ 2 ∧ ∀ c ∈ x.cps.toList, c < 256) (hn : ws.length ≤ 10) : TellsR 8 80 w 101 [.str e t0] (fun t => .str res t) := by
  unfold TellsR
  k_fill
  intros
  rename_i hret
  refine wpAny_call ?_
  k_dflt (refine' code_def ?k1 ?k2 ?k3 ?k4 ?k5 ?kA ?kF ?kK ?k6 ?k7 ?k8 ?k9 ?kB ?_ ?c2 ?c3 ?c4 ?c5; (case kA => exact rfl); (case kF => exact rfl); (case kK => assumption); (case k1 => k_asm); (case k2 => k_asm); (case k3 => k_asm); (case k4 => k_asm); (case k5 => k_asm); (case k6 => k_is); (case k7 => k_is); (case k8 => ktr_room); (case k9 => first | exact BindsTo.of_eq rfl | exact binds_K (by k_in) rfl (by k_is) rfl rfl rfl); (case c5 => decide); (case kB => exact locs rfl); (case c2 => exact rfl); (case c3 => exact rfl); (case c4 => exact rfl); k_whole; intro g' L' h' FG' F' N' B' X' T'; (try dsimp only); (try k_lift B'); (try k_fold))
  k_steps
  · unfold Stop
    rename Fr _ _ _ _ => F0
    rename News _ _ _ _ => N0
    rename List (PySem.Str × Tok) => l'
    rename l'.map (fun x => x.1) = Txt.lines e => hl'
    refine dfor (its := strValues l') F0 N0 (fun i c => c = ⟨(rowsL ((ws.take i).map fun x => x.cps.toList)).toArray⟩) rfl List.mem_cons_self rfl ⟨_, rfl⟩ rfl rfl ?_ ?_
    · intro i v c h tk nw hv hc F N hsub
      have hv' : ∃ x t, ws[i]? = some x ∧ v = .str (figs x) t := by
        have e1 := hl'.trans hl
        rw [strValues, List.getElem?_map] at hv
        cases hp : l'[i]? with
        | none => rw [hp] at hv; cases hv
        | some p =>
          rw [hp] at hv
          have e2 := congrArg (fun l : List PySem.Str => l[i]?) e1
          simp only [List.getElem?_map, hp, Option.map_some] at e2
          cases hq : ws[i]? with
          | none => rw [hq] at e2; cases e2
          | some y =>
            rw [hq] at e2
            simp only [Option.map_some, Option.some.injEq] at e2 hv
            exact ⟨y, p.2, rfl, by rw [← hv, ← e2]⟩
      obtain ⟨x, t, hxi, rfl⟩ := hv'
      have hxm := hw x (List.mem_of_getElem? hxi)
      have hfl := figs_size x
      have hrs := rstrip_wr (figs_sign hxm.2)
      have hrow := rows_snoc hxi
      unfold dM at F
      obtain ⟨D, td, vi, vn, vc⟩ := c
      dsimp only at F hc
      have hDl : D.length ≤ 100 := by
        have := rows_len (ws.take i) fun y hy => (hw y (List.mem_of_mem_take hy)).1
        rw [List.length_take] at this
        have e9 : D.length = (rowsL ((ws.take i).map fun x => x.cps.toList)).length := by rw [hc]; rfl
        omega
      have hDt : D.cps.toList = rowsL ((ws.take i).map fun x => x.cps.toList) := by rw [hc]
      k_steps
      · unfold Stop
        rename Fr _ _ _ _ => F1
        rename News _ _ _ _ => N1
        refine dwhile (n := x.cps.size) F1 N1 (fun j d => (j < x.cps.size ∧ d = ⟨(D.cps.toList ++ x.cps.toList.take j).toArray⟩) ∨ (j = x.cps.size ∧ d = ⟨(D.cps.toList ++ x.cps.toList ++ [10]).toArray⟩)) rfl rfl ?_ ?_ ?_
        · refine .inl ⟨?_, ?_⟩
          · omega
          · simp
        · rintro j d (⟨h1, _⟩ | ⟨h1, _⟩) <;> omega
        · rintro j ⟨D1, td1, ti1, vc1⟩ h5 tk5 hP F5 N5
          unfold wM at F5
          dsimp only at F5 hP
          have hD1 : D1.length ≤ 200 := by
            have e5 : D.cps.toList.length = D.length := rfl
            have e6 : x.cps.toList.length ≤ 2 := hxm.1
            rcases hP with ⟨_, e4⟩ | ⟨_, e4⟩
            · rw [e4]
              show (D.cps.toList ++ x.cps.toList.take j).toArray.size ≤ 200
              simp only [List.size_toArray, List.length_append, List.length_take]
              omega
            · rw [e4]
              show (D.cps.toList ++ x.cps.toList ++ [10]).toArray.size ≤ 200
              simp only [List.size_toArray, List.length_append, List.length_singleton]
              omega
          rcases hP with ⟨hj, hD⟩ | ⟨hj, hD⟩
          · have ha : x.cps.toList[j]? = some x.cps[j] := by simp [hj]
            generalize x.cps[j] = k at ha
            have hk : k < 256 := hxm.2 k (List.mem_of_getElem? ha)
            obtain ⟨f0, f1, f2⟩ := fig_at ha
            have g0 : Txt.item (figs x) ((3 * j : Nat) : Int) = PySem.Str.ofString "=" := by
              rw [PyProof.Rows.item_meets (n := 61) (by omega) (by rw [Int.toNat_natCast]; simpa [figs] using f0)]
              decide +kernel
            have g1 : Txt.item (figs x) (((3 * j : Nat) : Int) + 1) = ⟨#[hd (k / 16)]⟩ := PyProof.Rows.item_meets (by omega) (by rw [show (((3 * j : Nat) : Int) + 1).toNat = 3 * j + 1 from by omega]; simpa [figs] using f1)
            have g2 : Txt.item (figs x) (((3 * j : Nat) : Int) + 2) = ⟨#[hd (k % 16)]⟩ := PyProof.Rows.item_meets (by omega) (by rw [show (((3 * j : Nat) : Int) + 2).toNat = 3 * j + 2 from by omega]; simpa [figs] using f2)
            have q1 := hex_has (d := k / 16) (by omega)
            have q2 := hex_has (d := k % 16) (by omega)
            have g3 : Txt.slice (figs x) (some ((3 * j : Nat) : Int)) (some (((3 * j : Nat) : Int) + 3)) = hx k := by
              have e7 := eq_of_beq (slice_closesL (x := figs x) (i := ((3 * j : Nat) : Int)) (j := ((3 * j : Nat) : Int) + 3) (by omega) (by omega) (by omega))
              rw [e7, show (((3 * j : Nat) : Int) + 3 - ((3 * j : Nat) : Int)).toNat = 3 from by omega, Int.toNat_natCast]
              have e8 : (figs x).cps.toList = figL x.cps.toList := rfl
              rw [e8, drop3 f0 f1 f2]
              rfl
            have ht1 : x.cps.toList.take (j + 1) = x.cps.toList.take j ++ [k] := by rw [List.take_add_one, ha]; rfl
            have hsz : x.cps.toList.length = x.cps.size := rfl
            have c1 : D1 ++ (⟨#[k]⟩ : PySem.Str) = ⟨(D.cps.toList ++ x.cps.toList.take (j + 1)).toArray⟩ := by
              rw [cat_text D1 [k] rfl, hD, ht1, List.append_assoc]
            have c2 : j + 1 = x.cps.size → D1 ++ (⟨#[k]⟩ : PySem.Str) ++ PySem.Str.ofString "\n" = ⟨(D.cps.toList ++ x.cps.toList ++ [10]).toArray⟩ := by
              intro e3
              rw [c1, cat_text _ [10] (by decide +kernel), e3, ← hsz, List.take_length]
            have e3j : ((3 * (j + 1) : Nat) : Int) = ((3 * j : Nat) : Int) + 3 := by omega
            k_steps
            · exfalso
              omega
            · refine WTurn.of (d := D1 ++ (⟨#[k]⟩ : PySem.Str) ++ PySem.Str.ofString "\n") (by k_asm) (by k_asm) ⟨_, rfl⟩ (by rw [e3j]; exact ⟨_, rfl⟩) (fun z z1 z2 z3 => by simp only [if_neg z1, if_neg z2, if_neg z3]) (.inr ⟨?_, ?_⟩)
              · omega
              · exact c2 (by omega)
            · refine WTurn.of (d := D1 ++ (⟨#[k]⟩ : PySem.Str)) (by k_asm) (by k_asm) ⟨_, rfl⟩ (by rw [e3j]; exact ⟨_, rfl⟩) (fun z z1 z2 z3 => by simp only [if_neg z1, if_neg z2, if_neg z3]) (.inl ⟨?_, c1⟩)
              omega
          · have hl1 : D1 = ⟨(rowsL ((ws.take (i + 1)).map fun x => x.cps.toList)).toArray⟩ := by rw [hD, hrow, hDt, List.append_assoc]
            k_steps
            exact LoopTurn.next (by k_asm) (by k_asm) (dM_of ⟨_, rfl⟩ hl1 fun z z0 z1 z2 z3 z4 => by simp only [if_neg z0, if_neg z1, if_neg z2, if_neg z3, if_neg z4])
      · have hx0 : x.cps.toList = [] := by
          have : x.cps.toList.length = 0 := by show x.cps.size = 0; omega
          exact List.length_eq_zero_iff.mp this
        have hl1 : D ++ PySem.Str.ofString "\n" = ⟨(rowsL ((ws.take (i + 1)).map fun x => x.cps.toList)).toArray⟩ := by
          rw [cat_text D [10] (by decide +kernel), hrow, hDt, hx0]
          rfl
        exact LoopTurn.cont (by k_asm) (by k_asm) (dM_of ⟨_, rfl⟩ hl1 fun z z0 z1 z2 z3 z4 => by simp only [if_neg z0, if_neg z1, if_neg z2, if_neg z3, if_neg z4])
    · intro c u h tk hc F N
      obtain ⟨D, td, vi, vn, vc⟩ := c
      unfold dM at F
      dsimp only at F hc
      have hlen : (strValues l').length = ws.length := by
        have := congrArg List.length (hl'.trans hl)
        simpa [strValues] using this
      rw [hlen, List.take_length] at hc
      have hDl : D.length ≤ 100 := by
        have := rows_len ws fun y hy => (hw y hy).1
        have e9 : D.length = (rowsL (ws.map fun x => x.cps.toList)).length := by rw [hc]; rfl
        omega
      cases b with
      | true =>
        have hres := hres rfl
        k_steps
        exact cb_retS hret (hc.trans hres) (by k_asm) (by first | k_asm | exact cb_drop (by assumption) (fun p hp => List.mem_cons_of_mem _ hp))
      | false =>
        have hres' := hres' rfl
        rw [hres'] at hc
        have hLen : D.length = res.cps.toList.length + 1 := by
          rw [hc]
          show (res.cps.toList ++ [10]).toArray.size = _
          simp
        have hE : Txt.endswith D (PySem.Str.ofString "\n") = true := by
          have e1 : PySem.Str.ofString "\n" = ⟨#[10]⟩ := by decide +kernel
          unfold Txt.endswith Builtin.Str.subAt
          rw [e1]
          have e2 : (⟨#[10]⟩ : PySem.Str).length = 1 := rfl
          rw [e2, hLen, hc]
          simp
        have hS : Txt.slice D none (some (-((1 : Nat) : Int))) = res := by
          have e4 := eq_of_beq (slice_closes_to_neg (x := D) (j := -((1 : Nat) : Int)) (k := (res.cps.toList.length : Int)) (by decide) (by omega) (by omega))
          rw [e4, hc]
          simp
        k_steps
        exact cb_retS hret hS (by k_asm) (by first | k_asm | exact cb_drop (by assumption) (fun p hp => List.mem_cons_of_mem _ hp))
  · exfalso
    omega
end Mine
namespace Mine
theorem crlf_no : (List.range 71).all (fun d => Nat.blt d 48 || (Builtin.Str.occurrences (PySem.Str.ofString "\r\n") ⟨#[d]⟩ 0 (PySem.Str.ofString "\r\n").length 1).isEmpty) = true := by decide +kernel
theorem crlf_off {d : Nat} (h1 : 48 ≤ d) (h2 : d ≤ 70) : (!(Builtin.Str.occurrences (PySem.Str.ofString "\r\n") ⟨#[d]⟩ 0 (PySem.Str.ofString "\r\n").length 1).isEmpty) = false := by
  have e := List.all_eq_true.mp crlf_no d (List.mem_range.mpr (by omega))
  simp only [Bool.or_eq_true] at e
  rcases e with e | e
  · have := Nat.blt_eq.mp e; omega
  · rw [e]; rfl
theorem crlf_on : (!(Builtin.Str.occurrences (PySem.Str.ofString "\r\n") ⟨#[10]⟩ 0 (PySem.Str.ofString "\r\n").length 1).isEmpty) = true := by decide +kernel
theorem last_item {x : PySem.Str} {d : Nat} (h0 : 0 < x.length) (h : x.cps.toList[x.length - 1]? = some d) : Txt.item x (-1) = ⟨#[d]⟩ := by
  unfold Txt.item Txt.charAt
  rw [StrLaws.at_neg (i := -1) (by decide) (by omega) (by rw [show ((-1 : Int) + x.length).toNat = x.length - 1 from by omega]; simpa using h)]
  simp
theorem decode_word (w : World) (x : PySem.Str) (t0 : Tok) (hw : ∀ c ∈ x.cps.toList, c < 256) (hl : x.cps.size ≤ 2) (h0 : 0 < x.cps.size) : TellsR 8 80 w 101 [.str (figs x) t0] (fun t => .str x t) := by
  have hs := figs_size x
  have hwr : Wr (figs x) := figs_sign hw
  have hpos : 0 < (figs x).length := by omega
  obtain ⟨d, hd⟩ : ∃ d, (figs x).cps.toList[(figs x).length - 1]? = some d := ⟨_, List.getElem?_eq_getElem (by show _ < (figs x).length; omega)⟩
  have hdm := hwr d (List.mem_of_getElem? hd)
  refine decode_tells w (figs x) x [x] d false (last_item hpos hd) (crlf_off hdm.1 hdm.2) (fun q => nomatch q) (fun _ => by simp [rowsL]) t0 hpos (by omega) (by rw [lines_one hwr hpos]; rfl) ?_ (Nat.le_of_ble_eq_true rfl)
  intro y hy
  simp only [List.mem_cons, List.not_mem_nil, or_false] at hy
  subst hy
  exact ⟨hl, hw⟩
theorem rows_last : ∀ {ws : List (List Nat)}, ws ≠ [] → ∃ l, rowsL ws = l ++ [10]
  | [], h => absurd rfl h
  | [a], _ => ⟨a, by simp [rowsL]⟩
  | a :: b :: r, _ => by
    obtain ⟨l, e⟩ := rows_last (ws := b :: r) (by simp)
    refine ⟨a ++ [10] ++ l, ?_⟩
    have : rowsL (a :: b :: r) = a ++ [10] ++ rowsL (b :: r) := rfl
    rw [this, e, List.append_assoc]
    simp
theorem decode_rows (w : World) (ws : List PySem.Str) (t0 : Tok) (hn : ws ≠ []) (hw : ∀ x ∈ ws, x.cps.size ≤ 2 ∧ ∀ c ∈ x.cps.toList, c < 256) (hl : ws.length ≤ 10) (hsz : (rowsL (ws.map fun x => (figs x).cps.toList)).length ≤ 1000) :
    TellsR 8 80 w 101 [.str ⟨(rowsL (ws.map fun x => (figs x).cps.toList)).toArray⟩ t0] (fun t => .str ⟨(rowsL (ws.map fun x => x.cps.toList)).toArray⟩ t) := by
  obtain ⟨l, e⟩ := rows_last (ws := ws.map fun x => (figs x).cps.toList) (by simpa using hn)
  have hlen : (⟨(rowsL (ws.map fun x => (figs x).cps.toList)).toArray⟩ : PySem.Str).length = l.length + 1 := by
    rw [e]
    show (l ++ [10]).toArray.size = _
    simp
  refine decode_tells w _ _ ws 10 true (last_item (by omega) ?_) crlf_on (fun _ => rfl) (fun q => nomatch q) t0 (by omega) hsz ?_ hw hl
  · rw [hlen, e]
    simp
  · rw [lines_rows, List.map_map]
    · rfl
    · intro l' hl'
      obtain ⟨x, hx', rfl⟩ := List.mem_map.mp hl'
      exact figs_sign (hw x hx').2
end Mine
namespace Mine
theorem startDC : True := by
  w_top off
  trivial
local macro_rules | `(tactic| k_mem) => `(tactic| assumption)
set_option maxHeartbeats 4000000 in
theorem decode_none (w : World) (t0 : Tok) : TellsR 8 80 w 101 [.str ⟨#[]⟩ t0] (fun t => .str ⟨#[]⟩ t) := by
  unfold TellsR
  k_fill
  intros
  rename_i hret
  refine wpAny_call ?_
  k_dflt (refine' code_def ?k1 ?k2 ?k3 ?k4 ?k5 ?kA ?kF ?kK ?k6 ?k7 ?k8 ?k9 ?kB ?_ ?c2 ?c3 ?c4 ?c5; (case kA => exact rfl); (case kF => exact rfl); (case kK => assumption); (case k1 => k_asm); (case k2 => k_asm); (case k3 => k_asm); (case k4 => k_asm); (case k5 => k_asm); (case k6 => k_is); (case k7 => k_is); (case k8 => ktr_room); (case k9 => first | exact BindsTo.of_eq rfl | exact binds_K (by k_in) rfl (by k_is) rfl rfl rfl); (case c5 => decide); (case kB => exact locs rfl); (case c2 => exact rfl); (case c3 => exact rfl); (case c4 => exact rfl); k_whole; intro g' L' h' FG' F' N' B' X' T'; (try dsimp only); (try k_lift B'); (try k_fold))
  k_steps
  exact cb_retS hret rfl (by k_asm) (by k_asm)
theorem decode_any (w : World) (x : PySem.Str) (t0 : Tok) (hw : ∀ c ∈ x.cps.toList, c < 256) (hl : x.cps.size ≤ 2) : TellsR 8 80 w 101 [.str (figs x) t0] (fun t => .str x t) := by
  by_cases h0 : 0 < x.cps.size
  · exact decode_word w x t0 hw hl h0
  · obtain ⟨⟨l⟩⟩ := x
    match l, h0 with
    | [], _ => exact decode_none w t0
    | _ :: _, h => exact absurd (by simp) h
end Mine
namespace Mine
/-! sorted(list of texts, key = a def that gives the text back) -/
def upS (a b : PySem.Str) : Prop := ¬ b.cps.toList < a.cps.toList
theorem zs_kind {keys : Array Value} {ts : List PySem.Str} (hk : StrsAre keys.toList ts) (h2 : 2 ≤ keys.size) : keyKind' keys = pure oneType' := by
  have ek : keys = keys.toList.toArray := (Array.toArray_toList).symm
  have hl : keys.toList.length = keys.size := Array.length_toList
  generalize keys.toList = l at hk hl ek
  match l, hl with
  | [], hl => simp at hl; omega
  | [_], hl => simp at hl; omega
  | v₁ :: v₂ :: rest, _ => rw [ek]; exact keyKind_strs hk
theorem zs_pair {ks vs : List Value} {ts : List PySem.Str} : StrsAre ks ts → StrsAre vs ts → ∀ p ∈ ks.zip vs, ∃ (x : PySem.Str) (t u : Tok), p = (Value.str x t, Value.str x u) := by
  intro hk
  induction hk generalizing vs with
  | nil => intro _ p hp; simp at hp
  | cons x t _ ih =>
    intro hv p hp
    cases hv with
    | cons _ u hv =>
      rcases List.mem_cons.mp hp with rfl | hp
      · exact ⟨x, t, u, rfl⟩
      · exact ih hv p hp
theorem zs_zip (keys : Array Value) (vs : List Value) : (keys.zip vs.toArray).toList = keys.toList.zip vs := by
  cases keys; simp
theorem zs_keysOf {keys : Array Value} {vs : List Value} {ts : List PySem.Str} (hk : StrsAre keys.toList ts) (hv : StrsAre vs ts) : KeysOf strKind (keys.zip vs.toArray) := by
  intro p hp
  rw [zs_zip] at hp
  obtain ⟨x, t, u, rfl⟩ := zs_pair hk hv p hp
  exact ⟨x.cps.toList, rfl⟩
theorem zs_out {keys : Array Value} {vs : List Value} {ts : List PySem.Str} (hk : StrsAre keys.toList ts) (hv : StrsAre vs ts) {xs : Array Keyed} (hp : xs.Perm (keys.zip vs.toArray)) (hs : SortedToK strKind xs xs.size) :
    ∃ ts' : List PySem.Str, StrsAre (xs.map (·.2)).toList ts' ∧ ts'.Perm ts ∧ ts'.Pairwise upS := by
  have hl : xs.toList.Perm (keys.toList.zip vs) := by rw [← zs_zip]; exact Array.perm_iff_toList_perm.mp hp
  have hm : ∀ p ∈ xs.toList, ∃ (x : PySem.Str) (t u : Tok), p = (Value.str x t, Value.str x u) := fun p hp' => zs_pair hk hv p (hl.mem_iff.mp hp')
  have hlen : keys.toList.length = vs.length := (StrsAre.length hk).trans (StrsAre.length hv).symm
  refine ⟨(xs.toList.map (·.2)).map strOf, ?_, ?_, ?_⟩
  · rw [Array.toList_map]
    refine strsAre_map _ fun v hv' => ?_
    obtain ⟨p, hp', rfl⟩ := List.mem_map.mp hv'
    obtain ⟨x, t, u, rfl⟩ := hm p hp'
    exact ⟨x, u, rfl⟩
  · have h1 := (hl.map (·.2)).map strOf
    have e2 : (keys.toList.zip vs).map (·.2) = vs := List.map_snd_zip (Nat.le_of_eq hlen.symm)
    rw [e2, hv.strs] at h1
    exact h1
  · rw [List.pairwise_map, List.pairwise_map, List.pairwise_iff_getElem]
    intro i j hi hj hij
    have hi' : i < xs.size := by simpa using hi
    have hj' : j < xs.size := by simpa using hj
    have h1 := hs i j (Nat.le_of_lt hij) hj'
    obtain ⟨x, t, u, ex⟩ := hm xs[i] (by simp)
    obtain ⟨y, t', u', ey⟩ := hm xs[j] (by simp)
    rw [KK_str hi' ex, KK_str hj' ey] at h1
    change decide (y.cps.toList < x.cps.toList) = false at h1
    rw [Array.getElem_toList, Array.getElem_toList, ex, ey]
    exact of_decide_eq_false h1
theorem zs_snoc {x : PySem.Str} {t : Tok} : ∀ {vs : List Value} {ts : List PySem.Str}, StrsAre vs ts → StrsAre (vs ++ [.str x t]) (ts ++ [x])
  | _, _, .nil => .cons x t .nil
  | _, _, .cons y u h => .cons y u (zs_snoc h)
section
variable {prog : Program} {w : World} {A : Around} {E : Value → Shared → Prop} {s : Shared} {h₀ : Heap} {L : Addr} {m : Str → Option Value} {news : List (Addr × Obj)} {a kS : Addr} {vs : List Value} {ts : List PySem.Str} {keys : Array Value} {e e1 : Nat} {P : PySem.Fin → Shared → Prop}
set_option maxHeartbeats 4000000 in
theorem zs_tail {st : SortSt} (F : Fr h₀ L s.heap m) (N : News h₀ L s.heap (news ++ [(kS, seqObj "list" keys e), (a, seqObj "list" #[] e1)])) (hka : kS ≠ a) (hnk : ∀ p ∈ news, p.1 ≠ kS) (hna : ∀ p ∈ news, p.1 ≠ a)
    (hk : StrsAre keys.toList ts) (hv : StrsAre vs ts) (h64 : vs.length < 64) (hp : (arrOf st).Perm (keys.zip vs.toArray)) (hs : SortedToK strKind (arrOf st) (arrOf st).size) (hfl : failedOf st = none)
    (h : ∀ h' tk out c ts', Fr h₀ L h' m → News h₀ L h' ((a, seqObj "list" out c) :: news) → StrsAre out.toList ts' → ts'.Perm ts → ts'.Pairwise upS → P (.done (.ret .none)) { s with heap := h', toks := tk }) :
    wpAny (model prog w) A (ksk_tail a false e1 (.ref kS) st) P E s := by
  have nk := N (kS, seqObj "list" keys e) (List.mem_append_right _ (.head _))
  have na := N (a, seqObj "list" #[] e1) (List.mem_append_right _ (.tail _ (.head _)))
  have Nn : News h₀ L s.heap news := fun p hp => N p (List.mem_append_left _ hp)
  have hlen := StrsAre.length hk
  have hlen2 := StrsAre.length hv
  rw [Array.length_toList] at hlen
  have hsz2 : (arrOf st).size = vs.length := by rw [hp.size_eq, Array.size_zip, show vs.toArray.size = vs.length from rfl]; omega
  have hout : ((arrOf st).map (·.2)).size = vs.length := by rw [Array.size_map]; exact hsz2
  have s1 := Heap.SameBut.update s.heap kS (Obj.mapSeq fun _ => (#[] : Array Value))
  have na1 : (s.heap.update kS (Obj.mapSeq fun _ => (#[] : Array Value))).get? a = some (seqObj "list" #[] e1) := (s1.2 a hka.symm).trans na.1
  have s2 := Heap.SameBut.update (s.heap.update kS (Obj.mapSeq fun _ => (#[] : Array Value))) a (Obj.mapSeq fun _ => (arrOf st).map (·.2))
  obtain ⟨c2, hc2⟩ : ∃ c2, ((s.heap.update kS (Obj.mapSeq fun _ => (#[] : Array Value))).update a (Obj.mapSeq fun _ => (arrOf st).map (·.2))).get? a = some (seqObj "list" ((arrOf st).map (·.2)) c2) :=
    ⟨_, get?_update_seq na1 fun _ => (arrOf st).map (·.2)⟩
  have N2 := ksk_news (ksk_news Nn s1 hnk) s2 hna
  obtain ⟨ts', o1, o2, o3⟩ := zs_out hk hv hp hs
  unfold ksk_tail
  simp only [Bool.false_eq_true, if_false]
  refine wpAny_bind (listUpdate_at nk.1 rfl ?_ (by rw [sizeLine_eq]; omega) (Nat.zero_le _))
  refine wpAny_bind (wpAny_letGo ?_)
  refine wpAny_bind (seqEpoch_at na1 rfl ?_)
  refine wpAny_bind (listUpdate_at na1 rfl ?_ (Nat.zero_le _) (Nat.le_trans (Nat.le_of_eq hout) (by rw [sizeLine_eq]; omega)))
  rw [hfl]
  simp only [bne_self_eq_false, Bool.false_eq_true, if_false]
  refine wpAny_pure (h _ _ _ c2 ts' (ksk_fr (ksk_fr F s1 nk.2.1 nk.2.2) s2 na.2.1 na.2.2) (fun p hp => ?_) o1 o2 o3)
  rcases List.mem_cons.mp hp with rfl | hp
  · exact ⟨hc2, na.2⟩
  · exact N2 p hp
set_option maxHeartbeats 4000000 in
theorem zs_end (F : Fr h₀ L s.heap m) (N : News h₀ L s.heap (news ++ [(kS, seqObj "list" keys e), (a, seqObj "list" #[] e1)])) (hka : kS ≠ a) (hnk : ∀ p ∈ news, p.1 ≠ kS) (hna : ∀ p ∈ news, p.1 ≠ a)
    (hk : StrsAre keys.toList ts) (hv : StrsAre vs ts) (h64 : vs.length < 64)
    (h : ∀ h' tk out c ts', Fr h₀ L h' m → News h₀ L h' ((a, seqObj "list" out c) :: news) → StrsAre out.toList ts' → ts'.Perm ts → ts'.Pairwise upS → P (.done (.ret .none)) { s with heap := h', toks := tk }) :
    wpAny (model prog w) A (ksk_end a false vs.toArray e1 (.ref kS) keys) P E s := by
  have hlen := StrsAre.length hk
  have hlen2 := StrsAre.length hv
  rw [Array.length_toList] at hlen
  have hzs : (keys.zip vs.toArray).size = vs.length := by rw [Array.size_zip, show vs.toArray.size = vs.length from rfl]; omega
  unfold ksk_end
  simp only [Bool.false_eq_true, if_false]
  by_cases h2 : vs.toArray.size < 2
  · rw [if_pos h2, if_pos h2]
    refine wpAny_bind (wpAny_pure ?_)
    rw [StateT.run_pure]
    refine wpAny_bind (wpAny_pure ?_)
    dsimp only
    refine zs_tail (st := SortSt.mk' general' (keys.zip vs.toArray) #[] 7 none) F N hka hnk hna hk hv h64 (Array.Perm.refl _) ?_ rfl h
    intro i j hij hj
    have hj2 : j < (keys.zip vs.toArray).size := hj
    rw [List.size_toArray] at h2
    have : i = j := by omega
    subst this
    exact KeyOrd.kle_refl _
  · rw [if_neg h2, if_neg h2]
    rw [List.size_toArray] at h2
    rw [zs_kind hk (by omega)]
    refine wpAny_bind (wpAny_pure ?_)
    refine wpAny_bind (wpAny_mono (wpS_sortRunsK (κ := strKind) strKind_oneLt (a₀ := keys.zip vs.toArray) (st := SortSt.mk' oneType' (keys.zip vs.toArray) #[] 7 none)
      (Q := fun _ st' => (arrOf st').Perm (keys.zip vs.toArray) ∧ failedOf st' = none ∧ SortedToK strKind (arrOf st') (keys.zip vs.toArray).size)
      (zs_keysOf hk hv) ⟨Array.Perm.refl _, rfl, rfl, rfl⟩ (by rw [hzs]; omega) (by rw [hzs]; exact h64) fun st' a1 a2 a3 => ⟨a1, a2, a3⟩) ?_ fun _ _ e => e)
    rintro ⟨⟨⟩, st'⟩ s' ⟨rfl, hp, hf, hs⟩
    dsimp only
    exact zs_tail F N hka hnk hna hk hv h64 hp (by rw [hp.size_eq]; exact hs) hf h
/-- a key's call -/
def KeyEnd (h₀ : Heap) (L : Addr) (m : Str → Option Value) (need : List (Addr × Obj)) (x : PySem.Str) (s₁ : Shared) (v : Value) (s₂ : Shared) : Prop :=
  ∃ h' tk t', s₂ = { s₁ with heap := h', toks := tk } ∧ v = .str x t' ∧ Fr h₀ L h' m ∧ News h₀ L h' need
set_option maxHeartbeats 4000000 in
theorem zs_rest {f : Value} (F : Fr h₀ L s.heap m) (N : News h₀ L s.heap (news ++ [(kS, seqObj "list" #[] 0), (a, seqObj "list" #[] e1)])) (hka : kS ≠ a) (hnk : ∀ p ∈ news, p.1 ≠ kS) (hna : ∀ p ∈ news, p.1 ≠ a)
    (hv : StrsAre vs ts) (h64 : vs.length < 64)
    (turn : ∀ (x : PySem.Str) (t : Tok) (h : Heap) (tk : Nat) (nw : List (Addr × Obj)), Fr h₀ L h m → News h₀ L h nw →
      wpAny (model prog w) A (call f [.str x t]) (KeyEnd h₀ L m nw x { s with heap := h, toks := tk }) (fun _ _ => False) { s with heap := h, toks := tk })
    (h : ∀ h' tk out c ts', Fr h₀ L h' m → News h₀ L h' ((a, seqObj "list" out c) :: news) → StrsAre out.toList ts' → ts'.Perm ts → ts'.Pairwise upS → P (.done (.ret .none)) { s with heap := h', toks := tk }) :
    wpAny (model prog w) A (ksk_rest a f false vs.toArray e1 (.ref kS)) P E s := by
  have hlen2 := StrsAre.length hv
  unfold ksk_rest
  refine wpAny_bind (wpAny_rule ?_)
  rw [List.forIn_toArray]
  refine wpAny_bind (ksk_fold (fun i s' => ∃ h' tk kA e, s' = { s with heap := h', toks := tk } ∧ Fr h₀ L h' m ∧ News h₀ L h' (news ++ [(kS, seqObj "list" kA e), (a, seqObj "list" #[] e1)]) ∧ StrsAre kA.toList (ts.take i)) vs 0 s
    ⟨s.heap, s.toks, #[], 0, rfl, F, N, .nil⟩ ?step ?done)
  case step =>
    rintro j x s' hx ⟨h', tk, kA, e, rfl, F', N', hk⟩
    simp only [Nat.zero_add] at hk ⊢
    obtain ⟨y, t, rfl, hy⟩ := StrsAre.item hv j x hx
    have hj : j < vs.length := (List.getElem?_eq_some_iff.mp hx).1
    have hz := StrsAre.length hk
    rw [Array.length_toList, List.length_take] at hz
    refine wpAny_bind (wpAny_attempt (wpAny_mono (turn y t h' tk _ F' N') (fun v s'' he => ?_) fun _ _ hF => hF.elim))
    obtain ⟨g, tk2, t2, rfl, rfl, F2, N2⟩ := he
    dsimp only
    have nk := N2 (kS, seqObj "list" kA e) (List.mem_append_right _ (.head _))
    have na := N2 (a, seqObj "list" #[] e1) (List.mem_append_right _ (.tail _ (.head _)))
    have s1 := Heap.SameBut.update g kS (Obj.mapSeq (·.push (.str y t2)))
    obtain ⟨c2, hc2⟩ : ∃ c2, (g.update kS (Obj.mapSeq (·.push (.str y t2)))).get? kS = some (seqObj "list" (kA.push (.str y t2)) c2) := ⟨_, get?_update_seq nk.1 (·.push (.str y t2))⟩
    have ek : ts.take (j + 1) = ts.take j ++ [y] := by rw [List.take_add_one, hy]; rfl
    have ea : (kA.push (Value.str y t2)).toList = kA.toList ++ [Value.str y t2] := by simp
    refine wpAny_bind (listUpdate_at nk.1 rfl ?_ (by rw [sizeLine_eq]; omega) (Nat.le_trans (Nat.le_of_eq (Array.size_push ..)) (by rw [sizeLine_eq]; omega)))
    refine wpAny_pure ⟨rfl, _, _, kA.push (.str y t2), c2, rfl, ksk_fr F2 s1 nk.2.1 nk.2.2, fun p hp => ?_, by rw [ea, ek]; exact zs_snoc hk⟩
    rcases List.mem_append.mp hp with hp | hp
    · exact ksk_news (fun q hq => N2 q (List.mem_append_left _ hq)) s1 hnk p hp
    · rcases List.mem_cons.mp hp with rfl | hp
      · exact ⟨hc2, nk.2⟩
      · rw [List.mem_singleton.mp hp]
        exact ⟨(s1.2 a hka.symm).trans na.1, na.2⟩
  case done =>
    rintro s' ⟨h', tk, kA, e, rfl, F', N', hk⟩
    have hk' : StrsAre kA.toList ts := by
      have e3 : ts.take (0 + vs.length) = ts := List.take_of_length_le (by omega)
      rw [e3] at hk
      exact hk
    have nk := N' (kS, seqObj "list" kA e) (List.mem_append_right _ (.head _))
    refine wpAny_bind (listItems_at nk.1 rfl ?_)
    exact zs_end F' N' hka hnk hna hk' hv h64 fun h3 tk3 out c ts' F3 N3 k1 k2 k3 => h h3 tk3 out c ts' F3 N3 k1 k2 k3
theorem zs_sort {f : Value} {n : Nat} (F : Fr h₀ L s.heap m) (N : News h₀ L s.heap news) (ho : s.heap.get? a = some (seqObj "list" vs.toArray n)) (haL : a ≠ L) (ha0 : h₀.get? a = none) (hna : ∀ p ∈ news, p.1 ≠ a)
    (hv : StrsAre vs ts) (h64 : vs.length < 64)
    (turn : ∀ (x : PySem.Str) (t : Tok) (h : Heap) (tk : Nat) (nw : List (Addr × Obj)), Fr h₀ L h m → News h₀ L h nw →
      wpAny (model prog w) A (call f [.str x t]) (KeyEnd h₀ L m nw x { s with heap := h, toks := tk }) (fun _ _ => False) { s with heap := h, toks := tk })
    (h : ∀ h' tk out c ts', Fr h₀ L h' m → News h₀ L h' ((a, seqObj "list" out c) :: news) → StrsAre out.toList ts' → ts'.Perm ts → ts'.Pairwise upS → P (.done (.ret .none)) { s with heap := h', toks := tk }) :
    wpAny (model prog w) A (ksk_tree a f false) P E s := by
  have ha : a < s.heap.objs.size := Heap.lt_size ho
  have s1 := Heap.SameBut.update s.heap a (Obj.mapSeq fun _ => (#[] : Array Value))
  obtain ⟨e1, ho1⟩ : ∃ e1, (s.heap.update a (Obj.mapSeq fun _ => (#[] : Array Value))).get? a = some (seqObj "list" #[] e1) := ⟨_, get?_update_seq ho fun _ => #[]⟩
  have F1 := ksk_fr F s1 haL ha0
  have N1 := ksk_news N s1 hna
  have hkS : ((s.heap.update a (Obj.mapSeq fun _ => (#[] : Array Value))).push (seqObj "tuple" vs.toArray 0)).objs.size = s.heap.objs.size + 1 := by rw [Heap.size_push, Heap.size_update]
  have hLk : L < ((s.heap.update a (Obj.mapSeq fun _ => (#[] : Array Value))).push (seqObj "tuple" vs.toArray 0)).objs.size := (F1.push _).ns.lt
  unfold ksk_tree
  refine wpAny_bind (listItems_at ho rfl ?_)
  refine wpAny_bind (listUpdate_at ho rfl ?_ (by rw [List.size_toArray, sizeLine_eq]; omega) (Nat.zero_le _))
  refine wpAny_bind (seqEpoch_at ho1 rfl ?_)
  refine wpAny_bind (wpAny_newTuple ?_ (by show vs.length ≤ _; rw [sizeLine_eq]; omega))
  refine wpAny_bind (wpAny_newList ?_ (Nat.zero_le _))
  refine wpAny_holding ?_
  refine zs_rest (s := { s with heap := ((s.heap.update a (Obj.mapSeq fun _ => (#[] : Array Value))).push (seqObj "tuple" vs.toArray 0)).push (seqObj "list" #[] 0) }) (kS := ((s.heap.update a (Obj.mapSeq fun _ => (#[] : Array Value))).push (seqObj "tuple" vs.toArray 0)).objs.size)
    ((F1.push _).push _) (fun p hp => ?_) (by rw [hkS]; exact Nat.ne_of_gt (Nat.lt_succ_of_lt ha)) (fun p hp => by rw [hkS]; exact Nat.ne_of_lt (Nat.lt_succ_of_lt (Heap.lt_size (N p hp).1))) hna hv h64 turn h
  rcases List.mem_append.mp hp with hp | hp
  · exact ⟨Heap.get?_push_of_some _ (Heap.get?_push_of_some _ (N1 p hp).1), (N1 p hp).2⟩
  · rcases List.mem_cons.mp hp with rfl | hp
    · exact ⟨Heap.get?_push_size _ rfl, Nat.ne_of_gt hLk, Heap.get?_none_of_le (Nat.le_trans F.above (Nat.le_of_lt hLk))⟩
    · rw [List.mem_singleton.mp hp]
      exact ⟨Heap.get?_push_of_some _ (Heap.get?_push_of_some _ ho1), haL, ha0⟩
theorem zs_sorted {l f : Addr} {Q : Value → Shared → Prop} (F : Fr h₀ L s.heap m) (N : News h₀ L s.heap news) (hl : s.heap.IsList l vs.toArray) (hv : StrsAre vs ts) (h64 : vs.length < 64)
    (turn : ∀ (x : PySem.Str) (t : Tok) (h : Heap) (tk : Nat) (nw : List (Addr × Obj)), Fr h₀ L h m → News h₀ L h nw →
      wpAny (model prog w) A.in1.in1 (call (.ref f) [.str x t]) (KeyEnd h₀ L m nw x { s with heap := h, toks := tk }) (fun _ _ => False) { s with heap := h, toks := tk })
    (h : ∀ D h' tk out c ts', Fr h₀ L h' m → News h₀ L h' ((D, seqObj "list" out c) :: news) → (∀ q ∈ news, q.1 < D) → StrsAre out.toList ts' → ts'.Perm ts → ts'.Pairwise upS → Q (.ref D) { s with heap := h', toks := tk }) :
    wpAny (model prog w) A (call (.builtin "sorted") [.ref l] [(Str.ofString "key", .ref f)]) Q E s := by
  refine call_function_entry_kw kind_sorted plain_sorted entry_sorted (ksk_s1 _ _) ?_
  unfold Builtin.«sorted»
  refine wpAny_bind (m := checkCount "sorted" 1 1 _) (wpAny_pure ?_)
  refine wpAny_bind (collect_list hl ?_ (by rw [sizeLine_eq]; omega))
  refine wpAny_bind (wpAny_newList ?_ (by rw [sizeLine_eq]; omega))
  have hsz : ((s.heap.push (seqObj "list" #[] 0)).update s.heap.objs.size (Obj.mapSeq (· ++ vs.toArray))).objs.size = s.heap.objs.size + 1 := by
    rw [Heap.size_update, Heap.size_push]
  have hoL : (((s.heap.push (seqObj "list" #[] 0)).update s.heap.objs.size (Obj.mapSeq (· ++ vs.toArray))).push (seqObj "list" vs.toArray 0)).get? (s.heap.objs.size + 1) = some (seqObj "list" vs.toArray 0) := by
    rw [← hsz]; exact Heap.get?_push_size _ rfl
  have keep : ∀ b o, s.heap.get? b = some o → (((s.heap.push (seqObj "list" #[] 0)).update s.heap.objs.size (Obj.mapSeq (· ++ vs.toArray))).push (seqObj "list" vs.toArray 0)).get? b = some o := fun b o q => by
    have hlt : b < s.heap.objs.size := Heap.lt_size q
    rw [Heap.get?_push_ne _ _ _ (by rw [hsz]; exact Nat.ne_of_lt (Nat.lt_succ_of_lt hlt)), Heap.get?_update_ne _ _ _ _ (Nat.ne_of_lt hlt), Heap.get?_push_ne _ _ _ (Nat.ne_of_lt hlt)]
    exact q
  have hL : L < s.heap.objs.size := F.ns.lt
  show wpAny _ _ _ _ _ { s with heap := ((s.heap.push (seqObj "list" #[] 0)).update s.heap.objs.size (Obj.mapSeq (· ++ vs.toArray))).push (seqObj "list" vs.toArray 0) }
  rw [hsz]
  refine wpAny_bind (wpAny_holding (wpAny_call_entry_kw slot_list_sort ⟨_, hoL, rfl⟩ entry_list_sort ?body (ksk_l1 _ _)))
  case body =>
    show wpAny (model prog w) A.in1.in1 (Builtin.«list.sort» ⟨[.ref (s.heap.objs.size + 1)], [(Str.ofString "key", .ref f)]⟩) _ _ _
    rw [ksk_t1]
    refine zs_sort (s := { s with heap := ((s.heap.push (seqObj "list" #[] 0)).update s.heap.objs.size (Obj.mapSeq (· ++ vs.toArray))).push (seqObj "list" vs.toArray 0) })
      (F.kept keep) (N.grown keep) hoL (Nat.ne_of_gt (Nat.lt_succ_of_lt hL)) (Heap.get?_none_of_le (Nat.le_trans F.above (Nat.le_succ_of_le (Nat.le_of_lt hL))))
      (fun p hp => Nat.ne_of_lt (Nat.lt_succ_of_lt (Heap.lt_size (N p hp).1))) hv h64 turn fun h' tk out c ts' F' N' k1 k2 k3 => ⟨_, rfl, ?_⟩
    exact wpAny_pure ⟨_, rfl, h _ h' tk out c ts' F' N' (fun q hq => Nat.lt_succ_of_lt (Heap.lt_size (N q hq).1)) k1 k2 k3⟩
end
end Mine
namespace Mine
/-! plain laws: the look, the figures, the rising order -/
theorem lex_lt_iff (a b : List Nat) : lexI a b = -1 ↔ a < b := by
  rw [← lex_lt]
  by_cases h1 : b < a
  · have h2 : ¬ a < b := fun h => List.lt_irrefl _ (List.lt_trans h1 h)
    simp [h1, h2, b2i]
  · by_cases h2 : a < b <;> simp [h1, h2, b2i]
theorem lex_swap (a b : List Nat) : lexI b a = 0 - lexI a b := by
  rw [← lex_lt, ← lex_lt]
  omega
theorem lex_le_iff (a b : List Nat) : lexI a b ≤ 0 ↔ ¬ b < a := by
  rw [← lex_lt_iff, lex_swap a b]
  have h3 : lexI a b = -1 ∨ lexI a b = 0 ∨ lexI a b = 1 := by
    rw [← lex_lt]
    by_cases h1 : b < a <;> by_cases h2 : a < b <;> simp [h1, h2, b2i]
  omega
theorem hd_mono : (List.range 16).all (fun a => (List.range 16).all fun b => (decide (a < b) == decide (hd a < hd b)) && (decide (a = b) == decide (hd a = hd b))) = true := by decide +kernel
theorem hd_lt_iff {a b : Nat} (ha : a < 16) (hb : b < 16) : (hd a < hd b ↔ a < b) ∧ (hd a = hd b ↔ a = b) := by
  have h := List.all_eq_true.mp (List.all_eq_true.mp hd_mono a (List.mem_range.mpr ha)) b (List.mem_range.mpr hb)
  simp only [Bool.and_eq_true, beq_iff_eq, decide_eq_decide] at h
  exact ⟨h.1.symm, h.2.symm⟩
theorem lex_figs : ∀ {a b : List Nat}, (∀ c ∈ a, c < 256) → (∀ c ∈ b, c < 256) → lexI (figL a) (figL b) = lexI a b
  | [], [], _, _ => rfl
  | [], _ :: _, _, _ => rfl
  | _ :: _, [], _, _ => rfl
  | c :: r, d :: t, ha, hb => by
    have ih := lex_figs (a := r) (b := t) (fun x hx => ha x (List.mem_cons_of_mem _ hx)) (fun x hx => hb x (List.mem_cons_of_mem _ hx))
    have hc := ha c List.mem_cons_self
    have hd' := hb d List.mem_cons_self
    have e1 : figL (c :: r) = 61 :: hd (c / 16) :: hd (c % 16) :: figL r := rfl
    have e2 : figL (d :: t) = 61 :: hd (d / 16) :: hd (d % 16) :: figL t := rfl
    obtain ⟨q1, q2⟩ := hd_lt_iff (a := c / 16) (b := d / 16) (by omega) (by omega)
    obtain ⟨q3, q4⟩ := hd_lt_iff (a := c % 16) (b := d % 16) (by omega) (by omega)
    rw [e1, e2]
    simp only [lexI, if_true, q1, q2, q3, q4, ih]
    by_cases h1 : c = d
    · subst h1
      simp
    · rw [if_neg h1]
      by_cases h2 : c / 16 = d / 16
      · have h3 : ¬ c % 16 = d % 16 := by omega
        rw [if_pos h2, if_neg h3]
        by_cases h4 : c % 16 < d % 16
        · rw [if_pos h4, if_pos (by omega)]
        · rw [if_neg h4, if_neg (by omega)]
      · rw [if_neg h2]
        by_cases h4 : c / 16 < d / 16
        · rw [if_pos h4, if_pos (by omega)]
        · rw [if_neg h4, if_neg (by omega)]
theorem upS_figs {a b : PySem.Str} (ha : ∀ c ∈ a.cps.toList, c < 256) (hb : ∀ c ∈ b.cps.toList, c < 256) (h : upS a b) : upS (figs a) (figs b) := by
  unfold upS at *
  rw [← lex_le_iff] at *
  show lexI (figL a.cps.toList) (figL b.cps.toList) ≤ 0
  rw [lex_figs ha hb]
  exact h
theorem upS_anti {a b : PySem.Str} (h1 : upS a b) (h2 : upS b a) : a = b := by
  obtain ⟨⟨a⟩⟩ := a
  obtain ⟨⟨b⟩⟩ := b
  have : a = b := List.le_antisymm (List.not_lt.mp h1) (List.not_lt.mp h2)
  rw [this]
theorem upS_trans {a b c : PySem.Str} (h1 : upS a b) (h2 : upS b c) : upS a c := by
  unfold upS at *
  exact List.not_lt.mpr (List.le_trans (List.not_lt.mp h1) (List.not_lt.mp h2))
theorem upS_total (a b : PySem.Str) : upS a b ∨ upS b a := by
  unfold upS
  by_cases h : b.cps.toList < a.cps.toList
  · exact .inr fun h' => List.lt_irrefl _ (List.lt_trans h h')
  · exact .inl h
theorem sorted_one {l1 l2 : List PySem.Str} (h1 : l1.Pairwise upS) (h2 : l2.Pairwise upS) (p : l1.Perm l2) : l1 = l2 :=
  List.Perm.eq_of_pairwise (fun _ _ _ _ => upS_anti) h1 h2 p
/-- the law's own insertion -/
noncomputable def leB (o w : PySem.Str) : Bool := decide (lexI o.cps.toList w.cps.toList ≤ 0)
noncomputable def riseN (told : List PySem.Str) (w : PySem.Str) : Nat := (told.filter fun o => leB o w).length
noncomputable def rise (told : List PySem.Str) (w : PySem.Str) : List PySem.Str := told.take (riseN told w) ++ [w] ++ told.drop (riseN told w)
noncomputable def rising (ts : List PySem.Str) : List PySem.Str := ts.foldl rise []
theorem leB_iff (o w : PySem.Str) : leB o w = true ↔ upS o w := by
  unfold leB upS
  rw [decide_eq_true_iff, lex_le_iff]
theorem rise_split : ∀ {told : List PySem.Str} (w : PySem.Str), told.Pairwise upS → (∀ x ∈ told.take (riseN told w), upS x w) ∧ (∀ x ∈ told.drop (riseN told w), upS w x)
  | [], _, _ => ⟨fun _ h => by simp at h, fun _ h => by simp at h⟩
  | o :: r, w, h => by
    obtain ⟨h1, h2⟩ := List.pairwise_cons.mp h
    by_cases ho : leB o w = true
    · obtain ⟨i1, i2⟩ := rise_split w h2
      have e : riseN (o :: r) w = riseN r w + 1 := by
        unfold riseN
        rw [List.filter_cons_of_pos (p := fun o => leB o w) ho, List.length_cons]
      rw [e]
      refine ⟨fun x hx => ?_, fun x hx => i2 x hx⟩
      rcases List.mem_cons.mp hx with rfl | hx
      · exact (leB_iff _ _).mp ho
      · exact i1 x hx
    · have hn : ∀ x ∈ r, ¬ leB x w = true := fun x hx q => ho ((leB_iff _ _).mpr (upS_trans (h1 x hx) ((leB_iff _ _).mp q)))
      have e : riseN (o :: r) w = 0 := by
        unfold riseN
        rw [List.filter_cons_of_neg (p := fun o => leB o w) ho, List.filter_eq_nil_iff.mpr hn]
        rfl
      rw [e]
      refine ⟨fun x hx => by simp at hx, fun x hx => ?_⟩
      rcases upS_total w x with q | q
      · exact q
      · exfalso
        rcases List.mem_cons.mp hx with rfl | hx
        · exact ho ((leB_iff _ _).mpr q)
        · exact hn x hx ((leB_iff _ _).mpr q)
theorem rise_perm (told : List PySem.Str) (w : PySem.Str) : (rise told w).Perm (w :: told) := by
  unfold rise
  rw [List.append_assoc]
  have h : (List.take (riseN told w) told ++ ([w] ++ List.drop (riseN told w) told)).Perm (w :: (List.take (riseN told w) told ++ List.drop (riseN told w) told)) := List.perm_middle
  rwa [List.take_append_drop] at h
theorem rise_up {told : List PySem.Str} (w : PySem.Str) (h : told.Pairwise upS) : (rise told w).Pairwise upS := by
  obtain ⟨h1, h2⟩ := rise_split w h
  have hs : (told.take (riseN told w) ++ told.drop (riseN told w)).Pairwise upS := by rw [List.take_append_drop]; exact h
  obtain ⟨s1, s2, s3⟩ := List.pairwise_append.mp hs
  unfold rise
  rw [List.append_assoc]
  refine List.pairwise_append.mpr ⟨s1, List.pairwise_append.mpr ⟨List.pairwise_singleton _ _, s2, fun a ha b hb => ?_⟩, fun a ha b hb => ?_⟩
  · rw [List.mem_singleton.mp ha]
    exact h2 b hb
  · rcases List.mem_append.mp hb with hb | hb
    · rw [List.mem_singleton.mp hb]
      exact h1 a ha
    · exact s3 a ha b hb
theorem rising_go : ∀ (ts told : List PySem.Str), told.Pairwise upS → (ts.foldl rise told).Pairwise upS ∧ (ts.foldl rise told).Perm (told ++ ts)
  | [], told, h => ⟨h, by rw [List.append_nil]; exact .refl _⟩
  | w :: r, told, h => by
    obtain ⟨i1, i2⟩ := rising_go r (rise told w) (rise_up w h)
    refine ⟨i1, i2.trans (((rise_perm told w).append_right r).trans ?_)⟩
    exact (List.perm_middle (a := w) (l₁ := told) (l₂ := r)).symm
theorem rising_up (ts : List PySem.Str) : (rising ts).Pairwise upS := (rising_go ts [] .nil).1
theorem rising_perm (ts : List PySem.Str) : (rising ts).Perm ts := (rising_go ts [] .nil).2
theorem rising_snoc (ts : List PySem.Str) (w : PySem.Str) : rising (ts ++ [w]) = rise (rising ts) w := by
  unfold rising
  rw [List.foldl_append]
  rfl
theorem sorted_is {l ts : List PySem.Str} (h : l.Pairwise upS) (p : l.Perm ts) : l = rising ts := sorted_one h (rising_up ts) (p.trans (rising_perm ts).symm)
theorem sorted_figs {l ts : List PySem.Str} (hw : ∀ x ∈ ts, ∀ c ∈ x.cps.toList, c < 256) (h : l.Pairwise upS) (p : l.Perm (ts.map figs)) : l = (rising ts).map figs := by
  refine sorted_one h ?_ (p.trans ((rising_perm ts).map figs).symm)
  rw [List.pairwise_map]
  refine (rising_up ts).imp_of_mem fun {a b} ha hb q => upS_figs (hw a ((rising_perm ts).mem_iff.mp ha)) (hw b ((rising_perm ts).mem_iff.mp hb)) q
end Mine
namespace Mine
section
variable {prog : Program} {w : World} {A : Around} {E : Value → Shared → Prop} {s : Shared} {h₀ : Heap} {L : Addr} {m : Str → Option Value} {env : Env}
/-- a comprehension with a test, by what holds of the items taken -/
theorem comp_restT {ct elt : PySem.Expr} {x : Str} {scope : Scope} {cl : List (Str × Addr)} {S : List (Addr × Obj) → Prop} {P : Nat → Value → Prop} {Fin : List Value → List (Addr × Obj) → Prop} {n : Nat} {news : List (Addr × Obj)} (J : Nat → List Value → Prop) (hS : S news) (h0 : J 0 [])
    (turn : ∀ (i : Nat) (v : Value) (ys : List Value) (C : Addr) (oC : Obj) (m₂ : Str → Option Value) (h : Heap) (tk : Nat) (E' : Value → Shared → Prop) (nw : List (Addr × Obj)), i < n → P i v → J i ys → LCg.NsObj oC m₂ → m₂ x = some v → Fr h₀ L h m → News h₀ L h nw → (C, oC) ∈ nw → (∀ p ∈ news, p ∈ nw) →
      wpAny (model prog w) A (isTrue ct (compEnvC scope cl C env) (eval ct (compEnvC scope cl C env))) (fun ok s' => if ok = true then wpAny (model prog w) A (eval elt (compEnvC scope cl C env)) (TurnEnd h₀ L m s nw (fun y => J (i + 1) (ys ++ [y]))) E' s'
        else TurnEnd h₀ L m s nw (fun _ => J (i + 1) ys) Value.none s') E' { s with heap := h, toks := tk })
    (fin : ∀ ys : List Value, J n ys → Fin ys news) :
    LCt.CompRestT prog w A h₀ L m env ct elt x scope cl s S P Fin n 0 [] news := by
  have key : ∀ (k i : Nat) (ys : List Value), i + k = n → J i ys → LCt.CompRestT prog w A h₀ L m env ct elt x scope cl s S P Fin k i ys news := by
    intro k
    induction k with
    | zero =>
      intro i ys hn hJ
      have e : i = n := by omega
      subst e
      exact LCt.CompRestT.zero (fin ys hJ)
    | succ k ih =>
      intro i ys hn hJ
      refine LCt.CompRestT.succ ?_
      intro v I oI C oC D m₂ h tk E' hP hC hx F N off ne
      refine wpAny_mono (turn i v ys C oC m₂ h tk E' _ (by omega) hP hJ hC hx F N (by simp) (fun p hp => by simp [hp])) (fun ok s' h' => ?_) fun _ _ e => e
      cases ok with
      | true =>
        simp only [if_true] at h' ⊢
        refine wpAny_mono h' (fun y s' h' => ?_) fun _ _ e => e
        obtain ⟨h', tk', e, F', N', hg⟩ := h'
        exact ⟨h', tk', news, e, F', N', off, hS, ih (i + 1) (ys ++ [y]) (by omega) hg⟩
      | false =>
        simp only [Bool.false_eq_true, if_false] at h' ⊢
        obtain ⟨h', tk', e, F', N', hg⟩ := h'
        exact ⟨h', tk', news, e, F', N', off, hS, ih (i + 1) ys (by omega) hg⟩
  exact key n 0 [] (by omega) h0
/-- a source that the walk is to leave to us -/
def Src1T (prog : Program) (w : World) (A : Around) (h₀ : Heap) (L : Addr) (m : Str → Option Value) (env : Env) (ct elt : PySem.Expr) (x : Str) (scope : Scope) (cl : List (Str × Addr)) (Fin : Shared → List Value → List (Addr × Obj) → Prop) (xv : Value) (s₁ : Shared) : Prop := LCt.CompSrcT prog w A h₀ L m env ct elt x scope cl Fin xv s₁
theorem ListComp_1T {ct elt iter : PySem.Expr} {x : Str} {px : Pos} {scope : Scope} {cl : List (Str × Addr)} {pos : Pos} {Q : Value → Shared → Prop} (F₀ : Fr h₀ L s.heap m)
    (hclos : closureFor scope env = pure cl) (hcell : ∀ y ∈ scope.names, y.2 ≠ .cell) (hkind : scope.kind = .function)
    (hnames : ∀ y ∈ scope.names, y.2 = .local → scope.names.lookup y.1 = some .local) (hx : scope.names.lookup x = some .local)
    (h : wpAny (model prog w) A (eval iter env) (Src1T prog w A h₀ L m env ct elt x scope cl (fun s₂ => LCg.FinE h₀ L m s₂ Q)) E s)
    (hs : ∀ x, foldedSetIterable iter env x = pure x := by intro _; rfl) :
    wpAny (model prog w) A (eval (.ListComp elt [⟨.Name x px, iter, [ct], 0⟩] scope pos) env) Q E s := LCt.ListComp_T F₀ hclos hcell hkind hnames hx h hs
/-- a text as the source of a comprehension with a test -/
def SrcStrT (prog : Program) (w : World) (A : Around) (h₀ : Heap) (L : Addr) (m : Str → Option Value) (env : Env) (ct elt : PySem.Expr) (x : Str) (scope : Scope) (cl : List (Str × Addr)) (Fin : Shared → List Value → List (Addr × Obj) → Prop) (xv : Value) (s₁ : Shared) : Prop :=
  ∃ xs t news, xv = .str xs t ∧ A.handled = none ∧ Fr h₀ L s₁.heap m ∧ News h₀ L s₁.heap news ∧ xs.cps.size ≤ sizeLine ∧
      ∀ s₂ : Shared, (∃ h, s₂ = { s₁ with heap := h }) → LCt.CompRestT prog w A h₀ L m env ct elt x scope cl s₂ (fun _ => True) (SignAt xs) (Fin s₂) xs.cps.size 0 [] news
theorem SrcStrT.intro {prog : Program} {w : World} {A : Around} {h₀ : Heap} {L : Addr} {m : Str → Option Value} {env : Env} {ct elt : PySem.Expr} {x : Str} {scope : Scope} {cl : List (Str × Addr)} {Fin : Shared → List Value → List (Addr × Obj) → Prop} {xs : Str} {t : Tok} {s₁ : Shared} {news : List (Addr × Obj)}
    (hh : A.handled = none) (F : Fr h₀ L s₁.heap m) (N : News h₀ L s₁.heap news) (hsz : xs.cps.size ≤ sizeLine)
    (R : ∀ g : Heap, LCt.CompRestT prog w A h₀ L m env ct elt x scope cl { s₁ with heap := g } (fun _ => True) (SignAt xs) (Fin { s₁ with heap := g }) xs.cps.size 0 [] news) : SrcStrT prog w A h₀ L m env ct elt x scope cl Fin (.str xs t) s₁ :=
  ⟨xs, t, news, rfl, hh, F, N, hsz, fun _ ⟨g, e⟩ => e ▸ R g⟩
theorem ListComp_strT {ct elt iter : PySem.Expr} {x : Str} {px : Pos} {scope : Scope} {cl : List (Str × Addr)} {pos : Pos} {Q : Value → Shared → Prop} (F₀ : Fr h₀ L s.heap m)
    (hclos : closureFor scope env = pure cl) (hcell : ∀ y ∈ scope.names, y.2 ≠ .cell) (hkind : scope.kind = .function)
    (hnames : ∀ y ∈ scope.names, y.2 = .local → scope.names.lookup y.1 = some .local) (hx : scope.names.lookup x = some .local)
    (h : wpAny (model prog w) A (eval iter env) (SrcStrT prog w A h₀ L m env ct elt x scope cl (fun s₂ => LCg.FinE h₀ L m s₂ Q)) E s)
    (hs : ∀ x, foldedSetIterable iter env x = pure x := by intro _; rfl) :
    wpAny (model prog w) A (eval (.ListComp elt [⟨.Name x px, iter, [ct], 0⟩] scope pos) env) Q E s := by
  rw [eval_ListComp]
  refine wpAny_comprehension_free (use := none) rfl hs hclos hkind hnames (wpAny_mono h (fun xv s₁ h₁ => ?_) fun _ _ e => e)
  obtain ⟨xs, t, news, rfl, hh, F, N, hsz, R⟩ := h₁
  have up : ∀ (ob : Obj) b o, s₁.heap.get? b = some o → (s₁.heap.push ob).get? b = some o := fun ob b o e => Heap.get?_push_of_some _ e
  have go : ∀ ty : String, Walks prog w A s₁.heap.objs.size [s₁.heap.objs.size] [s₁.heap.objs.size] xs.cps.size (SignAt xs) (fun i h => h.IsStrIter s₁.heap.objs.size ty xs t i) →
      wpAny (model prog w) A (newList []) (fun acc s₃ => wpAny (model prog w) A (newFunctionEnv scope env.globals cl [] env.qual none .none (some env)) (fun cenv s₄ =>
        codeAny (model prog w) A (.compStart (.ListComp elt [⟨.Name x px, iter, [ct], 0⟩] scope pos) 0 (.ref s₁.heap.objs.size) acc { cenv with scope := relabel scope env }) (compPost (model prog w) A E none Q acc cenv.locals) s₄) E s₃) E { s₁ with heap := s₁.heap.push { cls := .type ty, data := .fields #[.str xs t, .int 0 0] } } := by
    intro ty W
    refine LCt.block_T W hsz (fun i h st => by obtain ⟨o, e, _⟩ := st; exact ⟨o, e⟩) (fun i h h' o nw st e e' _ _ _ => by obtain ⟨o', q, r⟩ := st; rw [e] at q; cases q; exact ⟨o, e', r⟩) hcell hkind hx (show (s₁.heap.push { cls := .type ty, data := .fields #[.str xs t, .int 0 0] }).IsStrIter s₁.heap.objs.size ty xs t 0 from ⟨_, Heap.get?_push_size _ rfl, rfl, rfl⟩) (fun b hb => ?_)
      (F.keeps (up _)) (N.grown (up _)) (Nat.ne_of_lt F.ns.lt) (next_is_new F) (fun p hp => Nat.ne_of_lt (Heap.lt_size (N p hp).1)) trivial (R _ ⟨_, rfl⟩) ?_
    · rw [List.mem_singleton.mp hb]
      show s₁.heap.objs.size < (s₁.heap.push _).objs.size
      rw [Heap.size_push]; exact Nat.lt_succ_self _
    · intro D C h tk m' ys news' F' N' o1 hn hC₀ hD₀ hCL hDL hCD offC fin
      refine ⟨m', hn, fun h'' hs'' => fin D h'' tk (F'.change hs'' hCL hC₀) (fun p hp => ?_) o1⟩
      refine ⟨hs''.extBut _ _ ?_ (N' p hp).1, (N' p hp).2⟩
      rcases List.mem_cons.mp hp with rfl | hp
      · exact Ne.symm hCD
      · exact offC p hp
  cases ha : xs.cps.all (· < 128)
  · exact wpAny_pyIter_wide ha (go _ (Walks.strWide hh _ xs t))
  · exact wpAny_pyIter_ascii ha (go _ (Walks.strAscii hh _ xs t))
end
/-- a loop's turn at its end; G: what the state holds on the ledger -/
def CellTurn {σ : Type} (h₀ : Heap) (L : Addr) (s : Shared) (keep : List (Addr × Obj)) (M : σ → Str → Option Value) (G : σ → List (Addr × Obj)) (J : σ → Prop) (Q : Flow → Shared → Prop) (f : Flow) (s' : Shared) : Prop := match f with
  | .ret v => Q (.ret v) s'
  | .brk => Q .next s'
  | _ => ∃ h' tk' c', s' = { s with heap := h', toks := tk' } ∧ Fr h₀ L h' (M c') ∧ News h₀ L h' (G c' ++ keep) ∧ J c'
theorem CellTurn.next {σ : Type} {h₀ : Heap} {L : Addr} {s : Shared} {keep : List (Addr × Obj)} {M : σ → Str → Option Value} {G : σ → List (Addr × Obj)} {J : σ → Prop} {Q : Flow → Shared → Prop} {h' : Heap} {tk : Nat} (c' : σ) {m' : Str → Option Value} (F : Fr h₀ L h' m') (e : m' = M c') (N : News h₀ L h' (G c' ++ keep)) (j : J c') :
    CellTurn h₀ L s keep M G J Q .next { s with heap := h', toks := tk } := ⟨h', tk, c', rfl, e ▸ F, N, j⟩
section
variable {prog : Program} {w : World} {A : Around} {E : Value → Shared → Prop} {s : Shared} {h₀ : Heap} {L : Addr} {m : Str → Option Value} {env : Env}
set_option maxHeartbeats 1000000 in
/-- for over a list of the ledger's, the loop's name a cell's -/
theorem for_cell {σ : Type} {x : Str} {px : Pos} {body : List Stmt} {Q : Flow → Shared → Prop} {l c : Addr} {its : List Value} {o oc : Obj} {v₀ : Option Value} {m₀ : Str → Option Value} {news : List (Addr × Obj)} (M : σ → Str → Option Value) (G : σ → List (Addr × Obj)) (Pc : Nat → σ → Prop) (c₀ : σ)
    (hG : ∀ c', ∀ p ∈ G c', ∃ xs n, p.2.data = .seq xs n)
    (hk : env.scope.kind = .function) (hx : env.kindOf x = some .cell) (hc : env.cells.lookup x = some c) (hh : A.handled = none) (hl : (l, o) ∈ news) (ho : o.cls = .type "list") (hd : ∃ k, o.data = .seq its.toArray k)
    (F : Fr h₀ env.locals s.heap m₀) (N : News h₀ env.locals s.heap (G c₀ ++ (c, oc) :: news)) (hoc : oc.data = .cell v₀) (hoff : ∀ p ∈ news, p.1 ≠ c) (hM : m₀ = M c₀) (hp : Pc 0 c₀)
    (turn : ∀ (i : Nat) (v : Value) (c' : σ) (h : Heap) (tk : Nat) (keep : List (Addr × Obj)) (ov : Obj), its[i]? = some v → Pc i c' → Fr h₀ env.locals h (M c') → News h₀ env.locals h (G c' ++ keep) → (c, ov) ∈ keep → ov.data = .cell (some v) → (∀ p ∈ news, p ∈ keep) →
      wpAny (model prog w) A (execs body env) (CellTurn h₀ env.locals s keep M G (Pc (i + 1)) Q) E { s with heap := h, toks := tk })
    (done : ∀ (c' : σ) (h : Heap) (tk : Nat), Pc its.length c' → Fr h₀ env.locals h (M c') → News h₀ env.locals h (G c' ++ news) → Q .next { s with heap := h, toks := tk })
    (hE : PassesOwn (model prog w) A env E := by passes_own) :
    wpAny (model prog w) A (pyIter (.ref l)) (fun it s₂ => codeAny (model prog w) A (.forLoop (.Name x px) it body [] env) (fun r s' => match r with | .ok f => Q f s' | .error e => cameBackBy (model prog w) A env E e s') s₂) E s := by
  obtain ⟨k, hdk⟩ := hd
  have Nc := N (c, oc) (List.mem_append_right _ List.mem_cons_self)
  have Nn : News h₀ env.locals s.heap news := fun p hp => N p (List.mem_append_right _ (List.mem_cons_of_mem _ hp))
  have gl := (Nn (l, o) hl).1
  have hls : s.heap.IsList l its.toArray := ⟨o, gl, ho, k, hdk⟩
  refine wpAny_pyIter_list hls ?_
  have hlt : l < s.heap.objs.size := Heap.lt_size gl
  have hIl : s.heap.objs.size ≠ l := Nat.ne_of_gt hlt
  have hIL : s.heap.objs.size ≠ env.locals := Nat.ne_of_gt F.ns.lt
  have hI0 : h₀.get? s.heap.objs.size = none := next_is_new F
  have hIc : s.heap.objs.size ≠ c := Nat.ne_of_gt (Heap.lt_size Nc.1)
  have hIn : ∀ p ∈ news, p.1 ≠ s.heap.objs.size := fun p hp => Nat.ne_of_lt (Heap.lt_size (Nn p hp).1)
  generalize hI : s.heap.objs.size = I at hIl hIL hI0 hIc hIn ⊢
  have W := Walks.list (prog := prog) (w := w) hh I l (Ne.symm hIl) its.toArray
  have hcl : c ≠ l := fun q => hoff (l, o) hl q.symm
  have hcL := Nc.2.1
  have hc0 := Nc.2.2
  generalize hs1 : s.heap.push { cls := .type "list_iterator", data := .fields #[.ref l, .int 0 0] } = H1
  have F1 : Fr h₀ env.locals H1 m₀ := hs1 ▸ F.push _
  have N1 : News h₀ env.locals H1 (G c₀ ++ (c, oc) :: news) := hs1 ▸ fun p hp => ⟨Heap.get?_push_of_some _ (N p hp).1, (N p hp).2⟩
  have st1 : H1.IsListIter I l 0 ∧ H1.IsList l its.toArray := hs1 ▸ ⟨⟨_, hI ▸ Heap.get?_push_size _ rfl, rfl, rfl⟩, hls.at fun o e => Heap.get?_push_of_some _ e⟩
  refine codeAny_forLoop (fun k s' => ∃ (i : Nat) (c' : σ) (h' : Heap) (tk : Nat) (ov : Obj) (u : Option Value), s' = { s with heap := h', toks := tk } ∧ (h'.IsListIter I l i ∧ h'.IsList l its.toArray) ∧ Fr h₀ env.locals h' (M c') ∧ News h₀ env.locals h' (G c' ++ (c, ov) :: news) ∧ ov.data = .cell u ∧ Pc i c' ∧ i ≤ its.length ∧ k = its.length + 1 - i) ?_ (its.length + 1)
    ⟨0, c₀, H1, s.toks, oc, v₀, rfl, st1, hM ▸ F1, N1, hoc, hp, Nat.zero_le _, rfl⟩
  rintro k s' ⟨i, c', h', tk, ov, u, rfl, hst, F', N', hov, hP, hi, rfl⟩
  have hGI : ∀ p ∈ G c', p.1 ≠ I := fun p hp q => by
    obtain ⟨xs, n, e⟩ := hG c' p hp
    have e1 := (N' p (List.mem_append_left _ hp)).1
    obtain ⟨oi, e2, _, e3⟩ := hst.1
    rw [q, e2] at e1
    cases e1
    rw [e3] at e
    cases e
  have hGc : ∀ p ∈ G c', p.1 ≠ c := fun p hp q => by
    obtain ⟨xs, n, e⟩ := hG c' p hp
    have e1 := (N' p (List.mem_append_left _ hp)).1
    have e2 := (N' (c, ov) (List.mem_append_right _ List.mem_cons_self)).1
    rw [q] at e1
    rw [e2] at e1
    cases e1
    rw [hov] at e
    cases e
  have next : ∀ h₁ : Heap, (∀ b o, b ∉ [I] → h'.get? b = some o → h₁.get? b = some o) → Fr h₀ env.locals h₁ (M c') ∧ News h₀ env.locals h₁ (G c' ++ (c, ov) :: news) := fun h₁ hk₁ =>
    ⟨LCg.fr_but F' hk₁ (Ne.symm hIL) hI0, LCg.news_but N' hk₁ fun p hp => by
      rcases List.mem_append.mp hp with hp | hp
      · exact hGI p hp
      · rcases List.mem_cons.mp hp with rfl | hp
        · exact Ne.symm hIc
        · exact hIn p hp⟩
  by_cases hlt' : i < its.length
  · refine W.item i _ _ _ hlt' hst fun v h₁ tk₁ hPv hst₁ hk₁ => ?_
    obtain ⟨F₁, N₁⟩ := next h₁ hk₁
    refine wpAny_assign_Name (wpAny_storeName_cell hk hx hc ⟨ov, (N₁ _ (List.mem_append_right _ List.mem_cons_self)).1, hov⟩ fun h₂ hv₂ hs₂ => ?_)
    obtain ⟨ov₂, ho₂, hd₂⟩ := hv₂
    have hst₂ : h₂.IsListIter I l (i + 1) ∧ h₂.IsList l its.toArray := W.frame _ _ _ hst₁ fun b hb o e => (hs₂.2 b fun q => by
      rcases List.mem_cons.mp hb with rfl | hb
      · exact hIc q
      · exact hcl (q.symm.trans (List.mem_singleton.mp hb))).trans e
    have F₂ : Fr h₀ env.locals h₂ (M c') := F₁.change hs₂ hcL hc0
    obtain ⟨oI, heI⟩ : ∃ oI, h₂.get? I = some oI := by obtain ⟨o', e, _⟩ := hst₂.1; exact ⟨o', e⟩
    have N₂ : News h₀ env.locals h₂ (G c' ++ (I, oI) :: (c, ov₂) :: news) := fun p hp => by
      rcases List.mem_append.mp hp with hp | hp
      · have z := N₁ p (List.mem_append_left _ hp)
        exact ⟨(hs₂.2 _ (hGc p hp)).trans z.1, z.2⟩
      · rcases List.mem_cons.mp hp with rfl | hp
        · exact ⟨heI, hIL, hI0⟩
        · rcases List.mem_cons.mp hp with rfl | hp
          · exact ⟨ho₂, hcL, hc0⟩
          · have z := N₁ p (List.mem_append_right _ (List.mem_cons_of_mem _ hp))
            exact ⟨(hs₂.2 _ (hoff p hp)).trans z.1, z.2⟩
    refine wpAny_mono (wpAny_passesOwn hE (turn i v c' h₂ _ ((I, oI) :: (c, ov₂) :: news) ov₂ (by simpa using hPv) hP F₂ N₂ (List.mem_cons_of_mem _ List.mem_cons_self) hd₂ (fun p hp => List.mem_cons_of_mem _ (List.mem_cons_of_mem _ hp)))) (fun f s₃ h₃ => ?_) fun _ _ e => e
    have fin : (∃ h' tk' c', s₃ = { s with heap := h', toks := tk' } ∧ Fr h₀ env.locals h' (M c') ∧ News h₀ env.locals h' (G c' ++ (I, oI) :: (c, ov₂) :: news) ∧ Pc (i + 1) c') →
        ∃ k', k' < its.length + 1 - i ∧ ∃ (i : Nat) (c' : σ) (h' : Heap) (tk : Nat) (ov : Obj) (u : Option Value), s₃ = { s with heap := h', toks := tk } ∧ (h'.IsListIter I l i ∧ h'.IsList l its.toArray) ∧ Fr h₀ env.locals h' (M c') ∧ News h₀ env.locals h' (G c' ++ (c, ov) :: news) ∧ ov.data = .cell u ∧ Pc i c' ∧ i ≤ its.length ∧ k' = its.length + 1 - i := by
      rintro ⟨h', tk', c', e, F', N', hP'⟩
      refine ⟨its.length + 1 - (i + 1), by omega, i + 1, c', h', tk', ov₂, _, e, ?_, F', fun p hp => N' p ?_, hd₂, hP', hlt', rfl⟩
      · refine ⟨?_, ⟨o, (N' (l, o) (List.mem_append_right _ (List.mem_cons_of_mem _ (List.mem_cons_of_mem _ hl)))).1, ho, k, hdk⟩⟩
        obtain ⟨o', e', r⟩ := hst₂.1
        rw [heI] at e'
        cases e'
        exact ⟨oI, (N' (I, oI) (List.mem_append_right _ List.mem_cons_self)).1, r⟩
      · rcases List.mem_append.mp hp with hp | hp
        · exact List.mem_append_left _ hp
        · exact List.mem_append_right _ (List.mem_cons_of_mem _ hp)
    cases f with
    | ret v => exact h₃
    | brk => exact h₃
    | next => exact fin h₃
    | cont => exact fin h₃
  · have hin : i = its.length := by omega
    subst hin
    refine W.done _ _ _ hst fun h₁ tk₁ hk₁ => wpAny_execs_nil ?_
    obtain ⟨F₁, N₁⟩ := next h₁ hk₁
    exact done c' h₁ _ hP F₁ (fun p hp => N₁ p (by
      rcases List.mem_append.mp hp with hp | hp
      · exact List.mem_append_left _ hp
      · exact List.mem_append_right _ (List.mem_cons_of_mem _ hp)))
theorem For_cell {x : Str} {px pos : Pos} {iter : PySem.Expr} {body : List Stmt} {Q : Flow → Shared → Prop}
    (h : wpAny (model prog w) A (eval iter env) (fun xv s₁ => Stop (wpAny (model prog w) A (pyIter xv) (fun it s₂ => codeAny (model prog w) A (.forLoop (.Name x px) it body [] env) (fun r s' => match r with | .ok f => Q f s' | .error e => cameBackBy (model prog w) A env E e s') s₂) E s₁)) E s)
    (hs : ∀ x, foldedSetIterable iter env x = pure x := by intro _; rfl) :
    wpAny (model prog w) A (exec (.For (.Name x px) iter body [] pos) env) Q E s := wpAny_For h hs
end
end Mine
namespace Mine
theorem Texts.at {ys : List Value} {ts : List PySem.Str} (h : Texts ys ts) {i : Nat} {v : Value} (e : ys[i]? = some v) : ∃ x t, ts[i]? = some x ∧ v = Value.str x t := by
  obtain ⟨l, rfl, rfl⟩ := h
  rw [strValues, List.getElem?_map] at e
  cases hp : l[i]? with
  | none => rw [hp] at e; cases e
  | some p =>
    rw [hp] at e
    cases e
    exact ⟨p.1, p.2, by rw [List.getElem?_map, hp]; rfl, rfl⟩
theorem Texts.nil : Texts [] [] := ⟨[], rfl, rfl⟩
theorem Texts.app {ys zs : List Value} {ts us : List PySem.Str} (h : Texts ys ts) (g : Texts zs us) : Texts (ys ++ zs) (ts ++ us) := by
  obtain ⟨l, rfl, rfl⟩ := h
  obtain ⟨l', rfl, rfl⟩ := g
  exact ⟨l ++ l', by simp [strValues], by simp⟩
theorem Texts.one (x : PySem.Str) (t : Tok) : Texts [Value.str x t] [x] := ⟨[(x, t)], rfl, rfl⟩
theorem Texts.takeN {ys : List Value} {ts : List PySem.Str} (h : Texts ys ts) (k : Nat) : Texts (ys.take k) (ts.take k) := by
  obtain ⟨l, rfl, rfl⟩ := h
  exact ⟨l.take k, by simp [strValues, List.map_take], by simp [List.map_take]⟩
theorem Texts.dropN {ys : List Value} {ts : List PySem.Str} (h : Texts ys ts) (k : Nat) : Texts (ys.drop k) (ts.drop k) := by
  obtain ⟨l, rfl, rfl⟩ := h
  exact ⟨l.drop k, by simp [strValues, List.map_drop], by simp [List.map_drop]⟩
theorem Texts.strs {ys : List Value} {ts : List PySem.Str} (h : Texts ys ts) : StrsAre ys ts := by
  obtain ⟨l, rfl, rfl⟩ := h
  induction l with
  | nil => exact .nil
  | cons p r ih => exact .cons p.1 p.2 ih
theorem Texts.ofStrs {ys : List Value} {ts : List PySem.Str} (h : StrsAre ys ts) : Texts ys ts := by
  induction h with
  | nil => exact .nil
  | cons x t _ ih => exact (Texts.one x t).app ih
/-- a list of the ledger's, whatever its epoch -/
abbrev lstN (ys : List Value) (n : Nat) : Obj := { cls := .type "list", data := .seq ys.toArray n }
section
variable {prog : Program} {w : World} {A : Around} {E : Value → Shared → Prop} {s : Shared} {h₀ : Heap} {L : Addr} {m : Str → Option Value} {nw : List (Addr × Obj)}
theorem len_led {D : Addr} {ys : List Value} {n k : Nat} {Q : Value → Shared → Prop} (N : News h₀ L s.heap nw) (hm : (D, lstN ys n) ∈ nw) (hk : ys.length = k) (hb : k ≤ 100000) (h : Q (.int (k : Int) (s.toks + 1)) { s with toks := s.toks + 1 + 1 }) :
    wpAny (model prog w) A (call (.builtin "len") [.ref D]) Q E s := by
  have e : ys.toArray.size = k := hk
  exact len_list (News.isList N hm) (by rw [e]; omega) (by rw [e]; exact h)
theorem slice_to {value slice : PySem.Expr} {l : Addr} {ys : List Value} {n k : Nat} {t : Tok} {Q : Value → Shared → Prop} (F : Fr h₀ L s.heap m) (N : News h₀ L s.heap nw) (hm : (l, lstN ys n) ∈ nw) (hb : ys.length ≤ 100000)
    (h : ∀ D h', Fr h₀ L h' m → News h₀ L h' ((D, lstN (ys.take k) 0) :: nw) → Q (.ref D) { s with heap := h' })
    (hs : subscripted slice false (.ref l) (.ref s.heap.objs.size) = operate [.ref s.heap.objs.size, .ref l] (getItem (.ref l) (.ref s.heap.objs.size))) (ht : ∀ r, letTemporaryGo value (.ref l) r = pure ()) :
    wpAny (model prog w) A (subscriptTail value slice (.ref l) (.ref s.heap.objs.size)) Q E { s with heap := s.heap.push { cls := .type "slice", data := .fields #[.none, .int (k : Int) t, .none] } } := by
  refine kmk_slice (lo := none) (hi := some (k : Int)) F N (News.isList N hm) IsPart.none (IsPart.int _ _) (fun D h' F' N' _ => h D h' F' ?_) hs ht (by rw [sizeLine_eq, List.size_toArray]; omega)
  rw [kms_pick_eq] at N'
  have e : kms_pick ys.toArray.toList none (some (k : Int)) = ys.take k := by
    unfold kms_pick kms_lo kms_hi
    dsimp only
    rw [if_neg (by omega), List.drop_zero, Nat.sub_zero, Int.toNat_natCast, kmk_take_min]
  rw [e] at N'
  exact N'
theorem slice_from {value slice : PySem.Expr} {l : Addr} {ys : List Value} {n k : Nat} {t : Tok} {Q : Value → Shared → Prop} (F : Fr h₀ L s.heap m) (N : News h₀ L s.heap nw) (hm : (l, lstN ys n) ∈ nw) (hb : ys.length ≤ 100000)
    (h : ∀ D h', Fr h₀ L h' m → News h₀ L h' ((D, lstN (ys.drop k) 0) :: nw) → Q (.ref D) { s with heap := h' })
    (hs : subscripted slice false (.ref l) (.ref s.heap.objs.size) = operate [.ref s.heap.objs.size, .ref l] (getItem (.ref l) (.ref s.heap.objs.size))) (ht : ∀ r, letTemporaryGo value (.ref l) r = pure ()) :
    wpAny (model prog w) A (subscriptTail value slice (.ref l) (.ref s.heap.objs.size)) Q E { s with heap := s.heap.push { cls := .type "slice", data := .fields #[.int (k : Int) t, .none, .none] } } := by
  refine kmk_slice (lo := some (k : Int)) (hi := none) F N (News.isList N hm) (IsPart.int _ _) IsPart.none (fun D h' F' N' _ => h D h' F' ?_) hs ht (by rw [sizeLine_eq, List.size_toArray]; omega)
  rw [kms_pick_eq] at N'
  have e : kms_pick ys.toArray.toList (some (k : Int)) none = ys.drop k := by
    unfold kms_pick kms_lo kms_hi
    dsimp only
    rw [if_neg (by omega), Int.toNat_natCast, kmk_drop_min, List.take_of_length_le]
    rw [List.length_drop]
    omega
  rw [e] at N'
  exact N'
theorem add_led {a b : Addr} {ys zs : List Value} {n k : Nat} {Q : Value → Shared → Prop} (F : Fr h₀ L s.heap m) (N : News h₀ L s.heap nw) (ha : (a, lstN ys n) ∈ nw) (hb : (b, lstN zs k) ∈ nw) (h1 : ys.length ≤ 1000) (h2 : zs.length ≤ 1000)
    (h : ∀ D h', Fr h₀ L h' m → News h₀ L h' ((D, lstN (ys ++ zs) 0) :: nw) → Q (.ref D) { s with heap := h' }) : wpAny (model prog w) A (binaryOp .Add (.ref a) (.ref b)) Q E s :=
  add_lists F N (News.isList N ha) (News.isList N hb) (fun h' F' N' => h _ h' F' N') (by rw [sizeLine_eq]; omega)
end
end Mine
namespace Mine
theorem startEA : True := by
  w_top off
  trivial
local macro_rules | `(tactic| k_mem) => `(tactic| first | exact (List.mem_cons_of_mem _ (List.mem_cons_of_mem _ (List.mem_cons_of_mem _ (List.mem_cons_of_mem _ (List.mem_cons_of_mem _ (List.mem_cons_of_mem _ (List.mem_cons_of_mem _ (by assumption)))))))) | exact (List.mem_cons_of_mem _ (List.mem_cons_of_mem _ (List.mem_cons_of_mem _ (List.mem_cons_of_mem _ (List.mem_cons_of_mem _ (List.mem_cons_of_mem _ (List.mem_cons_of_mem _ List.mem_cons_self))))))) | exact (List.mem_cons_of_mem _ (List.mem_cons_of_mem _ (List.mem_cons_of_mem _ (List.mem_cons_of_mem _ (List.mem_cons_of_mem _ (List.mem_cons_of_mem _ (List.mem_cons_of_mem _ (List.mem_cons_of_mem _ (by assumption))))))))) | exact (List.mem_cons_of_mem _ (List.mem_cons_of_mem _ (List.mem_cons_of_mem _ (List.mem_cons_of_mem _ (List.mem_cons_of_mem _ (List.mem_cons_of_mem _ (List.mem_cons_of_mem _ (List.mem_cons_of_mem _ List.mem_cons_self)))))))) | fail "k_mem")
local macro_rules | `(tactic| k_mem) => `(tactic| first | exact (List.mem_cons_of_mem _ (List.mem_cons_of_mem _ (List.mem_cons_of_mem _ (List.mem_cons_of_mem _ (List.mem_cons_of_mem _ (by assumption)))))) | exact (List.mem_cons_of_mem _ (List.mem_cons_of_mem _ (List.mem_cons_of_mem _ (List.mem_cons_of_mem _ (List.mem_cons_of_mem _ List.mem_cons_self))))) | exact (List.mem_cons_of_mem _ (List.mem_cons_of_mem _ (List.mem_cons_of_mem _ (List.mem_cons_of_mem _ (List.mem_cons_of_mem _ (List.mem_cons_of_mem _ (by assumption))))))) | exact (List.mem_cons_of_mem _ (List.mem_cons_of_mem _ (List.mem_cons_of_mem _ (List.mem_cons_of_mem _ (List.mem_cons_of_mem _ (List.mem_cons_of_mem _ List.mem_cons_self)))))) | fail "k_mem")
local macro_rules | `(tactic| k_mem) => `(tactic| first | exact (List.mem_cons_of_mem _ (List.mem_cons_of_mem _ (List.mem_cons_of_mem _ (by assumption)))) | exact (List.mem_cons_of_mem _ (List.mem_cons_of_mem _ (List.mem_cons_of_mem _ List.mem_cons_self))) | exact (List.mem_cons_of_mem _ (List.mem_cons_of_mem _ (List.mem_cons_of_mem _ (List.mem_cons_of_mem _ (by assumption))))) | exact (List.mem_cons_of_mem _ (List.mem_cons_of_mem _ (List.mem_cons_of_mem _ (List.mem_cons_of_mem _ List.mem_cons_self)))) | fail "k_mem")
local macro_rules | `(tactic| k_mem) => `(tactic| first | assumption | exact List.mem_cons_self | exact (List.mem_cons_of_mem _ (by assumption)) | exact (List.mem_cons_of_mem _ List.mem_cons_self) | exact (List.mem_cons_of_mem _ (List.mem_cons_of_mem _ (by assumption))) | exact (List.mem_cons_of_mem _ (List.mem_cons_of_mem _ List.mem_cons_self)) | fail "k_mem")
def rM (m : Str → Option Value) (c : Addr × List Value × Nat × Option Value) (y : Str) : Option Value :=
  if y = PySem.Str.ofString "told" then some (.ref c.1) else if y = PySem.Str.ofString "place" then c.2.2.2 else m y
local macro_rules | `(tactic| walk_at "call builtin:len") => `(tactic| (k_here; k_dflt (refine len_led (by k_asm) (by k_mem) (by assumption) (by omega) ?_)))
local macro_rules | `(tactic| walk_at "subscriptTail Name Slice ref ref") => `(tactic| (k_here; k_dflt (refine slice_to (by k_asm) (by k_asm) (by k_mem) (by omega) ?_ (by with_unfolding_all rfl) (by intro _; with_unfolding_all rfl)); intro D' h' F' N'))
local macro_rules | `(tactic| walk_at "subscriptTail Name Slice ref ref") => `(tactic| (k_here; k_dflt (refine slice_from (by k_asm) (by k_asm) (by k_mem) (by omega) ?_ (by with_unfolding_all rfl) (by intro _; with_unfolding_all rfl)); intro D' h' F' N'))
local macro_rules | `(tactic| walk_at "binaryOp Add ref ref") => `(tactic| (k_here; k_dflt (refine add_led (by k_asm) (by k_asm) (by k_mem) (by k_mem) (by ((try simp only [List.length_append, List.length_take, List.length_drop, List.length_cons, List.length_nil]); omega)) (by ((try simp only [List.length_append, List.length_take, List.length_drop, List.length_cons, List.length_nil]); omega)) ?_); intro D' h' F' N'))
local macro_rules | `(tactic| walk_at "eval ListComp") => `(tactic| (k_here; k_dflt (refine ListComp_1T (F₀ := by k_asm) (by rfl) (by decide) (by rfl) (by decide) (by rfl) ?_)))
local macro_rules | `(tactic| walk_at "exec For") => `(tactic| (k_here; refine For_cell ?_))
section
variable {prog : Program} {w : World} {A : Around} {E : Value → Shared → Prop} {s : Shared} {env : Env} {h₀ : Heap} {Q : Flow → Shared → Prop}
theorem rfor {px : Pos} {body : List Stmt} {l c t₀ : Addr} {its : List Value} {o oc : Obj} {v₀ : Option Value} {m₀ : Str → Option Value} {news : List (Addr × Obj)} (F : Fr h₀ env.locals s.heap m₀) (N : News h₀ env.locals s.heap ((t₀, W.listOf #[] 0) :: (c, oc) :: news)) (Pc : Nat → List Value → Prop)
    (hm : m₀ (PySem.Str.ofString "told") = some (.ref t₀))
    (hk : env.scope.kind = .function) (hx : env.kindOf (PySem.Str.ofString "word") = some .cell) (hc : env.cells.lookup (PySem.Str.ofString "word") = some c) (hh : A.handled = none) (hl : (l, o) ∈ news) (ho : o.cls = .type "list") (hd : ∃ k, o.data = .seq its.toArray k)
    (hoc : oc.data = .cell v₀) (hoff : ∀ p ∈ news, p.1 ≠ c) (hp : Pc 0 [])
    (turn : ∀ (i : Nat) (v : Value) (ta : Addr) (tys : List Value) (tn : Nat) (vp : Option Value) (h : Heap) (tk : Nat) (keep : List (Addr × Obj)) (ov : Obj), its[i]? = some v → Pc i tys → Fr h₀ env.locals h (rM m₀ (ta, tys, tn, vp)) → News h₀ env.locals h ((ta, lstN tys tn) :: keep) → (c, ov) ∈ keep → ov.data = .cell (some v) → (∀ p ∈ news, p ∈ keep) →
      wpAny (model prog w) A (execs body env) (CellTurn h₀ env.locals s keep (rM m₀) (fun c => [(c.1, lstN c.2.1 c.2.2.1)]) (fun c => Pc (i + 1) c.2.1) Q) E { s with heap := h, toks := tk })
    (done : ∀ (ta : Addr) (tys : List Value) (tn : Nat) (vp : Option Value) (h : Heap) (tk : Nat), Pc its.length tys → Fr h₀ env.locals h (rM m₀ (ta, tys, tn, vp)) → News h₀ env.locals h ((ta, lstN tys tn) :: news) → Q .next { s with heap := h, toks := tk })
    (hE : PassesOwn (model prog w) A env E := by passes_own) :
    wpAny (model prog w) A (pyIter (.ref l)) (fun it s₂ => codeAny (model prog w) A (.forLoop (.Name (PySem.Str.ofString "word") px) it body [] env) (fun r s' => match r with | .ok f => Q f s' | .error e => cameBackBy (model prog w) A env E e s') s₂) E s := by
  refine for_cell (rM m₀) (fun c => [(c.1, lstN c.2.1 c.2.2.1)]) (fun i c => Pc i c.2.1) (t₀, [], 0, m₀ (PySem.Str.ofString "place")) ?_ hk hx hc hh hl ho hd F N hoc hoff ?_ hp ?_ ?_ hE
  · intro c' p hp
    rw [List.mem_singleton.mp hp]
    exact ⟨_, _, rfl⟩
  · funext y
    unfold rM
    by_cases h1 : y = PySem.Str.ofString "told"
    · rw [if_pos h1, h1, hm]
    · rw [if_neg h1]
      by_cases h2 : y = PySem.Str.ofString "place"
      · rw [if_pos h2, h2]
      · rw [if_neg h2]
  · intro i v c' h tk keep ov h1 h2 h3 h4 h5 h6 h7
    exact turn i v c'.1 c'.2.1 c'.2.2.1 c'.2.2.2 h tk keep ov h1 h2 h3 h4 h5 h6 h7
  · intro c' h tk h1 h2 h3
    exact done c'.1 c'.2.1 c'.2.2.1 c'.2.2.2 h tk h1 h2 h3
theorem rturn {m₀ m' : Str → Option Value} {L : Addr} {keep : List (Addr × Obj)} {J : List Value → Prop} {h' : Heap} {tk : Nat} {a : Addr} {ys : List Value} {n : Nat} (F : Fr h₀ L h' m') (N : News h₀ L h' ((a, lstN ys n) :: keep))
    (hm : m' (PySem.Str.ofString "told") = some (.ref a)) (hr : ∀ z, z ≠ PySem.Str.ofString "told" → z ≠ PySem.Str.ofString "place" → m' z = m₀ z) (j : J ys) :
    CellTurn h₀ L s keep (rM m₀) (fun c => [(c.1, lstN c.2.1 c.2.2.1)]) (fun c => J c.2.1) Q .next { s with heap := h', toks := tk } := by
  refine CellTurn.next (a, ys, n, m' (PySem.Str.ofString "place")) F ?_ N j
  funext y
  unfold rM
  by_cases h1 : y = PySem.Str.ofString "told"
  · rw [if_pos h1, h1, hm]
  · rw [if_neg h1]
    by_cases h2 : y = PySem.Str.ofString "place"
    · rw [if_pos h2, h2]
    · rw [if_neg h2]
      exact hr y h1 h2
end
local macro_rules | `(tactic| walk_at "call ref") => `(tactic| (k_here; (with_reducible show wpAny _ _ (call (Value.ref 141) [Value.str _ _, Value.str _ _]) _ _ _); k_dflt (refine' TellsR.use (order_tells _ _ _ (by assumption) (by assumption) _ _) ?k1 ?k2 ?k3 ?k4 ?k5 ?kK ?kd ?ku ?_; (case k1 => k_asm); (case k2 => k_asm); (case k3 => k_asm); (case k4 => k_asm); (case k5 => k_asm); (case kK => first | exact rfl | assumption); (case kd => ktr_room); (case ku => ktr_units)); intro t9 h9 tk9 F9 N9; (try dsimp only); (try k_fold)))
set_option maxHeartbeats 4000000 in
theorem rising_tells (w : World) (ys : List Value) (ts : List PySem.Str) (lw : Addr) (hT : Texts ys ts) (hn : ts.length ≤ 10) (hw : ∀ x ∈ ts, x.length ≤ 100) :
  ∀ (mean : ExcName → Option Value) (mg mb : Str → Option Value) (news : List (Addr × Obj)) (dp un : Nat) (gd : Option (List Code)) (cn : Str) (cs : Scope) (a : Addr) (ccd : Value) (cl : List (Str × Addr)) (outer : List Env) (A₀ : Around) (base h₀ : Heap) (L : Addr) (m : Str → Option Value) (s : Shared) (Q' E : Value → Shared → Prop),
    Below A₀ base outer h₀ → Fr h₀ L s.heap m → (K w.params).In h₀ → News h₀ L s.heap news → Top Q (looseW Q lo) mean mg mb h₀ → cs.kind = .function →
    dp + 10 < recursionLimit → un + 200 < cLine → (lw, LCg.lst ys) ∈ news →
    (∀ (a : Addr) (ys' : List Value) (n : Nat) (h' : Heap) (tk' : Nat), Texts ys' (rising ts) → Fr h₀ L h' m → News h₀ L h' ((a, lstN ys' n) :: news) → Q' (.ref a) { s with heap := h', toks := tk' }) →
      wpAny (model PySem.Challenge.rw_pd0096_01.row.prog w) (ktrTop dp un gd cn cs L a ccd cl outer) (call (.ref 151) [.ref lw]) Q' E s := by
  k_fill
  intro mean mg mb news dp un gd cn cs a ccd cl outer A₀ base h₀ L m s Q' E B0 F00 X0 N00 T0 hk0 hd0 hu0 hlw hret
  refine wpAny_call ?_
  k_dflt (refine' code_defC ?k1 ?k2 ?k3 ?k4 ?k5 ?kA ?kF ?kK ?k6 ?k7 ?k8 ?k9 ?kB ?kD ?_ ?c2 ?c3 ?c4; (case kA => exact rfl); (case kF => exact rfl); (case kK => assumption); (case k1 => k_asm); (case k2 => k_asm); (case k3 => k_asm); (case k4 => k_asm); (case k5 => k_asm); (case k6 => k_is); (case k7 => k_is); (case k8 => ktr_room); (case k9 => first | exact BindsTo.of_eq rfl | exact binds_K (by k_in) rfl (by k_is) rfl rfl rfl); (case kB => exact rfl); (case kD => decide +kernel); (case c2 => exact rfl); (case c3 => exact rfl); (case c4 => exact rfl); k_whole; intro g' L' h' tk' cells' FG' F' N' Y' B' X' T' l1; (try k_lt l1); k_cells Y'; (try simp only [List.cons_append, List.nil_append] at N'); (try dsimp only); (try k_lift B'); (try k_fold))
  k_steps
  unfold Stop
  rename Fr _ _ _ _ => F0
  rename News _ _ _ _ => N0
  rename_i F0 N0
  have hyl := hT.length
  refine rfor F0 N0 (fun i tys => Texts tys (rising (ts.take i))) rfl rfl rfl rfl rfl hlw rfl ⟨_, rfl⟩ (by assumption) (fun p hp => Nat.ne_of_lt (Nat.lt_succ_of_lt (l1 p hp))) ⟨[], rfl, rfl⟩ ?_ ?_
  · intro i v ta tys tn vp h tk keep ov hv hP F N hov hd hsub
    obtain ⟨x, t, hx, rfl⟩ := hT.at hv
    unfold rM at F
    k_steps
    unfold Src1T
    have hrl : (rising (ts.take i)).length ≤ 10 := by
      rw [(rising_perm _).length_eq, List.length_take]
      omega
    have htl := hP.length
    refine LCt.CompSrcT.ledger rfl (by k_asm) (by k_asm) (its := tys.toArray) (k := tn) List.mem_cons_self (by rw [sizeLine_eq, List.size_toArray]; omega) fun g => ?_
    refine comp_restT (J := fun k zs => Texts zs (((rising (ts.take i)).take k).filter fun o => leB o x)) (.inr ⟨_, List.mem_cons_self, rfl, _, rfl⟩) ⟨[], rfl, rfl⟩ ?_ ?_
    · intro k v zs C oC m₂ h tk E' nw hk hv hJ hC hm F N hmem hsub
      obtain ⟨y, t', hy, rfl⟩ := hP.at (by simpa using hv)
      have hyl : y.length ≤ 1000 := Nat.le_trans (hw y (List.mem_of_mem_take ((rising_perm _).mem_iff.mp (List.mem_of_getElem? hy)))) (by decide)
      have hxl : x.length ≤ 1000 := Nat.le_trans (hw x (List.mem_of_getElem? hx)) (by decide)
      have hov' := hsub _ (List.mem_cons_of_mem _ hov)
      k_steps
      · refine TurnEnd.intro (by k_asm) (by k_asm) ?_
        rw [List.take_add_one, hy, List.filter_append, Option.toList_some, List.filter_cons_of_pos (p := fun o => leB o x) (decide_eq_true (by assumption))]
        exact hJ.app (Texts.one y t')
      · refine TurnEnd.intro (by k_asm) (by k_asm) ?_
        rw [List.take_add_one, hy, List.filter_append, Option.toList_some, List.filter_cons_of_neg (p := fun o => leB o x) (by unfold leB; simp only [decide_eq_true_eq]; assumption), List.filter_nil, List.append_nil]
        exact hJ
    · intro zs hJ
      unfold LCg.FinE
      intro D' h' tk' F' N' o1'
      have hzl : zs.length = riseN (rising (ts.take i)) x := by
        rw [hJ.length, List.take_of_length_le (by rw [List.size_toArray]; omega)]
        rfl
      have hzb : riseN (rising (ts.take i)) x ≤ 10 := Nat.le_trans (List.length_filter_le _ _) hrl
      have hov' := hov
      generalize hpl : riseN (rising (ts.take i)) x = pl at hzl hzb
      k_steps
      refine rturn (J := fun zs => Texts zs (rising (ts.take (i + 1)))) (by k_asm) (cb_drop (by k_asm) ?_) rfl ?_ ?_ (ys := tys.take pl ++ [Value.str x t] ++ tys.drop pl) (n := 0)
      · intro p hp
        rcases List.mem_cons.mp hp with rfl | hp
        · exact List.mem_cons_self
        · repeat (first | exact hp | apply List.mem_cons_of_mem)
      · intro z h1 h2
        rw [if_neg h1, if_neg h2]
        rw [if_neg h1, if_neg h2]
      · rw [List.take_add_one, hx, Option.toList_some, rising_snoc]
        unfold rise
        rw [hpl]
        exact ((hP.takeN pl).app (Texts.one x t)).app (hP.dropN pl)
  · intro ta tys tn vp h tk hP F N
    k_steps
    refine hret ta tys tn h tk ?_ (by k_asm) (by k_asm)
    rw [hyl, List.take_length] at hP
    exact hP
end Mine
namespace Mine
section
variable {w : World} {E : Value → Shared → Prop} {s : Shared} {h₀ base : Heap} {L : Addr} {m : Str → Option Value} {nw : List (Addr × Obj)} {mean : ExcName → Option Value} {mg mb : Str → Option Value} {dp un : Nat} {gd : Option (List Code)} {cn : Str} {cs : Scope} {a : Addr} {ccd : Value} {cl : List (Str × Addr)} {outer : List Env} {A₀ : Around}
/-- sorted(texts, key=_strxfrm) -/
theorem sorted_wp {l : Addr} {ys : List Value} {ts : List PySem.Str} {n : Nat} {Q' : Value → Shared → Prop}
    (B : Below A₀ base outer h₀) (F : Fr h₀ L s.heap m) (X : (K w.params).In h₀) (N : News h₀ L s.heap nw) (T : Top Q (looseW Q lo) mean mg mb h₀) (hk : cs.kind = .function) (hd : dp + 5 < recursionLimit) (hu : un + 62 < cLine)
    (hm : (l, lstN ys n) ∈ nw) (hT : Texts ys ts) (h64 : ts.length < 64)
    (hR : ∀ D ys' ts' c h' tk', Fr h₀ L h' m → News h₀ L h' ((D, lstN ys' c) :: nw) → Texts ys' ts' → ts'.Perm ts → ts'.Pairwise upS → Q' (.ref D) { s with heap := h', toks := tk' }) :
    wpAny (model PySem.Challenge.rw_pd0096_01.row.prog w) (ktrTop dp un gd cn cs L a ccd cl outer) (call (.builtin "sorted") [.ref l] [(PySem.Str.ofString "key", .ref 129)]) Q' E s := by
  refine zs_sorted F N (News.isList N hm) hT.strs (by rw [hT.length]; exact h64) (fun x t h tk nw' F' N' => ?_) (fun D h' tk out c ts' F' N' _ k1 k2 k3 => ?_)
  · exact TellsR.use (dp := dp) (un := un + 1 + 1) (s := { s with heap := h, toks := tk }) (strxfrm_tells w x t) B F' X N' T hk hd (by omega) (fun t' h2 tk2 F2 N2 => ⟨h2, tk2, t', rfl, rfl, F2, N2⟩)
  · refine hR D out.toList ts' c h' tk F' ?_ (Texts.ofStrs k1) k2 k3
    have e : lstN out.toList c = seqObj "list" out c := by
      show ({ cls := .type "list", data := .seq out.toList.toArray c } : Obj) = _
      rw [Array.toArray_toList]
    rw [e]
    exact N'
end
end Mine
namespace Mine
theorem same_texts : ∀ ts : List PySem.Str, PySem.Spec.sameAll (ts.map PyData.str) (ts.map PyData.str) = true
  | [] => by simp [PySem.Spec.sameAll]
  | x :: r => by
    simp only [List.map_cons, PySem.Spec.sameAll, PySem.Spec.same, same_texts r]
    simp
theorem shaped_texts {ts : List PySem.Str} (h : ∀ x ∈ ts, ∀ c ∈ x.cps.toList, c < 256) : SeqAt.shaped (.list (ts.map PyData.str)) = true := by
  have e : ts.all PyData.strOk = true := by
    rw [List.all_eq_true]
    intro x hx
    unfold PyData.strOk
    rw [← Array.all_toList, List.all_eq_true]
    intro c hc
    have := h x hx c hc
    exact decide_eq_true (by omega)
  simp [SeqAt.shaped, PyData.canLay0, PyData.depth, canLayAll_strs', depthAll_strs', e]
section
variable {prog : Program} {w : World} {A : Around} {E : Value → Shared → Prop} {s : Shared} {h₀ : Heap} {L : Addr} {m : Str → Option Value} {nw : List (Addr × Obj)}
theorem ne_texts {a b : Addr} {xs ys : List Value} {n k : Nat} {ts : List PySem.Str} {Q : Value → Shared → Prop} (N : News h₀ L s.heap nw) (ha : (a, lstN xs n) ∈ nw) (hb : (b, lstN ys k) ∈ nw) (hi : Texts xs ts) (hj : Texts ys ts) (hw : ∀ x ∈ ts, ∀ c ∈ x.cps.toList, c < 256) (hu : A.units + 64 < cLine) (h : Q (.bool false) s) :
    wpAny (model prog w) A (compareOp .NotEq (.ref a) (.ref b)) Q E s := by
  refine ne_dataH_same (reads_newData (News.isList N ha) hi.strs.carried) (reads_newData (News.isList N hb) hj.strs.carried) (shaped_texts hw) (shaped_texts hw) hu (SeqAt.noMix_of_shape (.list .str) rfl _ _ (list_map_has fun _ => rfl) (list_map_has fun _ => rfl)) ?_
  have e : PySem.Spec.same (.list (ts.map PyData.str)) (.list (ts.map PyData.str)) = true := by
    simp only [PySem.Spec.same]
    exact same_texts ts
  rw [e]
  exact h
theorem ne_three {a b : Addr} {n k : Nat} {p1 p2 p3 q1 q2 q3 : Int} {t1 t2 t3 u1 u2 u3 : Tok} {Q : Value → Shared → Prop} (N : News h₀ L s.heap nw) (ha : (a, W.listOf #[.int p1 t1, .int p2 t2, .int p3 t3] n) ∈ nw) (hb : (b, W.listOf #[.int q1 u1, .int q2 u2, .int q3 u3] k) ∈ nw)
    (e1 : p1 = q1) (e2 : p2 = q2) (e3 : p3 = q3) (hu : A.units + 64 < cLine) (h : Q (.bool false) s) :
    wpAny (model prog w) A (compareOp .NotEq (.ref a) (.ref b)) Q E s := by
  subst e1 e2 e3
  exact ke_ne_ints (ns := [p1, p2, p3]) (ms := [p1, p2, p3]) (xs := [.int p1 t1, .int p2 t2, .int p3 t3]) (ys := [.int p1 u1, .int p2 u2, .int p3 u3]) (News.isList N ha) (News.isList N hb) (.cons _ _ (.cons _ _ (.cons _ _ .nil))) (.cons _ _ (.cons _ _ (.cons _ _ .nil))) hu (by simpa using h)
theorem eq_empty {a b : Addr} {n k : Nat} {Q : Value → Shared → Prop} (N : News h₀ L s.heap nw) (ha : (a, lstN [] n) ∈ nw) (hb : (b, lstN [] k) ∈ nw) (hu : A.units + 64 < cLine) (h : Q (.bool true) s) :
    wpAny (model prog w) A (compareOp .Eq (.ref a) (.ref b)) Q E s :=
  ke_eq_ints (News.isList N ha) (News.isList N hb) .nil .nil hu (by simpa using h)
theorem item_led {value slice : PySem.Expr} {D : Addr} {ys : List Value} {ts : List PySem.Str} {n i : Nat} {u : Tok} {x : PySem.Str} {Q : Value → Shared → Prop} (N : News h₀ L s.heap nw) (hm : (D, lstN ys n) ∈ nw) (hT : Texts ys ts) (hx : ts[i]? = some x) (hb : i < 100000) (h : ∀ t, Q (.str x t) s)
    (hs : subscripted slice false (.ref D) (.int (i : Int) u) = operate [.ref D, .int (i : Int) u] (getItem (.ref D) (.int (i : Int) u))) (hg : ∀ r, letTemporaryGo value (.ref D) r = pure ()) :
    wpAny (model prog w) A (subscriptTail value slice (.ref D) (.int (i : Int) u)) Q E s := by
  obtain ⟨t, e⟩ := hT.get hx
  exact item_listL (News.isList N hm) (by omega) (by omega) (by rw [Int.toNat_natCast]; exact e) (h t) hs hg
end
section
variable {w : World} {E : Value → Shared → Prop} {s : Shared} {h₀ base : Heap} {L : Addr} {m : Str → Option Value} {nw : List (Addr × Obj)} {mean : ExcName → Option Value} {mg mb : Str → Option Value} {dp un : Nat} {gd : Option (List Code)} {cn : Str} {cs : Scope} {a : Addr} {ccd : Value} {cl : List (Str × Addr)} {outer : List Env} {A₀ : Around}
theorem sorted_words {l : Addr} {ys : List Value} {ts : List PySem.Str} {n : Nat} {Q' : Value → Shared → Prop}
    (B : Below A₀ base outer h₀) (F : Fr h₀ L s.heap m) (X : (K w.params).In h₀) (N : News h₀ L s.heap nw) (T : Top Q (looseW Q lo) mean mg mb h₀) (hk : cs.kind = .function) (hd : dp + 5 < recursionLimit) (hu : un + 62 < cLine)
    (hm : (l, lstN ys n) ∈ nw) (hT : Texts ys ts) (h64 : ts.length < 64)
    (hR : ∀ D ys' c h' tk', Fr h₀ L h' m → News h₀ L h' ((D, lstN ys' c) :: nw) → Texts ys' (rising ts) → Q' (.ref D) { s with heap := h', toks := tk' }) :
    wpAny (model PySem.Challenge.rw_pd0096_01.row.prog w) (ktrTop dp un gd cn cs L a ccd cl outer) (call (.builtin "sorted") [.ref l] [(PySem.Str.ofString "key", .ref 129)]) Q' E s := by
  refine sorted_wp B F X N T hk hd hu hm hT h64 fun D ys' ts' c h' tk' F' N' k1 k2 k3 => hR D ys' c h' tk' F' N' ?_
  rw [← sorted_is k3 k2]
  exact k1
theorem sorted_written {l : Addr} {ys : List Value} {ts : List PySem.Str} {n : Nat} {Q' : Value → Shared → Prop}
    (B : Below A₀ base outer h₀) (F : Fr h₀ L s.heap m) (X : (K w.params).In h₀) (N : News h₀ L s.heap nw) (T : Top Q (looseW Q lo) mean mg mb h₀) (hk : cs.kind = .function) (hd : dp + 5 < recursionLimit) (hu : un + 62 < cLine)
    (hm : (l, lstN ys n) ∈ nw) (hT : Texts ys (ts.map figs)) (hw : ∀ x ∈ ts, ∀ c ∈ x.cps.toList, c < 256) (h64 : ts.length < 64)
    (hR : ∀ D ys' c h' tk', Fr h₀ L h' m → News h₀ L h' ((D, lstN ys' c) :: nw) → Texts ys' ((rising ts).map figs) → Q' (.ref D) { s with heap := h', toks := tk' }) :
    wpAny (model PySem.Challenge.rw_pd0096_01.row.prog w) (ktrTop dp un gd cn cs L a ccd cl outer) (call (.builtin "sorted") [.ref l] [(PySem.Str.ofString "key", .ref 129)]) Q' E s := by
  refine sorted_wp B F X N T hk hd hu hm hT (by rw [List.length_map]; exact h64) fun D ys' ts' c h' tk' F' N' k1 k2 k3 => hR D ys' c h' tk' F' N' ?_
  rw [← sorted_figs hw k3 k2]
  exact k1
theorem rising_use {ys : List Value} {ts : List PySem.Str} {lw : Addr} {Q' : Value → Shared → Prop} (hT : Texts ys ts) (hn : ts.length ≤ 10) (hw : ∀ x ∈ ts, x.length ≤ 100)
    (B : Below A₀ base outer h₀) (F : Fr h₀ L s.heap m) (X : (K w.params).In h₀) (N : News h₀ L s.heap nw) (T : Top Q (looseW Q lo) mean mg mb h₀) (hk : cs.kind = .function) (hd : dp + 10 < recursionLimit) (hu : un + 200 < cLine) (hm : (lw, LCg.lst ys) ∈ nw)
    (hR : ∀ (a : Addr) (ys' : List Value) (n : Nat) (h' : Heap) (tk' : Nat), Texts ys' (rising ts) → Fr h₀ L h' m → News h₀ L h' ((a, lstN ys' n) :: nw) → Q' (.ref a) { s with heap := h', toks := tk' }) :
    wpAny (model PySem.Challenge.rw_pd0096_01.row.prog w) (ktrTop dp un gd cn cs L a ccd cl outer) (call (.ref 151) [.ref lw]) Q' E s :=
  rising_tells w ys ts lw hT hn hw mean mg mb nw dp un gd cn cs a ccd cl outer A₀ base h₀ L m s Q' E B F X N T hk hd hu hm hR
end
/-! the words of the law -/
theorem word_size (x : Int) : (wordOf x).cps.size ≤ 2 := by
  have h3 : 0 ≤ x.fmod 3 ∧ x.fmod 3 < 3 := ⟨Int.fmod_nonneg_of_pos x (by decide), Int.fmod_lt_of_pos x (by decide)⟩
  show ((List.range (x.fmod 3).toNat).map (wcode x)).length ≤ 2
  rw [List.length_map, List.length_range]
  omega
theorem word_sign (x : Int) : ∀ c ∈ (wordOf x).cps.toList, c < 256 := by
  intro c hc
  have hc' : c ∈ (List.range (x.fmod 3).toNat).map (wcode x) := hc
  obtain ⟨i, _, rfl⟩ := List.mem_map.mp hc'
  unfold wcode
  have h1 := Int.fmod_nonneg_of_pos ((x.fdiv 3).fdiv (256 ^ i)) (b := 256) (by decide)
  have h2 := Int.fmod_lt_of_pos ((x.fdiv 3).fdiv (256 ^ i)) (b := 256) (by decide)
  omega
theorem figs_small {ts : List PySem.Str} (h : ∀ x ∈ ts, ∀ c ∈ x.cps.toList, c < 256) : ∀ x ∈ ts.map figs, ∀ c ∈ x.cps.toList, c < 256 := by
  intro x hx c hc
  obtain ⟨y, hy, rfl⟩ := List.mem_map.mp hx
  have := figs_sign (h y hy) c hc
  omega
/-- a row: a text and a line feed -/
def nl (x : PySem.Str) : PySem.Str := x ++ PySem.Str.ofString "\n"
theorem nl_is (x : PySem.Str) : nl x = ⟨(x.cps.toList ++ [10]).toArray⟩ := by
  have e : PySem.Str.ofString "\n" = ⟨#[10]⟩ := by decide +kernel
  unfold nl
  rw [e]
  exact cat_text x [10] rfl
theorem nl_len (x : PySem.Str) : (nl x).length = x.length + 1 := by
  rw [nl_is]
  show (x.cps.toList ++ [10]).length = x.cps.size + 1
  simp
theorem nl_cat : ∀ ts : List PySem.Str, catL (ts.map nl) = rowsL (ts.map fun x => x.cps.toList)
  | [] => rfl
  | x :: r => by
    have ih := nl_cat r
    have e1 : catL ((x :: r).map nl) = (nl x).cps.toList ++ catL (r.map nl) := rfl
    have e2 : rowsL ((x :: r).map fun x => x.cps.toList) = (x.cps.toList ++ [10]) ++ rowsL (r.map fun x => x.cps.toList) := rfl
    rw [e1, e2, ih, nl_is]
theorem rows_figs (ws : List PySem.Str) : catL ((ws.map figs).map nl) = rowsL (ws.map fun x => (figs x).cps.toList) := by
  rw [nl_cat, List.map_map]
  rfl
theorem rows_size : ∀ {ts : List PySem.Str} {B : Nat}, (∀ x ∈ ts, x.length ≤ B) → (rowsL (ts.map fun x => x.cps.toList)).length ≤ ts.length * (B + 1)
  | [], _, _ => Nat.zero_le _
  | x :: r, B, h => by
    have ih := rows_size (ts := r) (B := B) fun y hy => h y (List.mem_cons_of_mem _ hy)
    have hx : x.cps.size ≤ B := h x List.mem_cons_self
    have e2 : rowsL ((x :: r).map fun x => x.cps.toList) = (x.cps.toList ++ [10]) ++ rowsL (r.map fun x => x.cps.toList) := rfl
    rw [e2, List.length_append, List.length_append, Array.length_toList, List.length_cons (as := r), Nat.add_mul]
    simp only [List.length_cons, List.length_nil]
    omega
theorem cat_size : ∀ {ts : List PySem.Str} {B : Nat}, (∀ x ∈ ts, x.length ≤ B) → (catL ts).length ≤ ts.length * B
  | [], _, _ => Nat.zero_le _
  | x :: r, B, h => by
    have ih := cat_size (ts := r) (B := B) fun y hy => h y (List.mem_cons_of_mem _ hy)
    have hx : x.cps.size ≤ B := h x List.mem_cons_self
    have e2 : catL (x :: r) = x.cps.toList ++ catL r := rfl
    rw [e2, List.length_append, Array.length_toList, List.length_cons (as := r), Nat.add_mul]
    omega
theorem cat_sign {ts : List PySem.Str} (h : ∀ x ∈ ts, ∀ c ∈ x.cps.toList, c < 256) : ∀ c ∈ catL ts, c < 256 := by
  intro c hc
  unfold catL at hc
  obtain ⟨x, hx, hc⟩ := List.mem_flatMap.mp hc
  exact h x hx c hc
/-- what the law asks of its words -/
def Good (ws : List PySem.Str) : Prop := ws.length ≤ 10 ∧ ws ≠ [] ∧ ∀ x ∈ ws, x.cps.size ≤ 2 ∧ ∀ c ∈ x.cps.toList, c < 256
theorem good_words (ns : List Int) : Good ((ns.take 3 ++ [184, 97, 31, 3, 196025, 35528, 73001]).map wordOf) := by
  refine ⟨?_, ?_, ?_⟩
  · rw [List.length_map, List.length_append, List.length_take]
    simp only [List.length_cons, List.length_nil]
    omega
  · simp
  · intro x hx
    obtain ⟨y, _, rfl⟩ := List.mem_map.mp hx
    exact ⟨word_size y, word_sign y⟩
/-- the names that the law's loops turn -/
def lM (m : Str → Option Value) (c : Option Value × Option Value) (y : Str) : Option Value :=
  if y = PySem.Str.ofString "k" then c.1 else if y = PySem.Str.ofString "due" then c.2 else m y
theorem lM_self (m : Str → Option Value) (y : Str) : m y = lM m (m (PySem.Str.ofString "k"), m (PySem.Str.ofString "due")) y := by
  unfold lM
  by_cases h1 : y = PySem.Str.ofString "k"
  · rw [if_pos h1, h1]
  · rw [if_neg h1]
    by_cases h2 : y = PySem.Str.ofString "due"
    · rw [if_pos h2, h2]
    · rw [if_neg h2]
theorem lM_end {m₀ m' : Str → Option Value} {x : Str} (h : ∀ z, z ≠ x → z ≠ PySem.Str.ofString "k" → z ≠ PySem.Str.ofString "due" → m' z = m₀ z) : ∃ c' : Option Value × Option Value, ∀ z, z ≠ x → m' z = lM m₀ c' z := by
  refine ⟨(m' (PySem.Str.ofString "k"), m' (PySem.Str.ofString "due")), fun z hz => ?_⟩
  unfold lM
  by_cases h1 : z = PySem.Str.ofString "k"
  · rw [if_pos h1, h1]
  · rw [if_neg h1]
    by_cases h2 : z = PySem.Str.ofString "due"
    · rw [if_pos h2, h2]
    · rw [if_neg h2]
      exact h z hz h1 h2
section
variable {prog : Program} {w : World} {A : Around} {E : Value → Shared → Prop} {s : Shared} {env : Env} {h₀ : Heap} {x : Str} {body : List Stmt} {Q : Flow → Shared → Prop}
/-- the law's loops -/
theorem lfor {r : Addr} {b₀ : Int} {t₀ u₀ v₀ : Tok} {n : Nat} {m₀ : Str → Option Value} {news : List (Addr × Obj)}
    (hh : A.handled = none) (hr : IsRange s.heap r 0 b₀ 1 t₀ u₀ v₀) (hsmall : Builtin.Range.small 0 b₀ 1 = true) (hn : b₀ = (n : Int)) (F : Fr h₀ env.locals s.heap m₀) (N : News h₀ env.locals s.heap news)
    (turn : ∀ (i : Nat) (t : Tok) (c : Option Value × Option Value) (h : Heap) (tk : Nat) (nw : List (Addr × Obj)), i < n → Fr h₀ env.locals h (fun y => if y = x then some (.int (i : Int) t) else lM m₀ c y) → News h₀ env.locals h nw → (∀ p ∈ news, p ∈ nw) →
      wpAny (model prog w) A (execs body env) (LoopTurn h₀ env.locals s nw (fun m' => ∃ c' : Option Value × Option Value, ∀ z, z ≠ x → m' z = lM m₀ c' z) Q) E { s with heap := h, toks := tk })
    (done : ∀ (c : Option Value × Option Value) (u : Option Value) (h : Heap) (tk : Nat), Fr h₀ env.locals h (fun y => if y = x then u else lM m₀ c y) → News h₀ env.locals h news → Q .next { s with heap := h, toks := tk }) :
    wpAny (model prog w) A (pyIter (.ref r)) (fun it s₂ => LoopAtV prog w A h₀ env x body Q E it s₂) E s := by
  refine for_range (lM m₀) (fun _ _ => True) (m₀ (PySem.Str.ofString "k"), m₀ (PySem.Str.ofString "due")) hh hr hsmall hn F N (fun z _ => lM_self _ z) trivial ?_ ?_
  · intro i t c h tk nw hi _ F' N' hs
    refine wpAny_mono (turn i t c h tk nw hi F' N' hs) (fun f s' hf => ?_) fun _ _ e => e
    cases f with
    | ret v => exact hf
    | brk => exact hf
    | next =>
      obtain ⟨h', tk', m', e, F2, N2, c', hc⟩ := hf
      exact ⟨h', tk', m', e, F2, N2, c', trivial, hc⟩
    | cont =>
      obtain ⟨h', tk', m', e, F2, N2, c', hc⟩ := hf
      exact ⟨h', tk', m', e, F2, N2, c', trivial, hc⟩
  · intro c u h tk _ F' N'
    exact done c u h tk F' N'
end
end Mine
namespace Mine
theorem startFA : True := by
  w_top off
  trivial
local macro_rules | `(tactic| k_mem) => `(tactic| first | exact (List.mem_cons_of_mem _ (List.mem_cons_of_mem _ (List.mem_cons_of_mem _ (List.mem_cons_of_mem _ (List.mem_cons_of_mem _ (List.mem_cons_of_mem _ (List.mem_cons_of_mem _ (by assumption)))))))) | exact (List.mem_cons_of_mem _ (List.mem_cons_of_mem _ (List.mem_cons_of_mem _ (List.mem_cons_of_mem _ (List.mem_cons_of_mem _ (List.mem_cons_of_mem _ (List.mem_cons_of_mem _ List.mem_cons_self))))))) | exact (List.mem_cons_of_mem _ (List.mem_cons_of_mem _ (List.mem_cons_of_mem _ (List.mem_cons_of_mem _ (List.mem_cons_of_mem _ (List.mem_cons_of_mem _ (List.mem_cons_of_mem _ (List.mem_cons_of_mem _ (by assumption))))))))) | exact (List.mem_cons_of_mem _ (List.mem_cons_of_mem _ (List.mem_cons_of_mem _ (List.mem_cons_of_mem _ (List.mem_cons_of_mem _ (List.mem_cons_of_mem _ (List.mem_cons_of_mem _ (List.mem_cons_of_mem _ List.mem_cons_self)))))))) | fail "k_mem")
local macro_rules | `(tactic| k_mem) => `(tactic| first | exact (List.mem_cons_of_mem _ (List.mem_cons_of_mem _ (List.mem_cons_of_mem _ (List.mem_cons_of_mem _ (List.mem_cons_of_mem _ (by assumption)))))) | exact (List.mem_cons_of_mem _ (List.mem_cons_of_mem _ (List.mem_cons_of_mem _ (List.mem_cons_of_mem _ (List.mem_cons_of_mem _ List.mem_cons_self))))) | exact (List.mem_cons_of_mem _ (List.mem_cons_of_mem _ (List.mem_cons_of_mem _ (List.mem_cons_of_mem _ (List.mem_cons_of_mem _ (List.mem_cons_of_mem _ (by assumption))))))) | exact (List.mem_cons_of_mem _ (List.mem_cons_of_mem _ (List.mem_cons_of_mem _ (List.mem_cons_of_mem _ (List.mem_cons_of_mem _ (List.mem_cons_of_mem _ List.mem_cons_self)))))) | fail "k_mem")
local macro_rules | `(tactic| k_mem) => `(tactic| first | exact (List.mem_cons_of_mem _ (List.mem_cons_of_mem _ (List.mem_cons_of_mem _ (by assumption)))) | exact (List.mem_cons_of_mem _ (List.mem_cons_of_mem _ (List.mem_cons_of_mem _ List.mem_cons_self))) | exact (List.mem_cons_of_mem _ (List.mem_cons_of_mem _ (List.mem_cons_of_mem _ (List.mem_cons_of_mem _ (by assumption))))) | exact (List.mem_cons_of_mem _ (List.mem_cons_of_mem _ (List.mem_cons_of_mem _ (List.mem_cons_of_mem _ List.mem_cons_self)))) | fail "k_mem")
local macro_rules | `(tactic| k_mem) => `(tactic| first | assumption | exact List.mem_cons_self | exact (List.mem_cons_of_mem _ (by assumption)) | exact (List.mem_cons_of_mem _ List.mem_cons_self) | exact (List.mem_cons_of_mem _ (List.mem_cons_of_mem _ (by assumption))) | exact (List.mem_cons_of_mem _ (List.mem_cons_of_mem _ List.mem_cons_self)) | fail "k_mem")
local macro_rules | `(tactic| walk_at "exec Assign cons ListComp") => `(tactic| (k_here; k_dflt (refine Assign_ListComp_1 (F₀ := by k_asm) (by rfl) (by with_unfolding_all rfl) (by with_unfolding_all rfl) (by decide) (by rfl) (by decide) (by rfl) (by rfl) (by rfl) ?_)))
local macro_rules | `(tactic| walk_at "call ref") => `(tactic| (k_here; (with_reducible show wpAny _ _ (call (Value.ref 134) [Value.int _ _]) _ _ _); k_dflt (refine' TellsR.use (word_tells _ _ _) ?k1 ?k2 ?k3 ?k4 ?k5 ?kK ?kd ?ku ?_; (case k1 => k_asm); (case k2 => k_asm); (case k3 => k_asm); (case k4 => k_asm); (case k5 => k_asm); (case kK => first | exact rfl | assumption); (case kd => ktr_room); (case ku => ktr_units)); intro t9 h9 tk9 F9 N9; (try dsimp only); (try k_fold)))
local macro_rules | `(tactic| walk_at "eval ListComp") => `(tactic| (k_here; k_dflt (refine ListComp_1 (F₀ := by k_asm) (by rfl) (by decide) (by rfl) (by decide) (by rfl) ?_)))
local macro_rules | `(tactic| walk_at "eval ListComp") => `(tactic| (k_here; (with_reducible show wpAny _ _ (PySem.eval (PySem.Expr.ListComp (PySem.Expr.Call (PySem.Expr.Name (PySem.Str.ofString "quote") _) _ _ _) _ _ _) _) _ _ _); k_dflt (refine ListComp_str (F₀ := by k_asm) (by rfl) (by decide) (by rfl) (by decide) (by rfl) ?_)))
local macro_rules | `(tactic| walk_at "call ref") => `(tactic| (k_here; (with_reducible show wpAny _ _ (call (Value.ref 80) [Value.str _ _]) _ _ _); k_dflt (refine' TellsR.use (Tells.toR (quote_tells _ _ (by assumption) _)) ?k1 ?k2 ?k3 ?k4 ?k5 ?kK ?kd ?ku ?_; (case k1 => k_asm); (case k2 => k_asm); (case k3 => k_asm); (case k4 => k_asm); (case k5 => k_asm); (case kK => first | exact rfl | assumption); (case kd => ktr_room); (case ku => ktr_units)); intro t9 h9 tk9 F9 N9; (try dsimp only); (try k_fold)))
local macro_rules | `(tactic| walk_at "call ref") => `(tactic| (k_here; (with_reducible show wpAny _ _ (call (Value.ref 146) [Value.str _ _]) _ _ _); k_dflt (refine' TellsR.use (figures_tells _ _ (by assumption) (by assumption) _) ?k1 ?k2 ?k3 ?k4 ?k5 ?kK ?kd ?ku ?_; (case k1 => k_asm); (case k2 => k_asm); (case k3 => k_asm); (case k4 => k_asm); (case k5 => k_asm); (case kK => first | exact rfl | assumption); (case kd => ktr_room); (case ku => ktr_units)); intro t9 h9 tk9 F9 N9; (try dsimp only); (try k_fold)))
local macro_rules | `(tactic| walk_at "compareOp NotEq ref ref") => `(tactic| (k_here; k_dflt (refine ne_texts (by k_asm) (by k_mem) (by k_mem) (by assumption) (by assumption) (by assumption) (by ke_room) ?_)))
local macro_rules | `(tactic| walk_at "call builtin:len") => `(tactic| (k_here; k_dflt (refine len_led (by k_asm) (by k_mem) (by assumption) (by omega) ?_)))
local macro_rules | `(tactic| walk_at "pyIter ref") => `(tactic| (k_here; (with_reducible show wpAny _ _ (pyIter _) _ _ _); refine Stop.out ?_))
local macro_rules | `(tactic| walk_at "call ref") => `(tactic| (k_here; (with_reducible show wpAny _ _ (call (Value.ref 115) [Value.str (figs _) _]) _ _ _); k_dflt (refine' TellsR.use (hdecode_tells _ _ _ (by assumption) (by assumption)) ?k1 ?k2 ?k3 ?k4 ?k5 ?kK ?kd ?ku ?_; (case k1 => k_asm); (case k2 => k_asm); (case k3 => k_asm); (case k4 => k_asm); (case k5 => k_asm); (case kK => first | exact rfl | assumption); (case kd => ktr_room); (case ku => ktr_units)); intro t9 h9 tk9 F9 N9; (try dsimp only); (try k_fold)))
local macro_rules | `(tactic| walk_at "call ref") => `(tactic| (k_here; (with_reducible show wpAny _ _ (call (Value.ref 101) [Value.str (figs _) _]) _ _ _); k_dflt (refine' TellsR.use (decode_any _ _ _ (by assumption) (by assumption)) ?k1 ?k2 ?k3 ?k4 ?k5 ?kK ?kd ?ku ?_; (case k1 => k_asm); (case k2 => k_asm); (case k3 => k_asm); (case k4 => k_asm); (case k5 => k_asm); (case kK => first | exact rfl | assumption); (case kd => ktr_room); (case ku => ktr_units)); intro t9 h9 tk9 F9 N9; (try dsimp only); (try k_fold)))
local macro_rules | `(tactic| walk_at "call ref") => `(tactic| (k_here; (with_reducible show wpAny _ _ (call (Value.ref 141) [Value.str _ _, Value.str _ _]) _ _ _); k_dflt (refine' TellsR.use (order_tells _ _ _ (by assumption) (by assumption) _ _) ?k1 ?k2 ?k3 ?k4 ?k5 ?kK ?kd ?ku ?_; (case k1 => k_asm); (case k2 => k_asm); (case k3 => k_asm); (case k4 => k_asm); (case k5 => k_asm); (case kK => first | exact rfl | assumption); (case kd => ktr_room); (case ku => ktr_units)); intro t9 h9 tk9 F9 N9; (try dsimp only); (try k_fold)))
local macro_rules | `(tactic| walk_at "call ref") => `(tactic| (k_here; (with_reducible show wpAny _ _ (call (Value.ref 122) [Value.str _ _, Value.str _ _]) _ _ _); k_dflt (refine' TellsR.use (strcoll_tells _ _ _ (by assumption) (by assumption) _ _) ?k1 ?k2 ?k3 ?k4 ?k5 ?kK ?kd ?ku ?_; (case k1 => k_asm); (case k2 => k_asm); (case k3 => k_asm); (case k4 => k_asm); (case k5 => k_asm); (case kK => first | exact rfl | assumption); (case kd => ktr_room); (case ku => ktr_units)); intro t9 h9 tk9 F9 N9; (try dsimp only); (try k_fold)))
local macro_rules | `(tactic| walk_at "call ref") => `(tactic| (k_here; (with_reducible show wpAny _ _ (call (Value.ref 151) [Value.ref _]) _ _ _); k_dflt (refine' rising_use ?kT ?kn ?kw ?k1 ?k2 ?k3 ?k4 ?k5 ?kK ?kd ?ku ?km ?_; (case k1 => k_asm); (case k2 => k_asm); (case k3 => k_asm); (case k4 => k_asm); (case k5 => k_asm); (case kK => first | exact rfl | assumption); (case kd => ktr_room); (case ku => ktr_units); (case km => k_mem); (case kT => assumption); (case kn => omega); (case kw => assumption)); intro D9 ys9 c9 h9 tk9 T9 F9 N9; (try dsimp only); (try k_fold)))
local macro_rules | `(tactic| walk_at "call builtin:sorted") => `(tactic| (k_here; (show wpAny _ _ (call (Value.builtin "sorted") [Value.ref _] [(PySem.Str.ofString "key", Value.ref 129)]) _ _ _); k_dflt (refine' sorted_words ?k1 ?k2 ?k3 ?k4 ?k5 ?kK ?kd ?ku ?km ?kT ?kn ?_; (case k1 => k_asm); (case k2 => k_asm); (case k3 => k_asm); (case k4 => k_asm); (case k5 => k_asm); (case kK => first | exact rfl | assumption); (case kd => ktr_room); (case ku => ktr_units); (case km => k_mem); (case kT => assumption); (case kn => omega)); intro D9 ys9 c9 h9 tk9 F9 N9 T9; (try dsimp only); (try k_fold)))
local macro_rules | `(tactic| walk_at "call builtin:sorted") => `(tactic| (k_here; (show wpAny _ _ (call (Value.builtin "sorted") [Value.ref _] [(PySem.Str.ofString "key", Value.ref 129)]) _ _ _); k_dflt (refine' sorted_written ?k1 ?k2 ?k3 ?k4 ?k5 ?kK ?kd ?ku ?km ?kT ?kw ?kn ?_; (case k1 => k_asm); (case k2 => k_asm); (case k3 => k_asm); (case k4 => k_asm); (case k5 => k_asm); (case kK => first | exact rfl | assumption); (case kd => ktr_room); (case ku => ktr_units); (case km => k_mem); (case kT => assumption); (case kn => omega); (case kw => assumption)); intro D9 ys9 c9 h9 tk9 F9 N9 T9; (try dsimp only); (try k_fold)))
local macro_rules | `(tactic| walk_at "subscriptTail Name Name ref int") => `(tactic| (k_here; k_dflt (refine item_led (by k_asm) (by k_mem) (by assumption) (by assumption) (by omega) ?_ (by with_unfolding_all rfl) (by intro _; with_unfolding_all rfl)); intro t9))
local macro_rules | `(tactic| walk_at "compareOp NotEq ref ref") => `(tactic| (k_here; k_dflt (refine ne_three (by k_asm) (by k_mem) (by k_mem) rfl (by assumption) (by assumption) (by ke_room) ?_)))
local macro_rules | `(tactic| walk_at "execs cons") => `(tactic| (k_here; (try k_gentoks); (with_reducible refine wpAny_execs_cons ?_); (try dsimp only)))
local macro_rules | `(tactic| walk_at "call ref") => `(tactic| (k_here; (with_reducible show wpAny _ _ (call (Value.ref 101) [Value.str (PySem.Str.mk (List.toArray (rowsL _))) _]) _ _ _); k_dflt (refine' TellsR.use (decode_rows _ _ _ (by assumption) (by assumption) (by assumption) (by assumption)) ?k1 ?k2 ?k3 ?k4 ?k5 ?kK ?kd ?ku ?_; (case k1 => k_asm); (case k2 => k_asm); (case k3 => k_asm); (case k4 => k_asm); (case k5 => k_asm); (case kK => first | exact rfl | assumption); (case kd => ktr_room); (case ku => ktr_units)); intro t9 h9 tk9 F9 N9; (try dsimp only); (try k_fold)))
local macro_rules | `(tactic| walk_at "eval ListComp") => `(tactic| (k_here; lct_look; k_dflt (refine ListComp_strT (F₀ := by k_asm) (by rfl) (by decide) (by rfl) (by decide) (by rfl) ?_)))
local macro_rules | `(tactic| walk_at "call ref") => `(tactic| (k_here; (with_reducible show wpAny _ _ (call (Value.ref 158) [Value.str _ _]) _ _ _); k_dflt (refine' TellsR.use (checked_tells _ _ (by assumption) _) ?k1 ?k2 ?k3 ?k4 ?k5 ?kK ?kd ?ku ?_; (case k1 => k_asm); (case k2 => k_asm); (case k3 => k_asm); (case k4 => k_asm); (case k5 => k_asm); (case kK => first | exact rfl | assumption); (case kd => ktr_room); (case ku => ktr_units)); intro t9 h9 tk9 F9 N9; (try dsimp only); (try k_fold)))
local macro_rules | `(tactic| walk_at "compareOp Eq ref ref") => `(tactic| (k_here; k_dflt (refine eq_empty (by k_asm) (by k_mem) (by k_mem) (by ke_room) ?_)))
set_option maxHeartbeats 1500000 in
theorem walk : LawWalk := by
  have hfill : ∀ (w : World) (h : Heap), (K w.params).In h → PySem.Challenge.rw_pd0096_01.row.prog = PySem.Challenge.rw_pd0096_01.row.prog := by
    k_fill
    intros
    rfl
  clear hfill
  k_go0
  (all_goals try k_fold)
  k_steps
  rename IntsAre _ (_ ++ _) => hI
  unfold Src1
  have hIl := hI.length
  refine LCg.CompSrc.ledger rfl (by k_asm) (by k_asm) List.mem_cons_self (by rw [sizeLine_eq, List.size_toArray, hIl, List.length_append, List.length_take]; simp only [List.length_cons, List.length_nil]; omega) fun g => ?_
  rename List Int => ns
  have hgood := good_words ns
  generalize (List.take 3 ns ++ [184, 97, 31, 3, 196025, 35528, 73001] : List Int) = xs at hI hIl hgood
  refine comp_rest (G := fun i y => ∃ (x' : PySem.Str) (t : Tok), (xs.map wordOf)[i]? = some x' ∧ y = Value.str x' t) (.inr ⟨_, List.mem_cons_self, rfl, _, rfl⟩) ?_ ?_
  · intro i v C oC m₂ h tk E' nw hi hv hC hm F N hmem hsub
    obtain ⟨x, u, rfl, hx⟩ := hI.at i v (by simpa using hv)
    dsimp only
    k_steps
    exact TurnEnd.intro (by k_asm) (by k_asm) ⟨wordOf x, _, by rw [List.getElem?_map, hx]; rfl, rfl⟩
  · intro ys hlen hG
    have hT := Texts.ofL (ts := xs.map wordOf) (by rw [hlen, List.size_toArray, List.length_map]; exact hIl) hG
    clear hG hlen
    generalize xs.map wordOf = ws at hT hgood
    obtain ⟨g1, g2, g3⟩ := hgood
    have hyl := hT.length
    have g4 : ∀ x ∈ ws, x.length ≤ 100 := fun x hx => Nat.le_trans (g3 x hx).1 (by decide)
    have g6 : ∀ x ∈ rising ws, x.cps.size ≤ 2 ∧ ∀ c ∈ x.cps.toList, c < 256 := fun x hx => g3 x ((rising_perm ws).mem_iff.mp hx)
    have g7 : ∀ x ∈ rising ws, ∀ c ∈ x.cps.toList, c < 256 := fun x hx => (g6 x hx).2
    have g8 : ∀ x ∈ (rising ws).map figs, ∀ c ∈ x.cps.toList, c < 256 := figs_small g7
    have g9 : (rising ws).length ≤ 10 := by rw [(rising_perm ws).length_eq]; exact g1
    have fsz : ∀ x ∈ ws.map figs, x.length ≤ 6 := fun x hx => by
      obtain ⟨y, hy, rfl⟩ := List.mem_map.mp hx
      have := (g3 y hy).1
      rw [figs_size]
      omega
    have g5 : ∀ x ∈ ws, ∀ c ∈ x.cps.toList, c < 256 := fun x hx => (g3 x hx).2
    unfold LCg.FinA
    intro D1 h1 tk1 F1 N1 o1
    k_steps
    unfold Src1
    refine LCg.CompSrc.ledger rfl (by k_asm) (by k_asm) List.mem_cons_self (by rw [sizeLine_eq, List.size_toArray]; omega) fun g => ?_
    refine comp_rest (G := fun i y => ∃ (x' : PySem.Str) (t : Tok), (ws.map figs)[i]? = some x' ∧ y = Value.str x' t) (.inr ⟨_, List.mem_cons_self, rfl, _, rfl⟩) ?_ ?_
    · intro i v C oC m₂ h tk E' nw hi hv hC hm F N hmem hsub
      obtain ⟨x, u, hgx, rfl⟩ := hT.at (by simpa using hv)
      obtain ⟨x1, x2⟩ := g3 x (List.mem_of_getElem? hgx)
      dsimp only
      k_steps
      refine SrcStr.intro rfl (by k_asm) (by k_asm) (by rw [sizeLine_eq]; omega) fun g => ?_
      refine comp_rest (G := fun i y => ∃ (x' : PySem.Str) (t : Tok), (x.cps.toList.map hx)[i]? = some x' ∧ y = Value.str x' t) trivial ?_ ?_
      · intro i v C oC m₂ h tk E' nw hi hv hC hm F N hmem hsub
        obtain ⟨c, u, hc, rfl⟩ := hv
        have hc1 : x.cps.toList[i]? = some c := by rw [Array.getElem?_toList]; exact hc
        have hc256 : c < 256 := x2 c (List.mem_of_getElem? hc1)
        dsimp only
        k_steps
        exact TurnEnd.intro (by k_asm) (by k_asm) ⟨hx c, _, by rw [List.getElem?_map, hc1]; rfl, rfl⟩
      · intro zs hlen hG
        have hZ := Texts.ofL (ts := x.cps.toList.map hx) (by rw [hlen]; simp) hG
        unfold LCg.FinE
        intro D2 h2 tk2 F2 N2 o2
        k_steps
        refine join_led (by k_asm) List.mem_cons_self hZ 3 (fun y hy => ?_) (by simp; omega) fun t' k => ?_
        · obtain ⟨c, _, rfl⟩ := List.mem_map.mp hy
          exact Nat.le_of_eq (hx_len c)
        · rw [figs_cat]
          exact TurnEnd.intro (by k_asm) (cb_drop (by k_asm) (fun p hp => List.mem_cons_of_mem _ hp)) ⟨figs x, _, by rw [List.getElem?_map, hgx]; rfl, rfl⟩
    · intro zs hlen hG
      have hZ := Texts.ofL (ts := ws.map figs) (by rw [hlen, List.size_toArray, List.length_map]; exact hyl) hG
      clear hG hlen
      have hzl := hZ.length
      rw [List.length_map] at hzl
      unfold LCg.FinA
      intro D2 h2 tk2 F2 N2 o2
      k_steps
      unfold Src1
      refine LCg.CompSrc.ledger rfl (by k_asm) (by k_asm) (its := ys.toArray) (k := ys.length) (by k_mem) (by rw [sizeLine_eq, List.size_toArray]; omega) fun g => ?_
      refine comp_rest (G := fun i y => ∃ (x' : PySem.Str) (t : Tok), (ws.map figs)[i]? = some x' ∧ y = Value.str x' t) (.inr ⟨_, by k_mem, rfl, _, rfl⟩) ?_ ?_
      · intro i v C oC m₂ h tk E' nw hi hv hC hm F N hmem hsub
        obtain ⟨x, u, hgx, rfl⟩ := hT.at (by simpa using hv)
        obtain ⟨x1, x2⟩ := g3 x (List.mem_of_getElem? hgx)
        dsimp only
        k_steps
        exact TurnEnd.intro (by k_asm) (by k_asm) ⟨figs x, _, by rw [List.getElem?_map, hgx]; rfl, rfl⟩
      · intro us hlen hG
        have hU := Texts.ofL (ts := ws.map figs) (by rw [hlen, List.size_toArray, List.length_map]; exact hyl) hG
        have fsg : ∀ x ∈ ws.map figs, ∀ c ∈ x.cps.toList, c < 256 := by
          intro x hx c hc
          obtain ⟨y, hy, rfl⟩ := List.mem_map.mp hx
          have := figs_sign (g3 y hy).2 c hc
          omega
        clear hG hlen
        unfold LCg.FinE
        intro D3 h3 tk3 F3 N3 o3
        k_steps
        unfold Stop
        rename Fr _ _ _ _ => FL
        rename News _ _ _ _ => NL
        refine lfor (n := ws.length) rfl (by assumption) (by exact small_one (by decide) (by decide) (by omega) (by omega)) rfl FL NL ?_ ?_
        · intro j tj cj h tk nw hj F N hsub
          unfold lM at F
          dsimp only
          obtain ⟨x, hx⟩ : ∃ x, ws[j]? = some x := ⟨_, List.getElem?_eq_getElem hj⟩
          have hzx : (ws.map figs)[j]? = some (figs x) := by rw [List.getElem?_map, hx]; rfl
          obtain ⟨x1, x2⟩ := g3 x (List.mem_of_getElem? hx)
          have m1 := hsub (D1, LCg.lst ys) (by k_mem)
          have m2 := hsub (D2, LCg.lst zs) (by k_mem)
          k_steps
          · exact (ne_self (by assumption)).elim
          · unfold Stop
            rename Fr _ _ _ _ => FI
            rename News _ _ _ _ => NI
            refine lfor (n := j + 1) rfl (by assumption) (by exact small_one (by decide) (by decide) (by omega) (by omega)) (by omega) FI NI ?_ ?_
            · intro k tkk ck h tk nw' hk F N hsub'
              unfold lM at F
              dsimp only
              have hkn : k < ws.length := by omega
              obtain ⟨y, hy⟩ : ∃ y, ws[k]? = some y := ⟨_, List.getElem?_eq_getElem hkn⟩
              have hzy : (ws.map figs)[k]? = some (figs y) := by rw [List.getElem?_map, hy]; rfl
              obtain ⟨y1, y2⟩ := g3 y (List.mem_of_getElem? hy)
              have n1 := hsub' (D1, LCg.lst ys) (by k_mem)
              have n2 := hsub' (D2, LCg.lst zs) (by k_mem)
              have f1 : lexI (figs x).cps.toList (figs y).cps.toList = lexI x.cps.toList y.cps.toList := lex_figs x2 y2
              have f2 : lexI (figs y).cps.toList (figs x).cps.toList = 0 - lexI x.cps.toList y.cps.toList := by rw [← lex_swap]; exact lex_figs y2 x2
              have l1 : x.length ≤ 1000 := Nat.le_trans x1 (by decide)
              have l2 : y.length ≤ 1000 := Nat.le_trans y1 (by decide)
              have l3 : (figs x).length ≤ 1000 := by rw [figs_size]; omega
              have l4 : (figs y).length ≤ 1000 := by rw [figs_size]; omega
              k_steps
              refine LoopTurn.next (by k_asm) (cb_drop (by k_asm) ?_) (lM_end fun z z1 z2 z3 => ?_)
              · intro p hp
                repeat (first | exact hp | apply List.mem_cons_of_mem)
              · simp only [if_neg z1, if_neg z2, if_neg z3]
            · intro ck uk h tk F N
              unfold lM at F
              dsimp only
              k_steps
              refine LoopTurn.next (by k_asm) (by k_asm) (lM_end fun z z1 z2 z3 => ?_)
              simp only [if_neg z1, if_neg z2, if_neg z3]
        · intro cj uj h tk F N
          unfold lM at F
          dsimp only
          k_steps
          unfold Src1
          rename Fr _ _ _ _ => FR
          rename News _ _ _ _ => NR
          refine LCg.CompSrc.ledger rfl FR NR (by k_mem) (by rw [sizeLine_eq, List.size_toArray, Texts.length (by assumption)]; omega) fun g => ?_
          refine comp_rest (G := fun i y => ∃ (x' : PySem.Str) (t : Tok), ((rising ws).map figs)[i]? = some x' ∧ y = Value.str x' t) (.inr ⟨_, by k_mem, rfl, _, rfl⟩) ?_ ?_
          · intro i v C oC m₂ h tk E' nw hi hv hC hm F N hmem hsub
            rw [List.getElem?_toArray] at hv
            obtain ⟨x, u, hgx, rfl⟩ := Texts.at (by assumption) hv
            obtain ⟨x1, x2⟩ := g6 x (List.mem_of_getElem? hgx)
            dsimp only
            k_steps
            exact TurnEnd.intro (by k_asm) (by k_asm) ⟨figs x, _, by rw [List.getElem?_map, hgx]; rfl, rfl⟩
          · intro us' hlen hG
            have hU' := Texts.ofL (ts := (rising ws).map figs) (by rw [hlen, List.size_toArray, List.length_map]; exact Texts.length (by assumption)) hG
            clear hG hlen
            unfold LCg.FinE
            intro D4 h4 tk4 F4 N4 o4
            k_steps
            unfold Src1
            refine LCg.CompSrc.ledger rfl (by k_asm) (by k_asm) (its := zs.toArray) (k := zs.length) (by k_mem) (by rw [sizeLine_eq, List.size_toArray]; omega) fun g => ?_
            refine comp_rest (G := fun i y => ∃ (x' : PySem.Str) (t : Tok), ((ws.map figs).map nl)[i]? = some x' ∧ y = Value.str x' t) (.inr ⟨_, by k_mem, rfl, _, rfl⟩) ?_ ?_
            · intro i v C oC m₂ h tk E' nw hi hv hC hm F N hmem hsub
              rw [List.getElem?_toArray] at hv
              obtain ⟨x, u, hgx, rfl⟩ := hZ.at hv
              have hxl := fsz x (List.mem_of_getElem? hgx)
              dsimp only
              k_steps
              exact TurnEnd.intro (by k_asm) (by k_asm) ⟨nl x, _, by rw [List.getElem?_map, hgx]; rfl, rfl⟩
            · intro rs hlen hG
              have hRs := Texts.ofL (ts := (ws.map figs).map nl) (by rw [hlen, List.size_toArray, List.length_map, List.length_map]; exact hzl) hG
              clear hG hlen
              unfold LCg.FinE
              intro D5 h5 tk5 F5 N5 o5
              k_steps
              refine join_led (by k_asm) List.mem_cons_self hRs 7 (fun y hy => ?_) (by simp; omega) fun t' k => ?_
              · obtain ⟨c, hc, rfl⟩ := List.mem_map.mp hy
                rw [nl_len]
                have := fsz c hc
                omega
              · rw [rows_figs]
                have hsz : (rowsL (ws.map fun x => (figs x).cps.toList)).length ≤ 1000 := by
                  have := rows_size (ts := ws.map figs) fsz
                  rw [List.map_map, List.length_map] at this
                  exact Nat.le_trans this (by omega)
                k_steps
                unfold Src1
                refine LCg.CompSrc.ledger rfl (by k_asm) (by k_asm) (its := ys.toArray) (k := ys.length) (by k_mem) (by rw [sizeLine_eq, List.size_toArray]; omega) fun g => ?_
                refine comp_rest (G := fun i y => ∃ (x' : PySem.Str) (t : Tok), (ws.map nl)[i]? = some x' ∧ y = Value.str x' t) (.inr ⟨_, by k_mem, rfl, _, rfl⟩) ?_ ?_
                · intro i v C oC m₂ h tk E' nw hi hv hC hm F N hmem hsub
                  rw [List.getElem?_toArray] at hv
                  obtain ⟨x, u, hgx, rfl⟩ := hT.at hv
                  have hxl := g4 x (List.mem_of_getElem? hgx)
                  dsimp only
                  k_steps
                  exact TurnEnd.intro (by k_asm) (by k_asm) ⟨nl x, _, by rw [List.getElem?_map, hgx]; rfl, rfl⟩
                · intro rs' hlen hG
                  have hRs' := Texts.ofL (ts := ws.map nl) (by rw [hlen, List.size_toArray, List.length_map]; exact hyl) hG
                  clear hG hlen
                  unfold LCg.FinE
                  intro D6 h6 tk6 F6 N6 o6
                  k_steps
                  refine join_led (by k_asm) List.mem_cons_self hRs' 101 (fun y hy => ?_) (by simp; omega) fun t' k => ?_
                  · obtain ⟨c, hc, rfl⟩ := List.mem_map.mp hy
                    rw [nl_len]
                    have := g4 c hc
                    omega
                  · rw [nl_cat]
                    k_steps
                    · refine join_led (by k_asm) (by k_mem) hT 2 (fun y hy => (g3 y hy).1) (by omega) fun t' k => ?_
                      refine SrcStrT.intro rfl (by k_asm) (by k_asm) (by rw [sizeLine_eq]; exact Nat.le_trans (cat_size (B := 2) fun y hy => (g3 y hy).1) (by omega)) fun g => ?_
                      refine comp_restT (J := fun _ zs => zs = []) trivial rfl ?_ ?_
                      · intro i v us C oC m₂ h tk E' nw hi hv hJ hC hm F N hmem hsub
                        obtain ⟨c, u, hc, rfl⟩ := hv
                        have hc256 : c < 256 := cat_sign g5 c (by have := Array.mem_of_getElem? hc; simpa using this)
                        dsimp only
                        k_steps
                        exact TurnEnd.intro (by k_asm) (by k_asm) hJ
                      · intro us hJ
                        subst hJ
                        unfold LCg.FinE
                        intro D7 h7 tk7 F7 N7 o7
                        k_steps
end Mine
set_option maxRecDepth 100000 in
theorem PySem.Challenge.cw_pd0096_01_holds : PySem.Challenge.rw_pd0096_01.Holds :=
  Mine.headed Mine.walk
